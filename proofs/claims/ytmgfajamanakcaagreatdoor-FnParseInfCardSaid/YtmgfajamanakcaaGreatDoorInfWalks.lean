/-
  FnParseInf, the walks: Float.Parse of the six texts of infinity, and the law's own walk. Conditions: the arguments fit their kinds.
-/
import Derived.Test.YtmgfajamanakcaaGreatDoorProg
import Derived.WalkKit
import Derived.WalkSpells
import Derived.WalkLawsBesides
import Derived.BigRegion
import Derived.BigQuiet
import Derived.Deep.RegionWith
import Derived.Lib.Hide
import Derived.Deep.DeepFit
import Derived.Deep.DeepMust
namespace Go.Proofs.YtmgfajamanakcaaGreatDoor
open Go.RowKit
set_option maxRecDepth 100000
set_option linter.unusedVariables false
theorem bcell {W w1 : World} (hb : Below W.heap.size W w1) : (∀ b o, b < W.heap.size → w1.cell? ⟨b, o, none⟩ = W.cell? ⟨b, o, none⟩) ∧ (∀ b o, b < W.heap.size → w1.frozen? ⟨b, o, none⟩ = W.frozen? ⟨b, o, none⟩) :=
  ⟨fun b o h => hb.cell (p := ⟨b, o, none⟩) h, fun b o h => hb.frozen (p := ⟨b, o, none⟩) h⟩
abbrev infRes (p : Int) (neg : Bool) : Value := .tuple #[.agg #[.int .u64 p, .int .i64 0, .int .i64 2, .bool neg, .slice none 0 0, .int .i64 0], .int .i64 0, .int .i64 0, .bool true]
/-- The six texts and whether they are below 0. -/
def InfText (s : ByteArray) (n : Bool) : Prop :=
  (s = ⟨#[105, 110, 102]⟩ ∧ n = false) ∨ (s = ⟨#[73, 110, 102]⟩ ∧ n = false) ∨ (s = ⟨#[43, 105, 110, 102]⟩ ∧ n = false) ∨ (s = ⟨#[43, 73, 110, 102]⟩ ∧ n = false) ∨
  (s = ⟨#[45, 105, 110, 102]⟩ ∧ n = true) ∨ (s = ⟨#[45, 73, 110, 102]⟩ ∧ n = true)
theorem below_A {w w' : World} (h : Below w.drew.heap.size w.drew w') (o : Obj) : Below w.heap.size w (w'.alloc o) :=
  ((Below.refl w.heap.size w).drew.trans h).alloc h.size o
theorem below_B {w w' : World} {o : Obj} (h : Below (w.drew.alloc o).heap.size (w.drew.alloc o) w') (v0 v1 v2 v3 v4 v5 : Value) :
    Below w.heap.size w ((((((w'.setCell ⟨w.heap.size, 0, none⟩ v0).setCell ⟨w.heap.size, 1, none⟩ v1).setCell ⟨w.heap.size, 2, none⟩ v2).setCell ⟨w.heap.size, 3, none⟩ v3).setCell ⟨w.heap.size, 4, none⟩ v4).setCell ⟨w.heap.size, 5, none⟩ v5) :=
  ((((((((Below.refl w.heap.size w).drew.alloc (Nat.le_refl _) o).trans (h.mono (show w.heap.size ≤ (w.heap.push o).size by simp))).setCell (Nat.le_refl _) _).setCell (Nat.le_refl _) _).setCell (Nat.le_refl _) _).setCell (Nat.le_refl _) _).setCell (Nat.le_refl _) _).setCell (Nat.le_refl _) _
set_option maxHeartbeats 1000000 in
theorem Parse_inf (s : ByteArray) (b a f : Int) (n n0 : Bool) (hs : InfText s n) (B : Nat) (w : World)
  (h2 : w.cell? ⟨B, 2, none⟩ = some (.int .i8 a)) (h3 : w.cell? ⟨B, 3, none⟩ = some (.int .u8 f)) (h4 : w.cell? ⟨B, 4, none⟩ = some (.bool n0)) (hz : ∀ o, w.frozen? ⟨B, o, none⟩ = false) :
    Calls Tryz.prog 63 #[.pointer (some ⟨B, 0, none⟩), .string s, .int .i64 b] w fun e w' => e = .returned (.tuple #[.pointer (some ⟨B, 0, none⟩), .int .i64 0, .nilIface]) ∧
      w' = ((w.setCell ⟨B, 2, none⟩ (.int .i8 0)).setCell ⟨B, 3, none⟩ (.int .u8 2)).setCell ⟨B, 4, none⟩ (.bool n) := by
  rcases hs with ⟨rfl, rfl⟩ | ⟨rfl, rfl⟩ | ⟨rfl, rfl⟩ | ⟨rfl, rfl⟩ | ⟨rfl, rfl⟩ | ⟨rfl, rfl⟩
  all_goals
    have e1 : ((⟨#[43, 105, 110, 102]⟩ : ByteArray).extract 1 4).toList = [105, 110, 102] := by kernel_rfl
    have e2 : ((⟨#[43, 73, 110, 102]⟩ : ByteArray).extract 1 4).toList = [73, 110, 102] := by kernel_rfl
    have e3 : ((⟨#[45, 105, 110, 102]⟩ : ByteArray).extract 1 4).toList = [105, 110, 102] := by kernel_rfl
    have e4 : ((⟨#[45, 73, 110, 102]⟩ : ByteArray).extract 1 4).toList = [73, 110, 102] := by kernel_rfl
    have z1 : ((⟨#[43, 105, 110, 102]⟩ : ByteArray)[0]).toNat = 43 := by kernel_rfl
    have z2 : ((⟨#[43, 73, 110, 102]⟩ : ByteArray)[0]).toNat = 43 := by kernel_rfl
    have z3 : ((⟨#[45, 105, 110, 102]⟩ : ByteArray)[0]).toNat = 45 := by kernel_rfl
    have z4 : ((⟨#[45, 73, 110, 102]⟩ : ByteArray)[0]).toNat = 45 := by kernel_rfl
    go_enter Tryz.func63, Tryz.ntmps63
    go_wp2
    go_ret3
    exact ⟨rfl, rfl⟩
set_option maxHeartbeats 1000000 in
theorem real_inf (p m : Int) (n : Bool) (B : Nat) (w : World) (hB : B < w.heap.size) (hp : 0 ≤ p) (hp2 : p < 4294967296) (hm : 0 ≤ m) (hm2 : m < 6)
  (h0 : w.cell? ⟨B, 0, none⟩ = some (.int .u32 p)) (h1 : w.cell? ⟨B, 1, none⟩ = some (.int .u8 m)) 
  (h3 : w.cell? ⟨B, 3, none⟩ = some (.int .u8 2)) (h4 : w.cell? ⟨B, 4, none⟩ = some (.bool n)) :
    Calls Tryz.prog 64 #[.pointer (some ⟨B, 0, none⟩)] w fun e w' => e = .returned (.agg #[.int .u64 p, .int .i64 m, .int .i64 2, .bool n, .slice none 0 0, .int .i64 0]) ∧ Below w.heap.size w w' := by
  go_enter Tryz.func64, Tryz.ntmps64
  go_wp2
  refine bodyPost_ret (v := .agg #[.int .u64 p, .int .i64 m, .int .i64 2, .bool n, .slice none 0 0, .int .i64 0]) (by simp [results, Tryz.results64, go_sem]) rfl ⟨rfl, ?_⟩
  exact ((Below.refl _ _).alloc (Nat.le_refl _) _).alloc (by simp) _
set_option maxHeartbeats 1000000 in
theorem fresh_any (p m : Int) (w : World) (hp : 0 ≤ p) (hp2 : p < 4294967296) (hm : 0 ≤ m) (hm2 : m < 6) :
    Calls Tryz.prog 45 #[.int .u64 p, .int .i64 m] w fun e w' => e = .returned (.pointer (some ⟨w.heap.size, 0, none⟩)) ∧
     w.alloc (.cells #[.int .u32 p, .int .u8 m, .int .i8 0, .int .u8 0, .bool false, .slice none 0 0, .int .i32 0] 136) = w' := by
  by_cases h0 : p = 0
  · subst h0
    go_enter Tryz.func45, Tryz.ntmps45
    go_wp2
    go_ret; exact ⟨rfl, rfl⟩
  · go_enter Tryz.func45, Tryz.ntmps45
    go_wp2
    go_ret; exact ⟨rfl, rfl⟩
set_option maxHeartbeats 1000000 in
theorem parse_inf (s : ByteArray) (n : Bool) (hs : InfText s n) (b p : Int) (w : World) (hp : 0 ≤ p) (hp2 : p < 256) :
    Calls Tryz.prog 31 #[.string s, .int .i64 b, .int .u64 p, .int .i64 0] w fun e w' => e = .returned (infRes p n) ∧ Below w.heap.size w w' := by
  have H := Lib.hid hs; clear hs
  go_enter Tryz.func31, Tryz.ntmps31
  go_wp2_with fail
  refine (fresh_any p 0 _ hp (by omega) (by omega) (by omega)).mono ?_
  rintro e w1 ⟨rfl, rfl⟩
  go_wp2_with fail
  refine (Parse_inf s b 0 0 n false H.out _ _ (by simp) (by simp) (by simp) (by simp)).mono ?_
  rintro e w1 ⟨rfl, rfl⟩
  go_wp2_with fail
  refine (real_inf p 0 n _ _ (by simp) hp (by omega) (by omega) (by omega) (by simp) (by simp) (by simp) (by simp)).mono ?_
  rintro e w1 ⟨rfl, hb⟩
  obtain ⟨hc, hf⟩ := bcell hb
  have c0 : w1.cell? ⟨w.heap.size, 0, none⟩ = some (.int .u64 0) := by rw [hc _ _ (by simp; omega)]; simp
  have c1 : w1.cell? ⟨w.heap.size, 1, none⟩ = some (.int .i64 0) := by rw [hc _ _ (by simp; omega)]; simp
  have c2 : w1.cell? ⟨w.heap.size, 2, none⟩ = some (.int .i64 0) := by rw [hc _ _ (by simp; omega)]; simp
  have c3 : w1.cell? ⟨w.heap.size, 3, none⟩ = some (.bool false) := by rw [hc _ _ (by simp; omega)]; simp
  have c4 : w1.cell? ⟨w.heap.size, 4, none⟩ = some (.slice none 0 0) := by rw [hc _ _ (by simp; omega)]; simp
  have c5 : w1.cell? ⟨w.heap.size, 5, none⟩ = some (.int .i64 0) := by rw [hc _ _ (by simp; omega)]; simp
  have hz : w.heap.size + 1 < w1.heap.size := by have := hb.size; simp at this; omega
  go_wp2
  refine bodyPost_ret (v := infRes p n) (by simp [results, Tryz.results31, go_sem, c0, c1, c2, c3, c4, c5]) rfl ⟨rfl, ?_⟩
  exact ((((((((((Below.refl w.heap.size w).alloc (Nat.le_refl _) _).alloc (by simp) _).trans (hb.mono (by simp; omega))).setCell (Nat.le_refl _) _).setCell (Nat.le_refl _) _).setCell (Nat.le_refl _) _).setCell (Nat.le_refl _) _).setCell (Nat.le_refl _) _).setCell (Nat.le_refl _) _)

def bases : Value := .agg #[.int .i64 0, .int .i64 2, .int .i64 8, .int .i64 10, .int .i64 16]
theorem base_at (b : Int) (hb : 0 ≤ b) (_hb2 : b < 256) : ∃ bb, ∀ w, (Instr.index 59 (.agg #[.int .i64 0, .int .i64 2, .int .i64 8, .int .i64 10, .int .i64 16]) (.int .u8 (b.tmod 5))).run Tryz.prog w = .ok (.int .i64 bb) w := by
  have h : b.tmod 5 = 0 ∨ b.tmod 5 = 1 ∨ b.tmod 5 = 2 ∨ b.tmod 5 = 3 ∨ b.tmod 5 = 4 := by rw [Int.tmod_eq_emod_of_nonneg hb]; omega
  rcases h with h | h | h | h | h <;> rw [h]
  · exact ⟨0, fun _ => by kernel_rfl⟩
  · exact ⟨2, fun _ => by kernel_rfl⟩
  · exact ⟨8, fun _ => by kernel_rfl⟩
  · exact ⟨10, fun _ => by kernel_rfl⟩
  · exact ⟨16, fun _ => by kernel_rfl⟩
theorem sign_at0 (w : World) : (Instr.index 71 (.agg #[.string ⟨#[]⟩, .string ⟨#[43]⟩, .string ⟨#[45]⟩]) (.int .u8 0)).run Tryz.prog w = .ok (.string ⟨#[]⟩) w := by kernel_rfl
theorem sign_at1 (w : World) : (Instr.index 71 (.agg #[.string ⟨#[]⟩, .string ⟨#[43]⟩, .string ⟨#[45]⟩]) (.int .u8 1)).run Tryz.prog w = .ok (.string ⟨#[43]⟩) w := by kernel_rfl
theorem sign_at2 (w : World) : (Instr.index 71 (.agg #[.string ⟨#[]⟩, .string ⟨#[43]⟩, .string ⟨#[45]⟩]) (.int .u8 2)).run Tryz.prog w = .ok (.string ⟨#[45]⟩) w := by kernel_rfl

/-- The sign's text: one of three, and whether it is a minus. -/
theorem sign_at (s : Int) (hs : 0 ≤ s) (_hs2 : s < 256) : ∃ pre n, (∀ w, (Instr.index 71 (.agg #[.string ⟨#[]⟩, .string ⟨#[43]⟩, .string ⟨#[45]⟩]) (.int .u8 (s.tmod 3))).run Tryz.prog w = .ok (.string pre) w) ∧
    (s % 3 == 2) = n ∧ pre.size ≤ 1 ∧ InfText (pre ++ ⟨#[105, 110, 102]⟩) n ∧ InfText (pre ++ ⟨#[73, 110, 102]⟩) n := by
  rw [Int.tmod_eq_emod_of_nonneg hs]
  have h3 : s % 3 = 0 ∨ s % 3 = 1 ∨ s % 3 = 2 := by omega
  rcases h3 with h | h | h <;> rw [h]
  · exact ⟨_, false, sign_at0, rfl, by decide, Or.inl ⟨by kernel_rfl, rfl⟩, Or.inr (Or.inl ⟨by kernel_rfl, rfl⟩)⟩
  · exact ⟨_, false, sign_at1, rfl, by decide, Or.inr (Or.inr (Or.inl ⟨by kernel_rfl, rfl⟩)), Or.inr (Or.inr (Or.inr (Or.inl ⟨by kernel_rfl, rfl⟩)))⟩
  · exact ⟨_, true, sign_at2, rfl, by decide, Or.inr (Or.inr (Or.inr (Or.inr (Or.inl ⟨by kernel_rfl, rfl⟩)))), Or.inr (Or.inr (Or.inr (Or.inr (Or.inr ⟨by kernel_rfl, rfl⟩))))⟩
set_option maxHeartbeats 4000000 in
theorem law_inf_false (s b p : Int) (w : World) (hs : 0 ≤ s) (hs2 : s < 256) (hb : 0 ≤ b) (hb2 : b < 256) (hp : 0 ≤ p) (hp2 : p < 256) :
    Calls Tryz.prog 8 #[.bool false, .int .u8 s, .int .u8 b, .int .u8 p] w fun e w' => e = .returned (.bool true) ∧ Below w.heap.size w w' := by
  obtain ⟨bb, hi⟩ := base_at b hb hb2
  obtain ⟨pre, n, hj, hn, hps, ht1, ht2⟩ := sign_at s hs hs2
  have hne : ¬ (9223372036854775807 < pre.size + 3) := by omega
  have hne2 : ¬ (9223372036854775804 < pre.size) := by omega
  have hw : IntKind.u64.wrap p = p := IntWalk.u64_in _ ⟨hp, by omega⟩
  have HT := Lib.hid ht1
  clear ht1 ht2
  go_enter Tryz.func8, Tryz.ntmps8
  go_wp2_with fail
  go_region_with (go_at_call 31; refine (parse_inf _ _ HT.out _ _ _ hp hp2).mono ?_; rintro e w' ⟨rfl, hb1⟩; obtain ⟨hc, hf⟩ := bcell hb1; have hz := hb1.size; simp at hz)
  all_goals (go_wp2; go_ret; refine ⟨by simp, ?_⟩)
  all_goals first | exact below_A hb1 _ | exact below_B hb1 _ _ _ _ _ _
set_option maxHeartbeats 4000000 in
theorem law_inf_true (s b p : Int) (w : World) (hs : 0 ≤ s) (hs2 : s < 256) (hb : 0 ≤ b) (hb2 : b < 256) (hp : 0 ≤ p) (hp2 : p < 256) :
    Calls Tryz.prog 8 #[.bool true, .int .u8 s, .int .u8 b, .int .u8 p] w fun e w' => e = .returned (.bool true) ∧ Below w.heap.size w w' := by
  obtain ⟨bb, hi⟩ := base_at b hb hb2
  obtain ⟨pre, n, hj, hn, hps, ht1, ht2⟩ := sign_at s hs hs2
  have hne : ¬ (9223372036854775807 < pre.size + 3) := by omega
  have hne2 : ¬ (9223372036854775804 < pre.size) := by omega
  have hw : IntKind.u64.wrap p = p := IntWalk.u64_in _ ⟨hp, by omega⟩
  have HT := Lib.hid ht2
  clear ht1 ht2
  go_enter Tryz.func8, Tryz.ntmps8
  go_wp2_with fail
  go_region_with (go_at_call 31; refine (parse_inf _ _ HT.out _ _ _ hp hp2).mono ?_; rintro e w' ⟨rfl, hb1⟩; obtain ⟨hc, hf⟩ := bcell hb1; have hz := hb1.size; simp at hz)
  all_goals (go_wp2; go_ret; refine ⟨by simp, ?_⟩)
  all_goals first | exact below_A hb1 _ | exact below_B hb1 _ _ _ _ _ _
theorem law_inf (g : Bool) (s b p : Int) (w : World) (hs : 0 ≤ s) (hs2 : s < 256) (hb : 0 ≤ b) (hb2 : b < 256) (hp : 0 ≤ p) (hp2 : p < 256) :
    Calls Tryz.prog 8 #[.bool g, .int .u8 s, .int .u8 b, .int .u8 p] w fun e w' => e = .returned (.bool true) ∧ Below w.heap.size w w' := by
  cases g
  · exact law_inf_false s b p w hs hs2 hb hb2 hp hp2
  · exact law_inf_true s b p w hs hs2 hb hb2 hp hp2
end Go.Proofs.YtmgfajamanakcaaGreatDoor
