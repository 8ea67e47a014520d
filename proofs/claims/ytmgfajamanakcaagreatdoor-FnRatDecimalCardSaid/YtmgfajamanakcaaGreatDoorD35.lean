/- Part of the proof of FnParse: what the functions that it reaches do, as contracts. Conditions: those that each theorem names. -/
import Derived.Test.YtmgfajamanakcaaGreatDoorD04
import Derived.Test.YtmgfajamanakcaaGreatDoorD34
import Derived.Deep.LoopGhost
import Derived.Outline
import Derived.Test.YtmgfajamanakcaaGreatDoorD19
namespace Go.Proofs.YtmgfajamanakcaaGreatDoor.Si
set_option linter.unusedVariables false
set_option linter.unusedSimpArgs false
open Go Go.RowKit
set_option maxRecDepth 100000
def Words (w : World) (b off n : Nat) (X : Nat → Int) : Prop := ∀ i, i < n → w.cell? ⟨b, off + i, none⟩ = some (.int .i64 (X i))
def Free (w : World) (b off n : Nat) : Prop := ∀ i, i < n → w.frozen? ⟨b, off + i, none⟩ = false
def Room (w : World) (b off n : Nat) : Prop := ∀ i, i < n → (∃ x : Int, w.cell? ⟨b, off + i, none⟩ = some (.int .i64 x)) ∧ w.frozen? ⟨b, off + i, none⟩ = false

theorem Words.chg {Z : Zone} {w w' : World} {b off n : Nat} {X : Nat → Int} (h : Words w b off n X) (k : Chg Z w w') (hz : ∀ i, i < n → ¬ Z b (off + i)) : Words w' b off n X :=
  fun i hi => k.cell (h i hi) (hz i hi)
theorem Words.le {w : World} {b off n m : Nat} {X : Nat → Int} (h : Words w b off n X) (hm : m ≤ n) : Words w b off m X := fun i hi => h i (by omega)
theorem Words.drop {w : World} {b off n : Nat} {X : Nat → Int} (h : Words w b off n X) (k m : Nat) (hk : k + m ≤ n) : Words w b (off + k) m (fun i => X (k + i)) := fun i hi => by
  have := h (k + i) (by omega)
  rwa [← Nat.add_assoc] at this
theorem Words.congr {w : World} {b off n : Nat} {X Y : Nat → Int} (h : Words w b off n X) (e : ∀ i, i < n → X i = Y i) : Words w b off n Y := fun i hi => by rw [← e i hi]; exact h i hi
theorem Words.join {w : World} {b off n m : Nat} {X Y : Nat → Int} (h : Words w b off n X) (k : Words w b (off + n) m Y) : Words w b off (n + m) (fun i => if i < n then X i else Y (i - n)) := fun i hi => by
  by_cases hn : i < n
  · simp only [hn, if_true]; exact h i hn
  · simp only [hn, if_false]
    have := k (i - n) (by omega)
    rwa [show off + n + (i - n) = off + i by omega] at this
theorem Free.chg {Z : Zone} {w w' : World} {b off n : Nat} {X : Nat → Int} (hf : Free w b off n) (h : Words w b off n X) (k : Chg Z w w') : Free w' b off n :=
  fun i hi => by rw [k.frozen (h i hi)]; exact hf i hi
theorem Room.chg {Z : Zone} {w w' : World} {b off n : Nat} (h : Room w b off n) (k : Chg Z w w') (hz : ∀ i, i < n → ¬ Z b (off + i)) : Room w' b off n :=
  fun i hi => by
    obtain ⟨⟨x, hx⟩, hf⟩ := h i hi
    exact ⟨⟨x, k.cell hx (hz i hi)⟩, by rw [k.frozen hx]; exact hf⟩
theorem Room.le {w : World} {b off n m : Nat} (h : Room w b off n) (hm : m ≤ n) : Room w b off m := fun i hi => h i (by omega)
theorem Room.drop {w : World} {b off n : Nat} (h : Room w b off n) (k m : Nat) (hk : k + m ≤ n) : Room w b (off + k) m := fun i hi => by
  have := h (k + i) (by omega)
  rwa [← Nat.add_assoc] at this
theorem Room.join {w : World} {b off n m : Nat} (h : Room w b off n) (k : Room w b (off + n) m) : Room w b off (n + m) := fun i hi => by
  by_cases hn : i < n
  · exact h i hn
  · have := k (i - n) (by omega)
    rwa [show off + n + (i - n) = off + i by omega] at this
theorem Words.room {w : World} {b off n : Nat} {X : Nat → Int} (h : Words w b off n X) (hf : Free w b off n) : Room w b off n := fun i hi => ⟨⟨X i, h i hi⟩, hf i hi⟩
theorem Room.free {w : World} {b off n : Nat} (h : Room w b off n) : Free w b off n := fun i hi => (h i hi).2
theorem Words.snoc {w : World} {b off k : Nat} {Z : Nat → Int} {v : Int} (h : Words w b off k Z) (hc : (w.cell? ⟨b, off + k, none⟩).isSome = true) :
    Words (w.setCell ⟨b, off + k, none⟩ (.int .i64 v)) b off (k + 1) (upd Z k v) := fun i hi => by
  by_cases hik : i = k
  · subst hik; rw [upd_same]; exact World.cell?_setCell_same' _ _ _ hc
  · rw [upd_other Z v hik]
    have e : (w.setCell ⟨b, off + k, none⟩ (.int .i64 v)).cell? ⟨b, off + i, none⟩ = w.cell? ⟨b, off + i, none⟩ := World.cell?_setCell_other w _ _ _ (by intro h; injection h with _ h2 _; omega)
    rw [e]; exact h i (by omega)
def ZOK (w : World) (a : Option Addr) (c : Nat) : Prop := (a = none ∧ c = 0) ∨ ∃ b o, a = some ⟨b, o, none⟩ ∧ PB w b ∧ Room w b o c ∧ c < 9223372036854775808
theorem ZOK.cap {w : World} {a : Option Addr} {c : Nat} (h : ZOK w a c) : c < 9223372036854775808 := by
  rcases h with ⟨_, h⟩ | ⟨_, _, _, _, _, h⟩ <;> omega
def Rd (w : World) (a : Option Addr) (n : Nat) (X : Nat → Int) : Prop := n = 0 ∨ ∃ b o, a = some ⟨b, o, none⟩ ∧ Words w b o n X
theorem ZOK.chg {Z : Zone} {w w' : World} {a : Option Addr} {c : Nat} (h : ZOK w a c) (k : Chg Z w w') (hz : ∀ b o, zAddr a c b o → ¬ Z b o) : ZOK w' a c := by
  rcases h with h | ⟨b, o, rfl, h1, h2, h3⟩
  · exact Or.inl h
  · exact Or.inr ⟨b, o, rfl, h1.chg k, h2.chg k (fun i hi => hz b (o + i) ⟨o, rfl, by omega, by omega⟩), h3⟩
theorem ZOK.room {w : World} {a : Option Addr} {c : Nat} (h : ZOK w a c) (hc : 0 < c) : ∃ b o, a = some ⟨b, o, none⟩ ∧ PB w b ∧ Room w b o c := by
  rcases h with ⟨_, h⟩ | ⟨b, o, h1, h2, h3, _⟩
  · omega
  · exact ⟨b, o, h1, h2, h3⟩
theorem cell?_setInt {w : World} {b o : Nat} {b' o' : Nat} {y : Int} (v : Int) (h : w.cell? ⟨b, o, none⟩ = some (.int .i64 y)) :
    ∃ z : Int, (w.setCell ⟨b', o', none⟩ (.int .i64 v)).cell? ⟨b, o, none⟩ = some (.int .i64 z) := by
  by_cases e : (⟨b', o', none⟩ : Addr) = ⟨b, o, none⟩
  · rw [e]; exact ⟨v, World.cell?_setCell_same' _ _ _ (by rw [h]; rfl)⟩
  · exact ⟨y, by rw [World.cell?_setCell_other w _ _ _ e]; exact h⟩
theorem Room.setInt {w : World} {b o n : Nat} (h : Room w b o n) (b' o' : Nat) (v : Int) : Room (w.setCell ⟨b', o', none⟩ (.int .i64 v)) b o n := fun i hi => by
  obtain ⟨⟨y, hy⟩, hf⟩ := h i hi
  refine ⟨cell?_setInt v hy, ?_⟩
  rw [(chg_setCell w b' o' _).frozen hy]; exact hf
theorem ZOK.setInt {w : World} {a : Option Addr} {c : Nat} (h : ZOK w a c) (b' o' : Nat) (v : Int) : ZOK (w.setCell ⟨b', o', none⟩ (.int .i64 v)) a c := by
  rcases h with h | ⟨b, o, rfl, h1, h2, h3⟩
  · exact Or.inl h
  · exact Or.inr ⟨b, o, rfl, h1.chg (chg_setCell w b' o' _), h2.setInt b' o' v, h3⟩
def AppRes (W : World) (a : Option Addr) (n c : Nat) (X : Nat → Int) (x : Int) (a' : Option Addr) (c' : Nat) (W' : World) : Prop :=
  n + 1 ≤ c' ∧ ZOK W' a' c' ∧ Rd W' a' (n + 1) (upd X n x) ∧ Home W a c a' c' ∧ Chg (zAddr a c) W W'
def intVals (X : Nat → Int) (n : Nat) : List Value := (List.range n).map fun i => .int .i64 (X i)
theorem intVals_length (X : Nat → Int) (n : Nat) : (intVals X n).length = n := by simp [intVals]
theorem intVals_get (X : Nat → Int) (n j : Nat) (v : Value) (h : (intVals X n)[j]? = some v) : j < n ∧ v = .int .i64 (X j) := by
  unfold intVals at h
  rw [List.getElem?_map] at h
  by_cases hj : j < n
  · rw [List.getElem?_range hj] at h
    exact ⟨hj, by simpa using h.symm⟩
  · rw [List.getElem?_eq_none (by simpa using hj)] at h; cases h
theorem zeroCells_int_ (k : Nat) : Builtin.zeroCells #[.int .i64 0] k = Array.replicate k (.int .i64 0) := by
  apply Array.ext
  · simp [Builtin.zeroCells]
  · intro i h1 h2
    simp [Builtin.zeroCells, Nat.mod_one]
theorem new_ints (w : World) (X : Nat → Int) (n k : Nat) :
    Words (w.alloc (.cells ((intVals X n).toArray ++ Array.replicate k (.int .i64 0)) 3)) w.heap.size 0 n X ∧ Room (w.alloc (.cells ((intVals X n).toArray ++ Array.replicate k (.int .i64 0)) 3)) w.heap.size 0 (n + k) := by
  have hget : ∀ i, i < n → ((intVals X n).toArray ++ Array.replicate k (Value.int .i64 0))[i]? = some (.int .i64 (X i)) := fun i hi => by
    rw [Array.getElem?_append_left (by simpa [intVals] using hi)]
    simp [intVals, hi]
  have hget2 : ∀ i, n ≤ i → i < n + k → ((intVals X n).toArray ++ Array.replicate k (Value.int .i64 0))[i]? = some (.int .i64 0) := fun i h1 h2 => by
    rw [Array.getElem?_append_right (by simpa [intVals] using h1)]
    simp only [List.size_toArray, intVals_length]
    rw [Array.getElem?_replicate, if_pos (by omega)]
  refine ⟨fun i hi => ?_, fun i hi => ⟨?_, frozen?_alloc_new w _ _ _⟩⟩
  · rw [Nat.zero_add]; exact cell?_alloc_new w _ _ _ _ (hget i hi)
  · rw [Nat.zero_add]
    by_cases h : i < n
    · exact ⟨_, cell?_alloc_new w _ _ _ _ (hget i h)⟩
    · exact ⟨_, cell?_alloc_new w _ _ _ _ (hget2 i (by omega) hi)⟩
theorem room_made (w : World) (n : Nat) : Room (w.alloc (.cells (madeCells #[.int .i64 0] n) 3)) w.heap.size 0 n := fun i hi => by
  have h : (madeCells #[Value.int .i64 0] n)[0 + i]? = some (.int .i64 0) := by
    simp [madeCells, hi, Nat.mod_one]
  exact ⟨⟨0, cell?_alloc_new w _ _ _ _ h⟩, frozen?_alloc_new w _ _ _⟩
theorem info3 : (Tryz.prog.info? 3).map (fun i => (i.zero, i.size, i.bytes)) = some (some (.int .i64 0), 1, 8) := by kernel_rfl
theorem run_make_ints (w : World) (l c : Int) (h0 : 0 ≤ l) (hlc : l ≤ c) (hc : c ≤ 35184372088832) :
    (Instr.makeSlice 38 (.int .i64 l) (.int .i64 c)).run Tryz.prog w = .ok (.slice (some ⟨w.heap.size, 0, none⟩) l.toNat c.toNat) (w.alloc (.cells (madeCells #[.int .i64 0] c.toNat) 3)) := by
  obtain ⟨i0, hi, hz0, hz1, hz2⟩ := info_parts info3
  have := run_make (P := Tryz.prog) w 38 3 i0 (.int .i64 0) Tryz.underlying38 hi hz0 .i64 .i64 l c h0 hlc (by rw [hz2]; omega) (by omega)
  rw [this, hz1, Nat.mul_one]
  rfl
theorem run_append_int (a : Option Addr) (n c : Nat) (X : Nat → Int) (x : Int) (W : World) (hz : ZOK W a c) (hr : Rd W a n X) (hnc : n ≤ c) (hn : n < 1099511627776) (ad : Addr) (hx : W.cell? ad = some (.int .i64 x)) (ty : TypeId) :
    ∃ a' c' W', (Builtin.append_ #[38, 38] ty #[.slice a n c, .slice (some ad) 1 1]).run Tryz.prog W = .ok (.slice a' (n + 1) c') W' ∧ AppRes W a n c X x a' c' W' := by
  obtain ⟨i0, hi, hz0, hz1, hz2⟩ := info_parts info3
  have hnews : ∀ j v, [Value.int .i64 x][j]? = some v → W.cell? (ad.add j) = some v := fun j v h => by
    cases j with
    | zero => simp at h; subst h; simpa [Addr.add] using hx
    | succ j => simp at h
  have hupd : ∀ i, i < n → X i = upd X n x i := fun i hi => (upd_other X x (by omega)).symm
  rcases hz with ⟨rfl, rfl⟩ | ⟨b, o, rfl, hb, hroom, hcap⟩
  · obtain rfl : n = 0 := by omega
    have hrun := run_append_nil (P := Tryz.prog) W 38 ty 3 i0 (.int .i64 0) Tryz.underlying38 hi hz0 ad 1 1 [.int .i64 x] (by rw [hz1]; rfl) hnews (by omega) (by omega) (by rw [hz2]; omega)
    have hg := grownCap_ge W 1 0 3 (by omega)
    have hw := new_ints W.drew (fun _ => x) 1 (grownCap W 1 0 3 - 1)
    rw [show ((Value.int .i64 0).cells) = #[Value.int .i64 0] from rfl, zeroCells_int_] at hrun
    refine ⟨_, _, _, hrun, by omega, Or.inr ⟨_, _, rfl, PB.new W.drew _ _, ?_, hg.2⟩, Or.inr ⟨_, _, rfl, ?_⟩, Or.inr ⟨_, _, rfl, Nat.le_refl _⟩, chg_drew_alloc _ _ _⟩
    · have := hw.2
      rwa [show 1 + (grownCap W 1 0 3 - 1) = grownCap W 1 0 3 by omega] at this
    · exact hw.1.congr (fun i hi => by obtain rfl : i = 0 := by omega
                                       exact (upd_same X 0 x).symm)
  · have hX : n = 0 ∨ Words W b o n X := by
      rcases hr with h | ⟨b', o', e, hw⟩
      · exact Or.inl h
      · injection e with e; injection e with e1 e2; subst e1; subst e2; exact Or.inr hw
    have hX' : Words W b o n X := by
      rcases hX with h | h
      · intro i hi; omega
      · exact h
    by_cases hfit : n + 1 ≤ c
    · have hrun := run_append_room_cells (P := Tryz.prog) W 38 ty 3 i0 Tryz.underlying38 hi b o n c ad 1 1 [.int .i64 x] (by rw [hz1]; rfl) hnews (fun u hu => by simp at hu; subst hu; rfl) hfit
        (fun j hj => by
          obtain rfl : j = 0 := by simp at hj; exact hj
          rw [hz1, Nat.mul_one, Nat.add_zero]
          obtain ⟨⟨y, hy⟩, _⟩ := hroom n (by omega)
          rw [hy]; rfl)
        (fun j hj => by
          obtain rfl : j = 0 := by simp at hj; exact hj
          rw [hz1, Nat.mul_one, Nat.add_zero]
          exact (hroom n (by omega)).2)
      rw [hz1, Nat.mul_one] at hrun
      have hwd : W.setCells b (o + n) [.int .i64 x] = W.setCell ⟨b, o + n, none⟩ (.int .i64 x) := rfl
      rw [hwd] at hrun
      refine ⟨_, _, _, hrun, hfit, ?_, Or.inr ⟨b, o, rfl, hX'.snoc ?_⟩, Or.inl ⟨rfl, rfl⟩, (Chg.refl _ _).setCell b (o + n) _ (fun _ => ⟨o, rfl, by omega, by omega⟩)⟩
      · exact ZOK.setInt (Or.inr ⟨b, o, rfl, hb, hroom, hcap⟩) b (o + n) x
      · obtain ⟨⟨y, hy⟩, _⟩ := hroom n (by omega)
        rw [hy]; rfl
    · have holds : ∀ j v, (intVals X n)[j]? = some v → W.cell? ((⟨b, o, none⟩ : Addr).add j) = some v := fun j v h => by
        obtain ⟨hj, rfl⟩ := intVals_get X n j v h
        have := hX' j hj
        by_cases h0 : j = 0
        · subst h0; simpa [Addr.add] using this
        · simpa [Addr.add, h0] using this
      have hrun := run_append_grow (P := Tryz.prog) W 38 ty 3 i0 (.int .i64 0) Tryz.underlying38 hi hz0 ⟨b, o, none⟩ n c (intVals X n) (by rw [intVals_length, hz1, Nat.mul_one]) holds ad 1 1 [.int .i64 x] (by rw [hz1]; rfl) hnews (by omega) (by omega)
        (by rw [hz2]; exact growslice_fits (by omega) (by omega))
      have hg := grownCap_ge W (n + 1) c 3 (by omega)
      have hcat : (intVals X n).toArray ++ [Value.int .i64 x].toArray = (intVals (upd X n x) (n + 1)).toArray := by
        unfold intVals
        rw [List.range_succ, List.map_append]
        simp only [List.map_cons, List.map_nil, upd_same]
        rw [← List.append_toArray]
        congr 2
        apply List.map_congr_left
        intro i hi'
        rw [upd_other X x (by have := List.mem_range.1 hi'; omega)]
      rw [show ((Value.int .i64 0).cells) = #[Value.int .i64 0] from rfl, zeroCells_int_, hcat] at hrun
      have hw := new_ints W.drew (upd X n x) (n + 1) (grownCap W (n + 1) c 3 - (n + 1))
      refine ⟨_, _, _, hrun, by omega, Or.inr ⟨_, _, rfl, PB.new W.drew _ _, ?_, hg.2⟩, Or.inr ⟨_, _, rfl, hw.1⟩, Or.inr ⟨_, _, rfl, Nat.le_refl _⟩, chg_drew_alloc _ _ _⟩
      have := hw.2
      rwa [show n + 1 + (grownCap W (n + 1) c 3 - (n + 1)) = grownCap W (n + 1) c 3 by omega] at this
theorem wpList_append_int {ops : Array Oper} {rest : List Oper} {o : Oper} {act : Act} {w : World} {Q : Exit → Act → World → Prop} (hgd : o.guard = none) (s x : Operand)
    (ho : o.op = .call { callee := .builtin .append, args := #[s, x], argTypes := #[38, 38] })
    (a : Option Addr) (n c : Nat) (X : Nat → Int) (y : Int) (ad : Addr) (hs : act.eval s = .slice a n c) (hx : act.eval x = .slice (some ad) 1 1)
    (hz : ZOK w a c) (hr : Rd w a n X) (hnc : n ≤ c) (hn : n < 1099511627776) (hy : w.cell? ad = some (.int .i64 y))
    (h : ∀ a' c' w', AppRes w a n c X y a' c' w' → wpList Tryz.prog ops Q rest (act.put o.dst (.slice a' (n + 1) c')) w') : wpList Tryz.prog ops Q (o :: rest) act w :=
  wpList_plain hgd fun K hK => by
    obtain ⟨a', c', w', hrun, h2⟩ := run_append_int a n c X y w hz hr hnc hn ad hy o.type
    unfold Oper.wp execOp
    simp only [ho, resolve, invoke, builtin, Sem.run_bind, Sem.run_pure, Result.andThen_ok, List.map_toArray, List.map_cons, List.map_nil, hs, hx, hrun]
    exact hK _ _ (h a' c' w' h2)
set_option maxHeartbeats 1000000 in
theorem trim_any (a : Option Addr) (n c : Nat) (X : Nat → Int) (w : World) (hr : Rd w a n X) (hnc : n ≤ c) (hc : c < 9223372036854775808) :
    Calls Tryz.prog 58 #[.slice a n c] w fun e w' => ∃ i, e = .returned (.slice a i c) ∧ i ≤ n ∧ (∀ j, i ≤ j → j < n → X j = 0) ∧ DN X i ∧ w = w' := by
  have Hr := Lib.hid hr
  clear hr
  go_enter Tryz.func58, Tryz.ntmps58
  go_wp2_with fail
  go_loopg [0] n (fun k s0 wr => s0 = .slice a k c ∧ k ≤ n ∧ w = wr ∧ Hid (∀ j, k ≤ j → j < n → X j = 0))
  case atStart => exact ⟨rfl, Nat.le_refl _, rfl, fun j h1 h2 => by omega⟩
  case round =>
    obtain ⟨rfl, hk, rfl, HZ⟩ := hrel
    by_cases h0 : gk = 0
    · have hb : decide (0 < (gk : Int)) = false := by simp; omega
      go_wp2
      go_ret
      exact ⟨gk, rfl, hk, HZ.out, Or.inl h0, rfl⟩
    · have hb : decide (0 < (gk : Int)) = true := by simp; omega
      have hb' : decide (0 < gk) = true := by simp; omega
      have hg1 : (0 : Int) ≤ (gk : Int) - 1 := by omega
      have hg2 : (gk : Int) - 1 < (gk : Int) := by omega
      have hg3 : (gk : Int) - 1 ≤ (c : Int) := by omega
      obtain ⟨b, o, rfl, hw⟩ : ∃ b o, a = some ⟨b, o, none⟩ ∧ Words w b o n X := by
        rcases Hr.out with h | h
        · omega
        · exact h
      obtain ⟨x, hx⟩ : ∃ x, X (gk - 1) = x := ⟨_, rfl⟩
      have hcell := hw (gk - 1) (by omega)
      rw [hx] at hcell
      have Hx := Lib.hid hx
      clear hx hw
      by_cases hz : x = 0
      · have Hz := Lib.hid hz
        have hbx : (x == 0) = true := by simp [hz]
        clear hz
        go_wp2
        go_roundg (gk - 1)
        case measure => omega
        case rel => exact ⟨by first | rfl | go_num, by omega, by first | rfl | trivial, fun j h1 h2 => by
          by_cases hj : j = gk - 1
          · rw [hj, Hx.out, Hz.out]
          · exact HZ.out j (by omega) h2⟩
      · have hbx : (x == 0) = false := by simp [hz]
        have Hz := Lib.hid hz
        clear hz
        go_wp2
        go_ret
        exact ⟨gk, rfl, hk, HZ.out, Or.inr (by rw [Hx.out]; exact Hz.out), rfl⟩
def NatV (w : World) (a : Option Addr) (n c : Nat) (V : Int) : Prop := n ≤ c ∧ ZOK w a c ∧ ∃ X, Rd w a n X ∧ DF X n ∧ DN X n ∧ vs X n = V
theorem Rd.chg {Z : Zone} {w w' : World} {a : Option Addr} {n : Nat} {X : Nat → Int} (h : Rd w a n X) (k : Chg Z w w') (hz : ∀ b o i, a = some ⟨b, o, none⟩ → i < n → ¬ Z b (o + i)) : Rd w' a n X := by
  rcases h with h | ⟨b, o, e, hw⟩
  · exact Or.inl h
  · exact Or.inr ⟨b, o, e, hw.chg k (fun i hi => hz b o i e hi)⟩
theorem NatV.chg {Z : Zone} {w w' : World} {a : Option Addr} {n c : Nat} {V : Int} (h : NatV w a n c V) (k : Chg Z w w') (hz : ∀ b o, zAddr a c b o → ¬ Z b o) : NatV w' a n c V := by
  obtain ⟨h1, h2, X, h3, h4, h5, h6⟩ := h
  exact ⟨h1, h2.chg k hz, X, h3.chg k (fun b o i e hi => hz b (o + i) ⟨o, e, by omega, by omega⟩), h4, h5, h6⟩
theorem NatV.far {w w' : World} {a : Option Addr} {n c : Nat} {V : Int} (h : NatV w a n c V) (k : Chg zNone w w') : NatV w' a n c V := h.chg k (fun _ _ _ h => h)
def NRes (w : World) (V : Int) (e : Ending) (w' : World) : Prop := ∃ a n c, e = .returned (.slice a n c) ∧ NatV w' a n c V ∧ Chg zNone w w'
structure Out (w0 w : World) (a : Option Addr) (k c : Nat) (X : Nat → Int) : Prop where
  le : k ≤ c
  z : ZOK w a c
  fr : Fresh w0 a
  rd : Rd w a k X
  chg : Chg zNone w0 w
theorem Out.one {w0 w : World} {a : Option Addr} {k c : Nat} {X : Nat → Int} (h : Out w0 w a k c X) (x : Int) : ZOK (w.alloc (.cells #[.int .i64 x] 3)) a c ∧ Rd (w.alloc (.cells #[.int .i64 x] 3)) a k X ∧ (w.alloc (.cells #[.int .i64 x] 3)).cell? ⟨w.heap.size, 0, none⟩ = some (.int .i64 x) := by
  have kal : Chg zNone w (w.alloc (.cells #[.int .i64 x] 3)) := (Chg.refl _ _).alloc _
  exact ⟨h.z.chg kal (fun _ _ _ h => h), h.rd.chg kal (fun _ _ _ _ _ h => h), cell?_alloc_new w #[.int .i64 x] 3 0 (.int .i64 x) rfl⟩
theorem Out.snoc {w0 w w2 : World} {a a2 : Option Addr} {k c c2 : Nat} {X : Nat → Int} {x : Int} (h : Out w0 w a k c X) (h2 : AppRes (w.alloc (.cells #[.int .i64 x] 3)) a k c X x a2 c2 w2) : Out w0 w2 a2 (k + 1) c2 (upd X k x) := by
  have kal : Chg zNone w0 (w.alloc (.cells #[.int .i64 x] 3)) := h.chg.alloc _
  obtain ⟨g1, g2, g3, g4, g5⟩ := h2
  refine ⟨g1, g2, fresh_home h.fr g4 kal.size, g3, kal.trans g5 ?_⟩
  rintro b' o' hb ⟨p, e, _⟩
  exact (fresh_far h.fr hb e rfl).elim
theorem Out.nat {w0 w : World} {a : Option Addr} {k c : Nat} {X : Nat → Int} {V : Int} (h : Out w0 w a k c X) (h1 : DF X k) (h2 : DN X k) (h3 : vs X k = V) : NatV w a k c V ∧ Chg zNone w0 w := ⟨⟨h.le, h.z, X, h.rd, h1, h2, h3⟩, h.chg⟩
theorem Out.empty (w0 w : World) (k : Chg zNone w0 w) (hs : w0.heap.size ≤ w.heap.size) : Out w0 (w.alloc (.cells #[] 3)) (some ⟨w.heap.size, 0, none⟩) 0 0 (fun _ => 0) :=
  ⟨Nat.le_refl _, Or.inr ⟨_, _, rfl, PB.new w _ _, fun i hi => by omega, by omega⟩, Or.inr ⟨_, _, rfl, hs⟩, Or.inl rfl, k.alloc _⟩
theorem df_upd {X : Nat → Int} {k : Nat} {x : Int} (h : DF X k) (hx : D16 x) : DF (upd X k x) (k + 1) := fun i hi => by
  by_cases hik : i = k
  · subst hik; rw [upd_same]; exact hx
  · rw [upd_other X x hik]; exact h i (by omega)
theorem vs_upd {X : Nat → Int} {k : Nat} {x : Int} : vs (upd X k x) (k + 1) = vs X k + x * SB ^ k := by
  simp only [vs, upd_same]
  rw [vs_congr (X := upd X k x) (Y := X) (fun i hi => upd_other X x (by omega))]
theorem vs_trim {X : Nat → Int} {n i : Nat} (hi : i ≤ n) (h : ∀ j, i ≤ j → j < n → X j = 0) : vs X i = vs X n := (vs_top hi h).symm
def SmRel (w : World) (m : Nat) (s0 s3 : Value) (wc : World) : Prop :=
  ∃ (q : Int) (k : Nat) (a : Option Addr) (c : Nat) (X : Nat → Int), s0 = .int .i64 q ∧ s3 = .slice a k c ∧ 0 ≤ q ∧ (k : Int) + q ≤ m ∧ Hid (Out w wc a k c X ∧ DF X k ∧ vs X k + SB ^ k * q = m ∧ (q = 0 → DN X k))
set_option maxHeartbeats 2000000 in
theorem small_any (m : Nat) (w : World) (hm : m < 1099511627776) : Calls Tryz.prog 21 #[.int .i64 (m : Int)] w (NRes w m) := by
  go_enter Tryz.func21, Tryz.ntmps21
  go_wp2_with fail
  go_loopw [0, 3] (SmRel w m) (fun s0 _ _ => (intOf s0).toNat)
  case atStart =>
    exact ⟨m, 0, _, 0, _, rfl, rfl, by omega, by omega, Out.empty w w (Chg.refl _ _) (Nat.le_refl _), fun i hi => by omega, by simp [vs], fun _ => Or.inl rfl⟩
  case round =>
    obtain ⟨q, k, a, c, X, rfl, rfl, hq, hkq, H⟩ := hrel
    by_cases h0 : 0 < q
    · have d1 : decide (0 < q) = true := decide_eq_true h0
      have HX := Lib.hid (H.out.1.one (q % 65536))
      have x3 := H.out.1.le
      have x4 : k < 1099511627776 := by omega
      have e1 : q.tmod 65536 = q % 65536 := Int.tmod_eq_emod_of_nonneg hq
      have e2 : q.tdiv 65536 = q / 65536 := Int.tdiv_eq_ediv_of_nonneg hq
      go_wp2_with (refine wpList_append_int rfl (.tmp 9) (.tmp 12) rfl a k c X _ _ rfl rfl HX.out.1 HX.out.2.1 x3 x4 HX.out.2.2 ?_; rintro a2 c2 w2 h2; have H2 := Lib.hid h2; clear h2)
      obtain ⟨g1, g2, g3, g4⟩ := H.out
      refine ⟨⟨q / 65536, k + 1, a2, c2, _, rfl, rfl, by omega, by push_cast; omega, g1.snoc H2.out, df_upd g2 ⟨by omega, by omega⟩, ?_, fun hq0 => Or.inr ?_⟩, by simp only [intOf]; omega⟩
      · rw [vs_upd, SB_succ, ← g3]
        have e3 := Int.emod_add_mul_ediv q 65536
        generalize SB ^ k = S at *
        have e4 : S * SB * (q / 65536) + (q % 65536) * S = S * q := by
          conv => rhs; rw [← e3]
          unfold SB
          grind
        omega
      · show upd X k (q % 65536) (k + 1 - 1) ≠ 0
        rw [show k + 1 - 1 = k by omega, upd_same]
        omega
    · have d1 : decide (0 < q) = false := decide_eq_false h0
      go_wp2
      go_ret
      have hq0 : q = 0 := by omega
      obtain ⟨g1, g2, g3, g4⟩ := H.out
      rw [hq0, Int.mul_zero, Int.add_zero] at g3
      exact ⟨a, k, c, rfl, g1.nat g2 (g4 hq0) g3⟩
end Go.Proofs.YtmgfajamanakcaaGreatDoor.Si
