/- Part of the proof of FnParse: what the functions that it reaches do, as contracts. Conditions: those that each theorem names. -/
import Derived.Test.YtmgfajamanakcaaGreatDoorD19
import Derived.Test.YtmgfajamanakcaaGreatDoorD16
import Derived.Deep.LoopGhost
import Derived.Outline
namespace Go.Proofs.YtmgfajamanakcaaGreatDoor
set_option linter.unusedVariables false
set_option linter.unusedSimpArgs false
open Go Go.RowKit
set_option maxRecDepth 100000
def expV (y m : Nat) : Nat := y % 2 ^ m * 2 ^ (64 - m)
theorem expV_step (y m : Nat) (hm : m < 63) : (9223372036854775808 ≤ expV y (m + 1) ↔ y / 2 ^ m % 2 = 1) ∧ expV y (m + 1) < 18446744073709551616 ∧ expV y (m + 1) * 2 % 18446744073709551616 = expV y m ∧ y / 2 ^ m = 2 * (y / 2 ^ (m + 1)) + y / 2 ^ m % 2 := by
  have hp : 0 < 2 ^ m := Nat.pow_pos (by omega)
  have hq : 2 ^ (64 - (m + 1)) * 2 ^ m = 9223372036854775808 := by rw [← Nat.pow_add, show 64 - (m + 1) + m = 63 by omega]
  have hq0 : 0 < 2 ^ (64 - (m + 1)) := Nat.pow_pos (by omega)
  have hs : 2 ^ (64 - m) = 2 ^ (64 - (m + 1)) * 2 := by rw [← Nat.pow_succ]; congr 1; omega
  have e1 : y % 2 ^ (m + 1) = y / 2 ^ m % 2 * 2 ^ m + y % 2 ^ m := by
    rw [Nat.pow_succ, Nat.mod_mul]; rw [Nat.mul_comm (2 ^ m)]; omega
  have e2 : y / 2 ^ (m + 1) = y / 2 ^ m / 2 := by rw [Nat.pow_succ, Nat.div_div_eq_div_mul]
  have hb : y / 2 ^ m % 2 < 2 := Nat.mod_lt _ (by omega)
  have hr : y % 2 ^ m < 2 ^ m := Nat.mod_lt _ hp
  have hv : expV y (m + 1) = y / 2 ^ m % 2 * 9223372036854775808 + y % 2 ^ m * 2 ^ (64 - (m + 1)) := by
    unfold expV
    rw [e1, Nat.add_mul, Nat.mul_assoc, Nat.mul_comm (2 ^ m), hq]
  have hlow : y % 2 ^ m * 2 ^ (64 - (m + 1)) < 9223372036854775808 := by
    rw [← hq, Nat.mul_comm]
    exact Nat.mul_lt_mul_of_pos_left hr hq0
  have hv0 : expV y m = y % 2 ^ m * 2 ^ (64 - (m + 1)) * 2 := by unfold expV; rw [hs, Nat.mul_assoc]
  refine ⟨?_, ?_, ?_, ?_⟩
  · rw [hv]; omega
  · rw [hv]; omega
  · rw [hv, hv0]; omega
  · omega
theorem expV_start (y m : Nat) (hm : m ≤ 64) : y * 2 ^ (64 - m) % 18446744073709551616 = expV y m := by
  have : (18446744073709551616 : Nat) = 2 ^ m * 2 ^ (64 - m) := by rw [← Nat.pow_add, show m + (64 - m) = 64 by omega]
  rw [this, Nat.mul_mod_mul_right]
  rfl
theorem expV_bit (y m : Nat) (hm : m < 63) : (bits BinOp.and IntKind.u64 (expV y (m + 1) : Int) 9223372036854775808 != 0) = (y / 2 ^ m % 2 == 1) := by
  obtain ⟨h1, h2, _, _⟩ := expV_step y m hm
  have h := and_pow_ne (x := (expV y (m + 1) : Int)) (t := 63) ⟨by omega, by omega⟩ (by omega)
  rw [show (2 : Int) ^ 63 = 9223372036854775808 by decide] at h
  rw [h]
  by_cases hb : y / 2 ^ m % 2 = 1
  · have := h1.2 hb
    rw [show ((expV y (m + 1) : Nat) : Int) / 9223372036854775808 % 2 = 1 by omega, hb]
    rfl
  · have : ¬ 9223372036854775808 ≤ expV y (m + 1) := fun h => hb (h1.1 h)
    rw [show ((expV y (m + 1) : Nat) : Int) / 9223372036854775808 % 2 = 0 by omega, show y / 2 ^ m % 2 = 0 by omega]
    rfl
theorem pow_step (x : Int) (y m : Nat) (hm : m < 63) : (y / 2 ^ m % 2 = 1 → x ^ (y / 2 ^ (m + 1)) * x ^ (y / 2 ^ (m + 1)) * x = x ^ (y / 2 ^ m)) ∧ (¬ y / 2 ^ m % 2 = 1 → x ^ (y / 2 ^ (m + 1)) * x ^ (y / 2 ^ (m + 1)) = x ^ (y / 2 ^ m)) := by
  obtain ⟨_, _, _, h4⟩ := expV_step y m hm
  constructor
  · intro hb
    rw [h4, hb, Int.pow_succ, ← Int.pow_add]
    congr 2; omega
  · intro hb
    rw [h4, show y / 2 ^ m % 2 = 0 by omega, ← Int.pow_add]
    congr 1; omega
theorem half_small {x : Int} (hx : 1 ≤ x) {y m : Nat} (hy : x ^ y < BB ^ 22) : x ^ (y / 2 ^ (m + 1)) < BB ^ 11 := by
  have h0 : 0 ≤ x ^ (y / 2 ^ (m + 1)) := by have : (0 : Int) < x ^ (y / 2 ^ (m + 1)) := Int.pow_pos (by omega); omega
  rcases Int.lt_or_le (x ^ (y / 2 ^ (m + 1))) (BB ^ 11) with h | h
  · exact h
  · exfalso
    have h1 := Int.mul_le_mul h h (Int.le_of_lt (Int.pow_pos (by decide))) h0
    rw [← Int.pow_add, ← Int.pow_add] at h1
    have h2 : y / 2 ^ (m + 1) + y / 2 ^ (m + 1) ≤ y := by
      rw [Nat.pow_succ, ← Nat.div_div_eq_div_mul]
      have := Nat.div_le_self y (2 ^ m)
      omega
    have h3 := ipow_le hx h2
    have : (11 : Nat) + 11 = 22 := rfl
    rw [this] at h1
    omega
end Go.Proofs.YtmgfajamanakcaaGreatDoor
namespace Go.Proofs.YtmgfajamanakcaaGreatDoor
set_option linter.unusedVariables false
set_option linter.unusedSimpArgs false
open Go.RowKit
set_option maxRecDepth 100000
theorem run_append_wordl (a : Option Addr) (n c : Nat) (X : Nat → Int) (x : Int) (W : World) (hz : ZOK W a c) (hr : Rd W a n X) (hnc : n ≤ c) (hn : n < 1099511627776) (ad : Addr) (hx : W.cell? ad = some (.int .u64 x)) (ty : TypeId) :
    ∃ a' c' W', (Builtin.append_ #[119, 119] ty #[.slice a n c, .slice (some ad) 1 1]).run Tryz.prog W = .ok (.slice a' (n + 1) c') W' ∧ AppRes W a n c X x a' c' W' := by
  obtain ⟨i0, hi, hz0, hz1, hz2⟩ := info_parts info153
  have hnews : ∀ j v, [Value.int .u64 x][j]? = some v → W.cell? (ad.add j) = some v := fun j v h => by
    cases j with
    | zero => simp at h; subst h; simpa [Addr.add] using hx
    | succ j => simp at h
  have hupd : ∀ i, i < n → X i = upd X n x i := fun i hi => (upd_other X x (by omega)).symm
  rcases hz with ⟨rfl, rfl⟩ | ⟨b, o, rfl, hb, hroom, hcap⟩
  · obtain rfl : n = 0 := by omega
    have hrun := run_append_nil (P := Tryz.prog) W 119 ty 153 i0 (.int .u64 0) Tryz.underlying119 hi hz0 ad 1 1 [.int .u64 x] (by rw [hz1]; rfl) hnews (by omega) (by omega) (by rw [hz2]; omega)
    have hg := grownCap_ge W 1 0 153 (by omega)
    have hw := new_words W.drew (fun _ => x) 1 (grownCap W 1 0 153 - 1)
    rw [show ((Value.int .u64 0).cells) = #[Value.int .u64 0] from rfl, zeroCells_word] at hrun
    refine ⟨_, _, _, hrun, by omega, Or.inr ⟨_, _, rfl, PB.new W.drew _ _, ?_, hg.2⟩, Or.inr ⟨_, _, rfl, ?_⟩, Or.inr ⟨_, _, rfl, Nat.le_refl _⟩, chg_drew_alloc _ _ _⟩
    · have := hw.2
      rwa [show 1 + (grownCap W 1 0 153 - 1) = grownCap W 1 0 153 by omega] at this
    · exact hw.1.congr (fun i hi => by obtain rfl : i = 0 := by omega
                                       exact (upd_same X 0 x).symm)
  · have hX : n = 0 ∨ Words W b o n X := by
      rcases hr with h | ⟨b', o', e, hw⟩
      · exact Or.inl h
      · injection e with e; injection e with e1 e2; subst e1; subst e2; exact Or.inr hw
    have hX' : Words W b o n X := by
      rcases hX with h | h
      · intro i hi; omega
      · exact h
    by_cases hfit : n + 1 ≤ c
    · have hrun := run_append_room_cells (P := Tryz.prog) W 119 ty 153 i0 Tryz.underlying119 hi b o n c ad 1 1 [.int .u64 x] (by rw [hz1]; rfl) hnews (fun u hu => by simp at hu; subst hu; rfl) hfit
        (fun j hj => by
          obtain rfl : j = 0 := by simp at hj; exact hj
          rw [hz1, Nat.mul_one, Nat.add_zero]
          obtain ⟨⟨y, hy⟩, _⟩ := hroom n (by omega)
          rw [hy]; rfl)
        (fun j hj => by
          obtain rfl : j = 0 := by simp at hj; exact hj
          rw [hz1, Nat.mul_one, Nat.add_zero]
          exact (hroom n (by omega)).2)
      rw [hz1, Nat.mul_one] at hrun
      have hwd : W.setCells b (o + n) [.int .u64 x] = W.setCell ⟨b, o + n, none⟩ (.int .u64 x) := rfl
      rw [hwd] at hrun
      refine ⟨_, _, _, hrun, hfit, ?_, Or.inr ⟨b, o, rfl, hX'.snoc ?_⟩, Or.inl ⟨rfl, rfl⟩, (Chg.refl _ _).setCell b (o + n) _ (fun _ => ⟨o, rfl, by omega, by omega⟩)⟩
      · exact ZOK.setInt (Or.inr ⟨b, o, rfl, hb, hroom, hcap⟩) b (o + n) x
      · obtain ⟨⟨y, hy⟩, _⟩ := hroom n (by omega)
        rw [hy]; rfl
    · have holds : ∀ j v, (wordVals X n)[j]? = some v → W.cell? ((⟨b, o, none⟩ : Addr).add j) = some v := fun j v h => by
        obtain ⟨hj, rfl⟩ := wordVals_get X n j v h
        have := hX' j hj
        by_cases h0 : j = 0
        · subst h0; simpa [Addr.add] using this
        · simpa [Addr.add, h0] using this
      have hrun := run_append_grow (P := Tryz.prog) W 119 ty 153 i0 (.int .u64 0) Tryz.underlying119 hi hz0 ⟨b, o, none⟩ n c (wordVals X n) (by rw [wordVals_length, hz1, Nat.mul_one]) holds ad 1 1 [.int .u64 x] (by rw [hz1]; rfl) hnews (by omega) (by omega)
        (by rw [hz2]; exact growslice_fits (by omega) (by omega))
      have hg := grownCap_ge W (n + 1) c 153 (by omega)
      have hcat : (wordVals X n).toArray ++ [Value.int .u64 x].toArray = (wordVals (upd X n x) (n + 1)).toArray := by
        unfold wordVals
        rw [List.range_succ, List.map_append]
        simp only [List.map_cons, List.map_nil, upd_same]
        rw [← List.append_toArray]
        congr 2
        apply List.map_congr_left
        intro i hi'
        rw [upd_other X x (by have := List.mem_range.1 hi'; omega)]
      rw [show ((Value.int .u64 0).cells) = #[Value.int .u64 0] from rfl, zeroCells_word, hcat] at hrun
      have hw := new_words W.drew (upd X n x) (n + 1) (grownCap W (n + 1) c 153 - (n + 1))
      refine ⟨_, _, _, hrun, by omega, Or.inr ⟨_, _, rfl, PB.new W.drew _ _, ?_, hg.2⟩, Or.inr ⟨_, _, rfl, hw.1⟩, Or.inr ⟨_, _, rfl, Nat.le_refl _⟩, chg_drew_alloc _ _ _⟩
      have := hw.2
      rwa [show n + 1 + (grownCap W (n + 1) c 153 - (n + 1)) = grownCap W (n + 1) c 153 by omega] at this
theorem wpList_append_wordl {ops : Array Oper} {rest : List Oper} {o : Oper} {act : Act} {w : World} {Q : Exit → Act → World → Prop} (hgd : o.guard = none) (s x : Operand)
    (ho : o.op = .call { callee := .builtin .append, args := #[s, x], argTypes := #[119, 119] })
    (a : Option Addr) (n c : Nat) (X : Nat → Int) (y : Int) (ad : Addr) (hs : act.eval s = .slice a n c) (hx : act.eval x = .slice (some ad) 1 1)
    (hz : ZOK w a c) (hr : Rd w a n X) (hnc : n ≤ c) (hn : n < 1099511627776) (hy : w.cell? ad = some (.int .u64 y))
    (h : ∀ a' c' w', AppRes w a n c X y a' c' w' → wpList Tryz.prog ops Q rest (act.put o.dst (.slice a' (n + 1) c')) w') : wpList Tryz.prog ops Q (o :: rest) act w :=
  wpList_plain hgd fun K hK => by
    obtain ⟨a', c', w', hrun, h2⟩ := run_append_wordl a n c X y w hz hr hnc hn ad hy o.type
    unfold Oper.wp execOp
    simp only [ho, resolve, invoke, builtin, Sem.run_bind, Sem.run_pure, Result.andThen_ok, List.map_toArray, List.map_cons, List.map_nil, hs, hx, hrun]
    exact hK _ _ (h a' c' w' h2)
theorem int_ptr_same (w : World) (p : Addr) : (binOp .neq 130 (.pointer (some p)) (.pointer (some p))).run Tryz.prog w = .ok (.bool false) w := by
  cases hi : Tryz.prog.info? 122 with
  | none => have := info122; rw [hi] at this; cases this
  | some i =>
    have e := run_eql_ptr_same w p Tryz.underlying130 hi
    simp only [binOp] at e ⊢
    cases hh : (Op.equal 130 (.pointer (some p)) (.pointer (some p))).run Tryz.prog w with
    | ok v w1 => simp [hh, Result.andThen] at e ⊢; exact ⟨by rw [e.1], e.2⟩
    | _ => simp [hh, Result.andThen] at e
theorem Set_self (zb zo : Nat) (w : World) : Calls Tryz.prog 151 #[.pointer (some ⟨zb, zo, none⟩), .pointer (some ⟨zb, zo, none⟩)] w fun e w' => e = .returned (.pointer (some ⟨zb, zo, none⟩)) ∧ w' = w := by
  have hp := int_ptr_same w ⟨zb, zo, none⟩
  go_enter Tryz.func151, Tryz.ntmps151
  go_wp2
  go_ret
  exact ⟨rfl, rfl⟩
theorem Neg_self (zb zo : Nat) (neg : Bool) (a : Option Addr) (n c : Nat) (w : World) (hz : IntC w zb zo neg a n c) :
    Calls Tryz.prog 135 #[.pointer (some ⟨zb, zo, none⟩), .pointer (some ⟨zb, zo, none⟩)] w fun e w' => e = .returned (.pointer (some ⟨zb, zo, none⟩)) ∧ w' = w.setCell ⟨zb, zo, none⟩ (.bool (decide (0 < n) && !neg)) := by
  have HS := Lib.hid (Set_self zb zo w)
  obtain ⟨z0, z1, z2, z3⟩ := hz
  by_cases hn : 0 < n
  · have h1 : decide ((n : Int) > 0) = true := by simp; omega
    have h2 : decide (0 < n) = true := by simp; omega
    rw [h2]
    go_enter Tryz.func135, Tryz.ntmps135
    go_wp2_with fail
    refine HS.out.mono ?_
    rintro e w1 ⟨rfl, rfl⟩
    go_wp2
    go_ret
    exact ⟨rfl, rfl⟩
  · have h1 : decide ((n : Int) > 0) = false := by simp; omega
    have h2 : decide (0 < n) = false := by simp; omega
    rw [h2]
    go_enter Tryz.func135, Tryz.ntmps135
    go_wp2_with fail
    refine HS.out.mono ?_
    rintro e w1 ⟨rfl, rfl⟩
    go_wp2
    go_ret
    exact ⟨rfl, rfl⟩
theorem SetBits_any (zb zo : Nat) (neg : Bool) (za : Option Addr) (zn zc : Nat) (a : Option Addr) (n c : Nat) (X : Nat → Int) (w : World) (hz : IntC w zb zo neg za zn zc) (hr : Rd w a n X) (hnc : n ≤ c) (hc : c < 9223372036854775808) :
    Calls Tryz.prog 91 #[.pointer (some ⟨zb, zo, none⟩), .slice a n c] w fun e w' => ∃ i, e = .returned (.pointer (some ⟨zb, zo, none⟩)) ∧ i ≤ n ∧ (∀ j, i ≤ j → j < n → X j = 0) ∧ Norm X i ∧ w' = (w.setCell ⟨zb, zo + 1, none⟩ (.slice a i c)).setCell ⟨zb, zo, none⟩ (.bool false) := by
  have HN := Lib.hid (norm_any a n c X w hr hnc hc)
  obtain ⟨z0, z1, z2, z3⟩ := hz
  go_enter Tryz.func91, Tryz.ntmps91
  go_wp2_with fail
  refine HN.out.mono ?_
  rintro e w1 ⟨i, rfl, h1, h2, h3, rfl⟩
  have H := Lib.hid (And.intro h1 (And.intro h2 h3))
  clear h1 h2 h3
  go_wp2
  go_ret
  exact ⟨i, rfl, H.out.1, H.out.2.1, H.out.2.2, rfl⟩
structure NumO (w0 w : World) (zb zo : Nat) (neg : Bool) (a : Option Addr) (n c : Nat) (X : Nat → Int) (V : Int) : Prop where
  ic : IntC w zb zo neg a n c
  le : n ≤ c
  z : ZOK w a c
  rd : Rd w a n X
  wf : WF X n
  nm : Norm X n
  v : val X n = V
  fr : Fresh w0 a
  ne : ∀ b o, a = some ⟨b, o, none⟩ → b ≠ zb
theorem newInt_c (w : World) : IntC (w.alloc (.cells #[.bool false, .slice none 0 0] 122)) w.heap.size 0 false none 0 0 :=
  ⟨cell?_alloc_new w _ 122 0 _ rfl, cell?_alloc_new w _ 122 1 _ rfl, frozen?_alloc_new w _ 122 0, frozen?_alloc_new w _ 122 1⟩
theorem val_trim {X : Nat → Int} {i n : Nat} (h : i ≤ n) (hz : ∀ j, i ≤ j → j < n → X j = 0) : val X n = val X i := by
  obtain ⟨d, rfl⟩ : ∃ d, n = i + d := ⟨n - i, by omega⟩
  induction d with
  | zero => rfl
  | succ d ih =>
    rw [show i + (d + 1) = (i + d) + 1 by omega, val, ih (by omega) (fun j a b => hz j a (by omega)), hz (i + d) (by omega) (by omega)]
    simp
theorem norm_zero {X : Nat → Int} {n : Nat} (hw : WF X n) (hn : Norm X n) : decide (0 < n) = decide (val X n ≠ 0) := by
  rcases hn with h | h
  · subst h; rfl
  · by_cases h0 : n = 0
    · subst h0; rfl
    · have h1 : val X n ≠ 0 := by
        obtain ⟨m, rfl⟩ : ∃ m, n = m + 1 := ⟨n - 1, by omega⟩
        have a := val_nonneg (show WF X m from fun i hi => hw i (by omega))
        have b := hw m (by omega)
        have hp : (0 : Int) < BB ^ m := Int.pow_pos (by decide)
        rw [val]
        simp only [Nat.add_sub_cancel] at h
        have h1 : 0 < X m := by have := b.1; omega
        have hq : X m * BB ^ m = BB ^ m * X m := Int.mul_comm _ _
        have := Int.mul_pos h1 hp
        omega
      rw [decide_eq_true (show 0 < n by omega), decide_eq_true h1]
def OfIntP (w : World) (xn : Bool) (U : Nat → Int) (un : Nat) (e : Ending) (w' : World) : Prop :=
  ∃ zb a n c, e = .returned (.pointer (some ⟨zb, 0, none⟩)) ∧ w.heap.size ≤ zb ∧ PB w' zb ∧ n ≤ un ∧ NumO w w' zb 0 (xn && decide (val U un ≠ 0)) a n c U (val U un) ∧ Chg zNone w w'
def OfRel (w wA : World) (un : Nat) (U : Nat → Int) (k : Nat) (s3 s10 : Value) (wc : World) : Prop :=
  ∃ (i : Nat) (a : Option Addr) (c : Nat), s3 = .slice a i c ∧ s10 = .int .i64 (i : Int) ∧ i + k = un ∧ Hid (i ≤ c ∧ ZOK wc a c ∧ Fresh wA a ∧ Rd wc a i U ∧ Chg zNone wA wc)
set_option maxHeartbeats 2000000 in
theorem ofint_any (xn : Bool) (ua : Option Addr) (un uc : Nat) (U : Nat → Int) (w : World) (hu : Rd w ua un U) (hU : WF U un) (hun : un < 1073741824) :
    Calls Tryz.prog 74 #[.agg #[.bool xn, .slice ua un uc]] w (OfIntP w xn U un) := by
  have kA : Chg zNone w (w.alloc (.cells #[.bool xn, .slice ua un uc] 29)) := (Chg.refl _ _).alloc _
  have HK0 := Lib.hid kA
  have HF := Lib.hid (And.intro (cell?_alloc_new w #[.bool xn, .slice ua un uc] 29 0 (.bool xn) rfl) (cell?_alloc_new w #[.bool xn, .slice ua un uc] 29 1 (.slice ua un uc) rfl))
  have HU := Lib.hid (And.intro (rd_far hu kA (fun _ _ _ _ _ h => h)) hU)
  have HLt := Lib.hid (show w.heap.size < (w.alloc (.cells #[.bool xn, .slice ua un uc] 29)).heap.size by show _ < (w.heap.push _).size; simp)
  clear hu hU kA
  have f0 := HF.out.1
  have f1 := HF.out.2
  obtain ⟨wA, hwA⟩ : ∃ wA, wA = w.alloc (.cells #[.bool xn, .slice ua un uc] 29) := ⟨_, rfl⟩
  have HWA := Lib.hid hwA
  rw [← hwA] at HK0 HF HU HLt
  clear hwA
  go_enter Tryz.func74, Tryz.ntmps74
  go_wp2_with fail
  clear f0 f1
  go_loopg [3, 5, 10] un (fun k s3 s5 s10 wc => OfRel w wA un U k s3 s10 wc)
  case atStart => exact ⟨0, none, 0, rfl, rfl, by omega, Nat.le_refl _, Or.inl ⟨rfl, rfl⟩, Or.inl rfl, Or.inl rfl, by rw [HWA.out]; exact Chg.refl _ _⟩
  case round =>
    obtain ⟨i, a', c', rfl, rfl, hk, H⟩ := hrel
    by_cases hi : i < un
    · have h1 : decide ((i : Int) < (un : Int)) = true := by simp; omega
      have h2 : (0 : Int) ≤ (i : Int) := by omega
      have h3 : (i : Int) < (un : Int) := by omega
      obtain ⟨x, hx⟩ : ∃ x, U i = x := ⟨_, rfl⟩
      obtain ⟨b, o, rfl, hw⟩ : ∃ b o, ua = some ⟨b, o, none⟩ ∧ Words wA b o un U := by
        rcases HU.out.1 with h | h
        · omega
        · exact h
      have hc := H.out.2.2.2.2.cell (hw i hi) (fun h => h)
      rw [hx] at hc
      have Hx := Lib.hid hx
      clear hx hw
      have kal : Chg zNone wr (wr.alloc (.cells #[.int .u64 x] 153)) := (Chg.refl _ _).alloc _
      have HX := Lib.hid (show ZOK (wr.alloc (.cells #[.int .u64 x] 153)) a' c' ∧ Rd (wr.alloc (.cells #[.int .u64 x] 153)) a' i U ∧ (wr.alloc (.cells #[.int .u64 x] 153)).cell? ⟨wr.heap.size, 0, none⟩ = some (.int .u64 x) from
        ⟨H.out.2.1.chg kal (fun _ _ _ h => h), rd_far H.out.2.2.2.1 kal (fun _ _ _ _ _ h => h), cell?_alloc_new wr #[.int .u64 x] 153 0 (.int .u64 x) rfl⟩)
      have HK := Lib.hid (H.out.2.2.2.2.trans kal (fun _ _ _ h => h))
      have x3 := H.out.1
      have x4 : i < 1099511627776 := by omega
      clear kal
      go_wp2_with (refine wpList_append_wordl rfl (.tmp 14) (.tmp 16) rfl a' i c' U _ _ rfl rfl HX.out.1 HX.out.2.1 x3 x4 HX.out.2.2 ?_; rintro a2 c2 w2 h2; have H2 := Lib.hid h2; clear h2)
      go_roundg (gk - 1)
      case measure => omega
      case rel =>
        obtain ⟨g1, g2, g3, g4, g5⟩ := H2.out
        refine ⟨i + 1, a2, c2, rfl, by go_num, by omega, g1, g2, fresh_home H.out.2.2.1 g4 HK.out.size, ?_, HK.out.trans g5 ?_⟩
        · rcases g3 with h | ⟨b', o', e, hw⟩
          · omega
          · refine Or.inr ⟨b', o', e, hw.congr (fun j hj => ?_)⟩
            by_cases hji : j = i
            · subst hji; rw [upd_same]; exact Hx.out.symm
            · exact upd_other U x hji
        · rintro b' o' hb ⟨p, e, _⟩
          exact (fresh_far H.out.2.2.1 hb e rfl).elim
    · have h1 : decide ((i : Int) < (un : Int)) = false := by simp; omega
      obtain rfl : i = un := by omega
      obtain ⟨hic, hz, hfr, hrd, hkc⟩ := H.out
      have kal : Chg zNone wr (wr.alloc (.cells #[.bool false, .slice none 0 0] 122)) := (Chg.refl _ _).alloc _
      have hN : IntC (wr.alloc (.cells #[.bool false, .slice none 0 0] 122)) wr.heap.size 0 false none 0 0 := newInt_c wr
      have HB := Lib.hid (SetBits_any wr.heap.size 0 false none 0 0 a' i c' U _ hN (rd_far hrd kal (fun _ _ _ _ _ h => h)) hic hz.cap)
      have HFw0 := Lib.hid (And.intro (hkc.cell HF.out.1 (fun h => h)) (hkc.cell HF.out.2 (fun h => h)))
      have HNs := Lib.hid (And.intro hN (PB.new wr #[.bool false, .slice none 0 0] 122))
      have HKc := Lib.hid hkc
      have HK1 := Lib.hid (HK0.out.trans hkc (fun _ _ _ h => h))
      have HZ := Lib.hid (And.intro hic (And.intro hz (And.intro hfr (And.intro hrd kal))))
      clear hic hz hfr hrd hkc kal hN
      obtain ⟨wn, hwn⟩ : ∃ wn, wn = wr.alloc (.cells #[.bool false, .slice none 0 0] 122) := ⟨_, rfl⟩
      have hlt : w.heap.size < wr.heap.size := Nat.lt_of_lt_of_le HLt.out HKc.out.size
      have HLt2 := Lib.hid hlt
      go_wp2_with fail
      rw [← hwn] at HB HNs HZ ⊢
      have HWN := Lib.hid hwn
      clear hwn
      refine HB.out.mono ?_
      rintro e w2 ⟨i1, rfl, g1, g2, g3, hw2⟩
      obtain ⟨q1, q2, q3, q4, q5⟩ := HZ.out
      have q3' : Fresh w a' := q3.imp id (fun ⟨b, o, e, h⟩ => ⟨b, o, e, Nat.le_trans HK0.out.size h⟩)
      have kS : Chg (zRow wr.heap.size 0 2) wn w2 := by rw [hw2]; exact ((Chg.refl _ _).setCell _ _ _ (fun _ => ⟨rfl, by omega, by omega⟩)).setCell _ _ _ (fun _ => ⟨rfl, by omega, by omega⟩)
      have hI : IntC w2 wr.heap.size 0 false a' i1 c' := by rw [hw2]; exact (HNs.out.1.abs).sign
      have hf0 := kS.cell (q5.cell HFw0.out.1 (fun h => h)) (fun h => by have := h.1; omega)
      have hf1 := kS.cell (q5.cell HFw0.out.2 (fun h => h)) (fun h => by have := h.1; omega)
      have kW : Chg (zRow wr.heap.size 0 2) wr w2 := (q5.mono (Z' := zRow wr.heap.size 0 2) (fun _ _ _ h => h.elim)).trans kS (fun _ _ _ h => h)
      have sep : ∀ b o, a' = some ⟨b, o, none⟩ → b ≠ wr.heap.size := fun b o e => by
        rcases q2 with ⟨h, _⟩ | ⟨b2, o2, e2, hp, _⟩
        · rw [h] at e; cases e
        · rw [e2] at e; injection e with e; injection e with e3 _; have := hp.lt; omega
      have hz2 : ZOK w2 a' c' := q2.chg kW (by rintro b o ⟨p, e, _⟩ hh; exact sep b p e hh.1)
      have hr2 : Rd w2 a' i1 U := rd_far (by
        rcases q4 with h | ⟨b, o, e, hw⟩
        · exact Or.inl (by omega)
        · exact Or.inr ⟨b, o, e, hw.le g1⟩) kW (by rintro b o i e _ hh; exact sep b o e hh.1)
      have hwf : WF U i1 := fun j hj => HU.out.2 j (by omega)
      have hv : val U i = val U i1 := val_trim g1 g2
      have hpb : PB w2 wr.heap.size := HNs.out.2.chg kS
      have kF : Chg zNone w w2 := HK1.out.trans kW (fun b o hb h => by have := h.1; omega)
      have hn0 := norm_zero hwf g3
      have hge : w.heap.size ≤ wr.heap.size := by omega
      have HE : Hid (∀ neg w3, Chg (zRow wr.heap.size 0 2) w2 w3 → IntC w3 wr.heap.size 0 neg a' i1 c' → neg = (xn && decide (val U i ≠ 0)) → OfIntP w xn U i (.returned (.pointer (some ⟨wr.heap.size, 0, none⟩))) w3) := fun neg w3 k hi3 hneg => by
        subst hneg
        refine ⟨wr.heap.size, a', i1, c', rfl, hge, hpb.chg k, g1, ⟨hi3, by omega, hz2.chg k ?_, rd_far hr2 k ?_, hwf, g3, hv.symm, q3', sep⟩, kF.trans k (fun b o hb h => by have := h.1; omega)⟩
        · rintro b o ⟨p, e, _⟩ hh; exact sep b p e hh.1
        · rintro b o i e _ hh; exact sep b o e hh.1
      have HNg := Lib.hid (Neg_self wr.heap.size 0 false a' i1 c' w2 hI)
      have HI := Lib.hid hI
      have HX := Lib.hid (And.intro hn0 hv)
      clear hw2 kS kW hz2 hr2 hwf hv hpb kF hn0 hge q1 q2 q3 q4 q5 sep g1 g2 g3 hI hlt
      cases xn with
      | true =>
        go_wp2_with fail
        refine HNg.out.mono ?_
        rintro e w3 ⟨rfl, hw3⟩
        have HW3 := Lib.hid hw3
        clear hw3
        go_wp2_with fail
        go_ret
        refine HE.out (decide (0 < i1) && !false) w3 (by rw [HW3.out]; exact (Chg.refl _ _).setCell _ _ _ (fun _ => ⟨rfl, by omega, by omega⟩)) (by rw [HW3.out]; exact HI.out.sign) ?_
        rw [HX.out.1, HX.out.2]; simp
      | false =>
        go_wp2_with fail
        go_ret
        exact HE.out false w2 (Chg.refl _ _) HI.out (by simp)
end Go.Proofs.YtmgfajamanakcaaGreatDoor
