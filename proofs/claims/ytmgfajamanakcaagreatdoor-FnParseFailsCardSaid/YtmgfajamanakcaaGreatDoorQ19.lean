/-
  Long division's outer loop: the invariant, its step and its end; the refinement of a guess. Plain arithmetic; no program in sight.
  nat.sticky, walked. Conditions: the index below 2^40.
  divLarge: the scaled numbers. Plain arithmetic; no program in sight.
  Bits of a word: struck off from below, asked for, set. Plain arithmetic; no program.
  Rounding, step by step as the program does it: the two bits, the increment, the bits struck off. Plain arithmetic; no program.
-/
import Derived.Test.YtmgfajamanakcaaGreatDoorQ15
import Derived.Test.YtmgfajamanakcaaGreatDoorQ18
import Derived.Deep.LoopGhost
import Derived.Outline
import Derived.Test.YtmgfajamanakcaaGreatDoorQ01
namespace Go.Proofs.YtmgfajamanakcaaGreatDoor
set_option linter.unusedVariables false
/-- Before digit j-1: U holds what is left of U0, S of the quotient is found. -/
structure LInvD (U0 V : Nat → Int) (n m j : Nat) (S : Int) (U : Nat → Int) : Prop where
  wf : WF U (m + n + 1)
  hi : ∀ i, i < m + n + 1 → j + n ≤ i → U i = 0
  sum : val U0 (m + n + 1) = S * val V n + val U (m + n + 1)
  lt : val (fun i => U (j + i)) n < val V n
theorem LInvD.start {U V : Nat → Int} {n m : Nat} (hU : WF U (m + n)) (h0 : U (m + n) = 0) (hn : 0 < n) (hV : WF V n) (htop : U (m + n - 1) < V (n - 1)) : LInvD U V n m (m + 1) 0 U := by
  have hw : WF U (m + n + 1) := fun i hi => by
    by_cases e : i = m + n
    · rw [e, h0]; exact ⟨by decide, by decide⟩
    · exact hU i (by omega)
  refine ⟨hw, fun i h1 h2 => by omega, by omega, ?_⟩
  obtain ⟨k, rfl⟩ : ∃ k, n = k + 1 := ⟨n - 1, by omega⟩
  have e1 : val (fun i => U (m + 1 + i)) (k + 1) = val (fun i => U (m + 1 + i)) k := val_top (by omega) (fun i h1 h2 => by
    obtain rfl : i = k := by omega
    rw [← h0]; congr 1; omega)
  rw [e1]
  have e2 : val V (k + 1) = val V k + BB ^ k * V k := by
    rw [val_add, val_one]; rfl
  have a1 := val_nonneg (hV.le (show k ≤ k + 1 by omega))
  have a2 : val (fun i => U (m + 1 + i)) k < BB ^ k := val_lt (fun i hi => hw _ (by omega))
  have a3 : 1 ≤ V k := by
    have := (hU (m + (k + 1) - 1) (by omega)).1
    simp only [Nat.add_sub_cancel] at htop
    omega
  have a4 := Int.mul_le_mul_of_nonneg_left a3 (Int.le_of_lt (BBn_pos k))
  omega
theorem val_cut (U : Nat → Int) (j n m : Nat) (hj : j ≤ m) (hz : ∀ i, i < m + n + 1 → j + n + 1 ≤ i → U i = 0) : val U (m + n + 1) = val U j + BB ^ j * val (fun i => U (j + i)) (n + 1) := by
  have h := val_top (X := U) (show j + (n + 1) ≤ m + n + 1 by omega) (fun i h1 h2 => hz i h2 (by omega))
  rw [h, val_add]
theorem LInvD.window {U0 V U : Nat → Int} {n m j : Nat} {S : Int} (h : LInvD U0 V n m (j + 1) S U) (hj : j ≤ m) : val (fun i => U (j + i)) (n + 1) < val V n * BB := by
  have e : val (fun i => U (j + i)) (n + 1) = U j + BB * val (fun i => U (j + 1 + i)) n := by
    rw [Nat.add_comm n 1, val_add, val_one]
    simp only [Nat.add_zero, Int.pow_succ, Int.pow_zero]
    rw [val_congr (X := fun i => U (j + (1 + i))) (Y := fun i => U (j + 1 + i)) (fun i hi => by rw [Nat.add_assoc])]
    grind
  have h1 := (h.wf j (by omega)).2
  have h2 := h.lt
  have h3 := Int.mul_le_mul_of_nonneg_right (show val (fun i => U (j + 1 + i)) n + 1 ≤ val V n by omega) (show (0:Int) ≤ BB by decide)
  rw [e, Int.mul_comm BB]
  rw [Int.add_mul] at h3
  unfold BB at *
  omega
theorem LInvD.step {U0 V U U' : Nat → Int} {n m j : Nat} {S : Int} (h : LInvD U0 V n m (j + 1) S U) (hj : j ≤ m) (hVp : 0 < val V n) (hoff : ∀ i, i < m + n + 1 → i < j ∨ j + n < i → U' i = U i)
    (hw : WF (fun i => U' (j + i)) n) (ht : U' (j + n) = 0) (hR : val (fun i => U' (j + i)) n = val (fun i => U (j + i)) (n + 1) % val V n) :
    LInvD U0 V n m j (S + val (fun i => U (j + i)) (n + 1) / val V n * BB ^ j) U' := by
  have hhi : ∀ i, i < m + n + 1 → j + n ≤ i → U' i = 0 := fun i h1 h2 => by
    by_cases e : i = j + n
    · rw [e, ht]
    · rw [hoff i h1 (Or.inr (by omega))]; exact h.hi i h1 (by omega)
  refine ⟨fun i hi => ?_, hhi, ?_, ?_⟩
  · by_cases h1 : i < j ∨ j + n < i
    · rw [hoff i hi h1]; exact h.wf i hi
    · by_cases e : i = j + n
      · rw [e, ht]; exact ⟨by decide, by decide⟩
      · have := hw (i - j) (by omega)
        simpa [show j + (i - j) = i by omega] using this
  · have e1 := val_cut U j n m hj (fun i h1 h2 => h.hi i h1 (by omega))
    have e2 := val_cut U' j n m hj (fun i h1 h2 => hhi i h1 (by omega))
    have e3 : val U' j = val U j := val_congr (fun i hi => hoff i (by omega) (Or.inl hi))
    have e4 : val (fun i => U' (j + i)) (n + 1) = val (fun i => U' (j + i)) n := val_top (by omega) (fun i h1 h2 => by
      obtain rfl : i = n := by omega
      exact ht)
    have e5 := Int.emod_add_mul_ediv (val (fun i => U (j + i)) (n + 1)) (val V n)
    rw [e4, hR, e3] at e2
    rw [h.sum, e1, e2]
    generalize val (fun i => U (j + i)) (n + 1) / val V n = q at *
    generalize val (fun i => U (j + i)) (n + 1) % val V n = r at *
    rw [← e5]
    grind
  · rw [hR]; exact Int.emod_lt_of_pos _ hVp
theorem LInvD.done {U0 V U : Nat → Int} {n m : Nat} {S : Int} (h : LInvD U0 V n m 0 S U) (hV : 0 < val V n) (hn : 0 < n) : S = val U0 (m + n + 1) / val V n ∧ val U (m + n + 1) = val U0 (m + n + 1) % val V n ∧ ∀ i, i < m + n + 1 → n ≤ i → U i = 0 := by
  have e1 := val_top (X := U) (show n ≤ m + n + 1 by omega) (fun i h1 h2 => h.hi i h2 (by omega))
  have h2 := h.lt
  simp only [Nat.zero_add] at h2
  have h3 : 0 ≤ val U n := val_nonneg (h.wf.le (by omega))
  have h4 := h.sum
  rw [e1] at h4 ⊢
  have e : val U0 (m + n + 1) = val U n + val V n * S := by rw [h4, Int.mul_comm]; omega
  refine ⟨?_, ?_, fun i h1 h2 => h.hi i h1 (by omega)⟩
  · rw [e, Int.add_mul_ediv_left _ _ (by omega), Int.ediv_eq_zero_of_lt h3 h2]; omega
  · rw [e, Int.add_mul_emod_self_left, Int.emod_eq_of_lt h3 h2]
/-- The first digit is 0, where the top word is below the divisor's. -/
theorem LInvD.first {U0 V U : Nat → Int} {n m : Nat} {S : Int} (h : LInvD U0 V n m (m + 1) S U) (hn : 0 < n) (hV : WF V n) (htop : U (m + n - 1) < V (n - 1)) (h0 : U (m + n) = 0) : val (fun i => U (m + i)) (n + 1) < val V n := by
  have e1 : val (fun i => U (m + i)) (n + 1) = val (fun i => U (m + i)) n := val_top (by omega) (fun i h1 h2 => by
    obtain rfl : i = n := by omega
    exact h0)
  obtain ⟨k, rfl⟩ : ∃ k, n = k + 1 := ⟨n - 1, by omega⟩
  have e2 : val V (k + 1) = val V k + BB ^ k * V k := by rw [val_add, val_one]; rfl
  have e3 : val (fun i => U (m + i)) (k + 1) = val (fun i => U (m + i)) k + BB ^ k * U (m + k) := by rw [val_add, val_one]; rfl
  have a1 := val_nonneg (hV.le (show k ≤ k + 1 by omega))
  have a2 : val (fun i => U (m + i)) k < BB ^ k := val_lt (fun i hi => h.wf _ (by omega))
  simp only [Nat.add_sub_cancel, show m + (k + 1) - 1 = m + k by omega] at htop
  have a4 := Int.mul_le_mul_of_nonneg_left (show U (m + k) + 1 ≤ V k by omega) (Int.le_of_lt (BBn_pos k))
  rw [Int.mul_add] at a4
  rw [e1, e2, e3]
  omega
/-- The guess' refinement: q is not too small, q v1 + r = u3 B + u2. -/
structure GInv {P v1 v2 v0 u3 u2 u1 u0 : Int} (g : Guess P v1 v2 v0 u3 u2 u1 u0) (q r : Int) : Prop where
  q0 : 0 ≤ q
  r0 : 0 ≤ r
  eq : q * v1 + r = u3 * BB + u2
  ge : gU P u3 u2 u1 u0 / gV P v1 v2 v0 ≤ q
variable {P v1 v2 v0 u3 u2 u1 u0 : Int}
theorem GInv.down {g : Guess P v1 v2 v0 u3 u2 u1 u0} {q r : Int} (h : GInv g q r) (hl : r * BB + u1 < q * v2) : GInv g (q - 1) (r + v1) := by
  have h1 := g.down h.q0 h.eq hl
  have h2 := g.q_nonneg
  have h3 := g.hv1
  refine ⟨by omega, by have := h.r0; unfold BB at *; omega, ?_, h1⟩
  have := h.eq
  rw [Int.sub_mul]; omega
theorem GInv.near {g : Guess P v1 v2 v0 u3 u2 u1 u0} {q r : Int} (h : GInv g q r) (hq : q < BB) (hl : q * v2 ≤ r * BB + u1) : q = gU P u3 u2 u1 u0 / gV P v1 v2 v0 ∨ q = gU P u3 u2 u1 u0 / gV P v1 v2 v0 + 1 := by
  have h1 := g.near h.q0 hq (by
    have e : q * (v1 * BB + v2) = q * v1 * BB + q * v2 := by grind
    have := h.eq
    rw [e, ← h.eq, Int.add_mul]; omega)
  have := h.ge
  omega
theorem GInv.near_over {g : Guess P v1 v2 v0 u3 u2 u1 u0} {q r : Int} (h : GInv g q r) (hq : q < BB) (hr : BB ≤ r) : q = gU P u3 u2 u1 u0 / gV P v1 v2 v0 ∨ q = gU P u3 u2 u1 u0 / gV P v1 v2 v0 + 1 := by
  refine h.near hq ?_
  have h1 := Int.mul_le_mul (show q ≤ BB by omega) (show v2 ≤ BB by have := g.hv2'; omega) g.hv2 (show (0:Int) ≤ BB by decide)
  have h2 := Int.mul_le_mul_of_nonneg_right hr (show (0:Int) ≤ BB by decide)
  have := g.hu1
  omega
/-- Scaling changes no quotient, and scales the remainder. -/
theorem scale_div {a b s : Int} (hs : 0 < s) : a * s / (b * s) = a / b := Int.mul_ediv_mul_of_pos_left a b hs
theorem scale_mod {a b s : Int} (hs : 0 < s) : a * s % (b * s) = a % b * s := by
  have h1 := Int.emod_add_mul_ediv (a * s) (b * s)
  have h2 := Int.emod_add_mul_ediv a b
  rw [scale_div hs] at h1
  have h3 : a * s = a % b * s + b * s * (a / b) := by
    generalize a / b = q at *
    generalize a % b = r at *
    rw [← h2]
    grind
  omega
/-- The quotient's digits, from the top. -/
theorem sum_step {Q : Nat → Int} {j m : Nat} (hj : j < m) : val (fun i => Q (j + i)) (m - j) * BB ^ j = val (fun i => Q (j + 1 + i)) (m - (j + 1)) * BB ^ (j + 1) + Q j * BB ^ j := by
  obtain ⟨k, hk⟩ : ∃ k, m - j = k + 1 := ⟨m - j - 1, by omega⟩
  rw [hk, show m - (j + 1) = k by omega, Nat.add_comm k 1, val_add, val_one]
  simp only [Nat.add_zero, Int.pow_succ, Int.pow_zero]
  rw [val_congr (X := fun i => Q (j + (1 + i))) (Y := fun i => Q (j + 1 + i)) (fun i hi => by rw [Nat.add_assoc])]
  grind
end Go.Proofs.YtmgfajamanakcaaGreatDoor
namespace Go.Proofs.YtmgfajamanakcaaGreatDoor
open Go.RowKit
set_option maxRecDepth 100000
set_option linter.unusedVariables false
theorem shl_zero {x : Int} {r : Nat} (hr : r ≤ 64) : IntKind.u64.wrap (x * 2 ^ (64 - r)) = x % 2 ^ r * 2 ^ (64 - r) := by
  have e : (18446744073709551616 : Int) = 2 ^ r * 2 ^ (64 - r) := by
    rw [← Int.pow_add, show r + (64 - r) = 64 by omega]; decide
  rw [wrap_u64, e]
  exact scale_mod (Int.pow_pos (by decide))
theorem shl_ne {x : Int} {r : Nat} (hr : r ≤ 64) : (IntKind.u64.wrap (x * 2 ^ (64 - r)) != 0) = !decide (x % 2 ^ r = 0) := by
  rw [shl_zero hr]
  have hp : (0 : Int) < 2 ^ (64 - r) := Int.pow_pos (by decide)
  by_cases h : x % 2 ^ r = 0
  · simp [h]
  · have : x % 2 ^ r * 2 ^ (64 - r) ≠ 0 := Int.mul_ne_zero h (by omega)
    simp [h, this]
/-- Whether a bit below the i-th is set: 1 or 0. -/
def StickyIs (X : Nat → Int) (n i : Nat) (v : Int) : Prop :=
  (n ≤ i / 64 → v = if n = 0 then 0 else 1) ∧ (i / 64 < n → (v = 0 ∧ (∀ k, k < i / 64 → X k = 0) ∧ X (i / 64) % 2 ^ (i % 64) = 0) ∨ (v = 1 ∧ ((∃ k, k < i / 64 ∧ X k ≠ 0) ∨ X (i / 64) % 2 ^ (i % 64) ≠ 0)))
set_option maxHeartbeats 2000000 in
theorem sticky_any (a : Option Addr) (n c i : Nat) (X : Nat → Int) (w : World) (hr : Rd w a n X) (hnc : n ≤ c) (hn : n < 1099511627776) (hi : i < 1099511627776) :
    Calls Tryz.prog 198 #[.slice a n c, .int .u64 (i : Int)] w fun e w' => ∃ v, e = .returned (.int .u64 v) ∧ StickyIs X n i v ∧ w = w' := by
  have q1 : (i : Int).tdiv 64 = ((i / 64 : Nat) : Int) := by
    rw [Int.tdiv_eq_ediv_of_nonneg (by omega)]; omega
  have q2 : (i : Int).tmod 64 = ((i % 64 : Nat) : Int) := by
    rw [Int.tmod_eq_emod_of_nonneg (by omega)]; omega
  have hr64 : i % 64 < 64 := by omega
  obtain ⟨j, hj⟩ : ∃ j, i / 64 = j := ⟨_, rfl⟩
  obtain ⟨r, hr2⟩ : ∃ r, i % 64 = r := ⟨_, rfl⟩
  rw [hj] at q1
  rw [hr2] at q2 hr64
  have HS : Hid (i / 64 = j ∧ i % 64 = r) := ⟨hj, hr2⟩
  have q3 : IntKind.u64.wrap (n : Int) = (n : Int) := by rw [wrap_u64]; omega
  have hjb : j < 1099511627776 := by omega
  clear hj hr2
  by_cases hlt : j < n
  · have d2 : decide (n ≤ j) = false := by simp; omega
    obtain ⟨b, o, rfl, hw⟩ : ∃ b o, a = some ⟨b, o, none⟩ ∧ Words w b o n X := by
      rcases hr with h | h
      · omega
      · exact h
    have HW := Lib.hid hw
    have hcj := hw j hlt
    obtain ⟨x, hx⟩ : ∃ x, X j = x := ⟨_, rfl⟩
    rw [hx] at hcj
    have Hx := Lib.hid hx
    have f1 : (0 : Int) ≤ (j : Int) := by omega
    have f2 : (j : Int) < (n : Int) := by omega
    have f3 : (j : Int) ≤ (c : Int) := by omega
    clear hr hw hx
    go_enter Tryz.func198, Tryz.ntmps198
    go_wp2_with fail
    go_loopg [7, 22] j (fun k s7 s22 wc => ∃ t : Nat, s22 = .int .i64 (t : Int) ∧ t + k = j ∧ w = wc ∧ Hid (∀ l, l < t → X l = 0))
    case atStart => exact ⟨0, rfl, by omega, rfl, fun l hl => by omega⟩
    case round =>
      obtain ⟨t, rfl, ht, rfl, HT⟩ := hrel
      by_cases htj : t < j
      · have d3 : decide ((t : Int) < (j : Int)) = true := by simp; omega
        have d4 : decide (t < j) = true := by simp; omega
        have hct := HW.out t (by omega)
        obtain ⟨y, hy⟩ : ∃ y, X t = y := ⟨_, rfl⟩
        rw [hy] at hct
        have Hy := Lib.hid hy
        clear hy
        by_cases hy0 : y = 0
        · have HY := Lib.hid (Hy.out.trans hy0)
          have d5 : (y != 0) = false := bne_eq_false_iff_eq.2 hy0
          clear hy0
          go_wp2_with fail
          go_roundg (gk - 1)
          case measure => omega
          case rel => exact ⟨t + 1, by go_num, by omega, rfl, fun l hl => by
            rcases Nat.lt_or_ge l t with h | h
            · exact HT.out l h
            · obtain rfl : l = t := by omega
              exact HY.out⟩
        · have d5 : (y != 0) = true := bne_iff_ne.2 hy0
          have HY := Lib.hid (show X t ≠ 0 by rw [Hy.out]; exact hy0)
          clear hy0
          go_wp2_with fail
          go_ret
          exact ⟨1, rfl, ⟨fun h => by have := HS.out.1; omega, fun _ => Or.inr ⟨rfl, Or.inl ⟨t, by have := HS.out.1; omega, HY.out⟩⟩⟩, rfl⟩
      · have d3 : decide ((t : Int) < (j : Int)) = false := by simp; omega
        have d4 : decide (t < j) = false := by simp; omega
        have htj2 : t = j := by omega
        have hne := shl_ne (x := x) (r := r) (by omega)
        have HT2 := Lib.hid (show ∀ l, l < j → X l = 0 by rw [← htj2]; exact HT.out)
        clear htj2
        by_cases hz : x % 2 ^ r = 0
        · have Hz := Lib.hid hz
          rw [decide_eq_true hz] at hne
          clear hz
          go_wp2_with fail
          go_ret
          refine ⟨0, rfl, ⟨fun h => by have := HS.out.1; omega, fun _ => Or.inl ⟨rfl, fun k hk => HT2.out k (by have := HS.out.1; omega), ?_⟩⟩, rfl⟩
          rw [HS.out.1, HS.out.2, Hx.out]; exact Hz.out
        · have Hz := Lib.hid hz
          rw [decide_eq_false hz] at hne
          clear hz
          go_wp2_with fail
          go_ret
          refine ⟨1, rfl, ⟨fun h => by have := HS.out.1; omega, fun _ => Or.inr ⟨rfl, Or.inr ?_⟩⟩, rfl⟩
          rw [HS.out.1, HS.out.2, Hx.out]; exact Hz.out
  · have d2 : decide (n ≤ j) = true := by simp; omega
    by_cases h0 : n = 0
    · have d3 : ((n : Int) == 0) = true := by simp [h0]
      have H0 := Lib.hid h0
      have hji : n ≤ i / 64 := by rw [HS.out.1]; omega
      have Hji := Lib.hid hji
      clear hr h0 hji
      go_enter Tryz.func198, Tryz.ntmps198
      go_wp2_with fail
      go_ret
      exact ⟨0, rfl, ⟨fun _ => by rw [if_pos H0.out], fun h => by have := Hji.out; omega⟩, rfl⟩
    · have d3 : ((n : Int) == 0) = false := beq_false_of_ne (by omega)
      have H0 := Lib.hid h0
      have hji : n ≤ i / 64 := by rw [HS.out.1]; omega
      have Hji := Lib.hid hji
      clear hr h0 hji
      go_enter Tryz.func198, Tryz.ntmps198
      go_wp2_with fail
      go_ret
      exact ⟨1, rfl, ⟨fun _ => by rw [if_neg H0.out], fun h => by have := Hji.out; omega⟩, rfl⟩
end Go.Proofs.YtmgfajamanakcaaGreatDoor
namespace Go.Proofs.YtmgfajamanakcaaGreatDoor
set_option linter.unusedVariables false
theorem carry_small {X Z : Nat → Int} {n s : Nat} {c : Int} (hX : WF X n) (hZ : WF Z n) (h : val Z n + c * BB ^ n = val X n * 2 ^ s) : c < 2 ^ s := by
  have a1 := val_lt hX
  have a2 := val_nonneg hZ
  have h2 : (0 : Int) < 2 ^ s := Int.pow_pos (by decide)
  have h3 := Int.mul_lt_mul_of_pos_right a1 h2
  by_cases hc : c < 2 ^ s
  · exact hc
  · exfalso
    have h4 := Int.mul_le_mul_of_nonneg_right (show (2 : Int) ^ s ≤ c by omega) (Int.le_of_lt (BBn_pos n))
    rw [Int.mul_comm ((2 : Int) ^ s)] at h4
    omega
/-- The carry as the top word. -/
theorem val_carry {X Z U : Nat → Int} {n s : Nat} {c : Int} (h : val Z n + c * BB ^ n = val X n * 2 ^ s) (hU : ∀ i, i < n → U i = Z i) (hc : U n = c) : val U (n + 1) = val X n * 2 ^ s := by
  rw [val_add, val_one, val_congr hU]
  simp only [Nat.add_zero]
  rw [hc, ← h, Int.mul_comm]
theorem pow_le_63 {s : Nat} (hs : s < 64) : (2 : Int) ^ s ≤ 9223372036854775808 := by
  have h : (2 : Int) ^ s * 2 ^ (63 - s) = 9223372036854775808 := by
    rw [← Int.pow_add, show s + (63 - s) = 63 by omega]; decide
  have h1 : (0 : Int) < 2 ^ (63 - s) := Int.pow_pos (by decide)
  have h2 : (0 : Int) < 2 ^ s := Int.pow_pos (by decide)
  have := Int.mul_le_mul_of_nonneg_left (show (1 : Int) ≤ 2 ^ (63 - s) by omega) (Int.le_of_lt h2)
  omega
end Go.Proofs.YtmgfajamanakcaaGreatDoor
namespace Go.Proofs.YtmgfajamanakcaaGreatDoor
open Go.RowKit
set_option linter.unusedVariables false
theorem and_maskn (x t : Nat) (hx : x < 2 ^ 64) (ht : t ≤ 64) : x &&& (2 ^ 64 - 2 ^ t) = x - x % 2 ^ t := by
  have hp : 0 < 2 ^ t := Nat.pow_pos (by decide)
  have e : x - x % 2 ^ t = (x >>> t) <<< t := by
    rw [Nat.shiftRight_eq_div_pow, Nat.shiftLeft_eq]
    have := Nat.div_add_mod x (2 ^ t)
    rw [Nat.mul_comm] at this
    omega
  have e2 : 2 ^ 64 - 2 ^ t = 2 ^ 64 - ((2 ^ t - 1) + 1) := by omega
  rw [e, e2]
  apply Nat.eq_of_testBit_eq
  intro i
  have hlt : 2 ^ t - 1 < 2 ^ 64 := by
    have := Nat.pow_le_pow_right (show 0 < 2 by decide) ht
    omega
  rw [Nat.testBit_and, Nat.testBit_two_pow_sub_succ hlt i, Nat.testBit_shiftLeft, Nat.testBit_shiftRight, Nat.testBit_two_pow_sub_one]
  by_cases h2 : i < t
  · simp [h2]; omega
  · have h5 : t + (i - t) = i := by omega
    by_cases h6 : i < 64
    · simp [h2, h6, h5]; omega
    · have h7 : x.testBit i = false := Nat.testBit_lt_two_pow (Nat.lt_of_lt_of_le hx (Nat.pow_le_pow_right (by decide) (by omega)))
      simp [h6, h5, h7]
theorem pow_nat_int (t : Nat) : ((2 ^ t : Nat) : Int) = (2 : Int) ^ t := by push_cast; rfl
theorem andn_low {x : Int} (h : U64 x) {t : Nat} (ht : t < 64) : bits BinOp.andNot IntKind.u64 x (2 ^ t - 1) = x - x % 2 ^ t := by
  obtain ⟨k, rfl⟩ := Int.eq_ofNat_of_zero_le h.1
  have hk : k < 2 ^ 64 := by have := h.2; omega
  have hp : 0 < 2 ^ t := Nat.pow_pos (by decide)
  have hpt : 2 ^ t < 2 ^ 64 := Nat.pow_lt_pow_right (by decide) ht
  have e1 : (2 : Int) ^ t - 1 = ((2 ^ t - 1 : Nat) : Int) := by
    rw [← pow_nat_int]; omega
  have h1 : (BitVec.ofInt 64 ((2 ^ t - 1 : Nat) : Int)).toNat = 2 ^ t - 1 := by
    rw [BitVec.toNat_ofInt]; omega
  have h2 : (~~~ (BitVec.ofInt 64 ((2 ^ t - 1 : Nat) : Int))).toNat = 2 ^ 64 - 2 ^ t := by
    rw [BitVec.toNat_not, h1]; omega
  have h3 : (BitVec.ofInt 64 (k : Int)).toNat = k := by rw [BitVec.toNat_ofInt]; omega
  have key : (BitVec.ofInt 64 (k : Int) &&& ~~~ (BitVec.ofInt 64 ((2 ^ t - 1 : Nat) : Int))).toNat = k - k % 2 ^ t := by
    rw [BitVec.toNat_and, h2, h3]
    exact and_maskn k t hk (by omega)
  rw [e1]
  show IntKind.u64.wrap ((BitVec.ofInt 64 (k : Int) &&& ~~~ (BitVec.ofInt 64 ((2 ^ t - 1 : Nat) : Int))).toNat : Nat) = _
  rw [key, wrap_u64]
  have h4 : ((k : Int) % 2 ^ t) = ((k % 2 ^ t : Nat) : Int) := by push_cast; rfl
  rw [h4]
  have := Nat.mod_le k (2 ^ t)
  omega
theorem and_two_pow_nat (k t : Nat) : k &&& 2 ^ t = k / 2 ^ t % 2 * 2 ^ t := by
  have e : k / 2 ^ t % 2 * 2 ^ t = ((k >>> t) % 2 ^ 1) <<< t := by
    rw [Nat.shiftRight_eq_div_pow, Nat.shiftLeft_eq, Nat.pow_one]
  rw [e]
  apply Nat.eq_of_testBit_eq
  intro i
  rw [Nat.testBit_and, Nat.testBit_shiftLeft, Nat.testBit_mod_two_pow, Nat.testBit_shiftRight, Nat.testBit_two_pow]
  by_cases h : t = i
  · subst h; simp
  · by_cases h2 : t ≤ i
    · have : ¬ (i - t < 1) := by omega
      simp [h, this]
    · simp [h, h2]
theorem and_pow_u {x : Int} (h : U64 x) {t : Nat} (ht : t < 64) : bits BinOp.and IntKind.u64 x (2 ^ t) = x / 2 ^ t % 2 * 2 ^ t := by
  obtain ⟨k, rfl⟩ := Int.eq_ofNat_of_zero_le h.1
  have hk : k < 2 ^ 64 := by have := h.2; omega
  have hp : 0 < 2 ^ t := Nat.pow_pos (by decide)
  have hpt : 2 ^ t < 2 ^ 64 := Nat.pow_lt_pow_right (by decide) ht
  have h1 : (BitVec.ofInt 64 ((2 ^ t : Nat) : Int)).toNat = 2 ^ t := by rw [BitVec.toNat_ofInt]; omega
  have h3 : (BitVec.ofInt 64 (k : Int)).toNat = k := by rw [BitVec.toNat_ofInt]; omega
  have key : (BitVec.ofInt 64 (k : Int) &&& BitVec.ofInt 64 ((2 ^ t : Nat) : Int)).toNat = k / 2 ^ t % 2 * 2 ^ t := by
    rw [BitVec.toNat_and, h1, h3, and_two_pow_nat]
  rw [← pow_nat_int]
  show IntKind.u64.wrap ((BitVec.ofInt 64 (k : Int) &&& BitVec.ofInt 64 ((2 ^ t : Nat) : Int)).toNat : Nat) = _
  rw [key, wrap_u64]
  have hb : k / 2 ^ t % 2 * 2 ^ t ≤ k := by
    rcases Nat.mod_two_eq_zero_or_one (k / 2 ^ t) with e | e
    · rw [e]; omega
    · rw [e]
      have := Nat.div_mul_le_self k (2 ^ t)
      have h5 : 1 ≤ k / 2 ^ t := by
        rcases Nat.eq_zero_or_pos (k / 2 ^ t) with h | h
        · rw [h] at e; cases e
        · exact h
      have := Nat.mul_le_mul_right (2 ^ t) h5
      omega
  have : ((k : Int) / ((2 ^ t : Nat) : Int) % 2 * ((2 ^ t : Nat) : Int)) = ((k / 2 ^ t % 2 * 2 ^ t : Nat) : Int) := by push_cast; rfl
  rw [this]
  omega
theorem and_pow_ne {x : Int} (h : U64 x) {t : Nat} (ht : t < 64) : (bits BinOp.and IntKind.u64 x (2 ^ t) != 0) = (x / 2 ^ t % 2 == 1) := by
  rw [and_pow_u h ht]
  have hp : (0 : Int) < 2 ^ t := Int.pow_pos (by decide)
  rcases Int.emod_two_eq (x / 2 ^ t) with e | e
  · rw [e]; simp
  · rw [e, Int.one_mul]
    have : (2 : Int) ^ t ≠ 0 := by omega
    simp [this]
theorem or_top {x : Int} (h0 : 0 ≤ x) (h1 : x < 9223372036854775808) : bits BinOp.or IntKind.u64 x 9223372036854775808 = x + 9223372036854775808 := by
  obtain ⟨k, rfl⟩ := Int.eq_ofNat_of_zero_le h0
  have := or_nat k 1 1 (by omega) (by decide) (by decide)
  have e : ((1 * 2 ^ (64 - 1) : Nat) : Int) = 9223372036854775808 := by decide
  rw [e] at this
  rw [this]
  omega
theorem shl_one {t : Nat} (ht : t < 64) : IntKind.u64.wrap (2 ^ t) = 2 ^ t := by
  rw [wrap_u64]
  have h1 : (0 : Int) < 2 ^ t := Int.pow_pos (by decide)
  have h2 := pow_le_63 ht
  omega
end Go.Proofs.YtmgfajamanakcaaGreatDoor
namespace Go.Proofs.YtmgfajamanakcaaGreatDoor
set_option linter.unusedVariables false
theorem val_upd0 {Z : Nat → Int} {n t : Nat} (hZ : WF Z n) (hn : 0 < n) (ht : t < 64) : val (upd Z 0 (Z 0 - Z 0 % 2 ^ t)) n = val Z n / 2 ^ t * 2 ^ t := by
  have h1 := val_split Z hn
  have h2 := val_split (upd Z 0 (Z 0 - Z 0 % 2 ^ t)) hn
  rw [val_congr (X := fun i => upd Z 0 (Z 0 - Z 0 % 2 ^ t) (0 + 1 + i)) (Y := fun i => Z (0 + 1 + i)) (fun i hi => upd_other _ _ (by omega)), upd_same] at h2
  have h3 := val_mod_bits (i := t) hZ (by omega)
  rw [show t / 64 = 0 by omega, show t % 64 = t by omega] at h3
  simp only [val, Int.pow_zero, Int.one_mul, Int.zero_add] at h1 h2 h3
  have h4 := low_cut (M := val Z n) (k := t)
  rw [h2, ← h4, h3, h1]
  omega
theorem wf_upd0 {Z : Nat → Int} {n t : Nat} (hZ : WF Z n) (hn : 0 < n) : WF (upd Z 0 (Z 0 - Z 0 % 2 ^ t)) n := by
  intro i hi
  by_cases e : i = 0
  · subst e
    rw [upd_same]
    have h := hZ 0 hi
    have hp : (0 : Int) < 2 ^ t := Int.pow_pos (by decide)
    have h1 := Int.emod_nonneg (Z 0) (show (2 : Int) ^ t ≠ 0 by omega)
    have h2 := Int.emod_add_mul_ediv (Z 0) (2 ^ t)
    have h3 := Int.mul_nonneg (Int.le_of_lt hp) (Int.ediv_nonneg h.1 (Int.le_of_lt hp))
    unfold U64 at *
    omega
  · rw [upd_other _ _ e]; exact hZ i hi
theorem top_ge {Y : Nat → Int} {n : Nat} (hY : WF Y n) (hn : 0 < n) (h : 2 ^ (64 * n - 1) ≤ val Y n) : 9223372036854775808 ≤ Y (n - 1) := by
  obtain ⟨k, rfl⟩ : ∃ k, n = k + 1 := ⟨n - 1, by omega⟩
  have h1 : val Y (k + 1) = val Y k + BB ^ k * Y k := by rw [val_add, val_one]; rfl
  have h2 := val_lt (hY.le (show k ≤ k + 1 by omega))
  have e : (2 : Int) ^ (64 * (k + 1) - 1) = BB ^ k * 9223372036854775808 := by
    rw [BB_pow, show (9223372036854775808 : Int) = 2 ^ 63 by decide, ← Int.pow_add]; congr 1
  rw [e, h1] at h
  rw [Nat.add_sub_cancel]
  by_cases hh : 9223372036854775808 ≤ Y k
  · exact hh
  · exfalso
    have := Int.mul_le_mul_of_nonneg_left (show Y k + 1 ≤ 9223372036854775808 by omega) (Int.le_of_lt (BBn_pos k))
    rw [Int.mul_add] at this
    omega
theorem val_ge_top {X : Nat → Int} {n : Nat} (hX : WF X n) (hn : 0 < n) (h : 9223372036854775808 ≤ X (n - 1)) : 2 ^ (64 * n - 1) ≤ val X n ∧ val X n < 2 ^ (64 * n) := by
  constructor
  · obtain ⟨k, rfl⟩ : ∃ k, n = k + 1 := ⟨n - 1, by omega⟩
    have h1 : val X (k + 1) = val X k + BB ^ k * X k := by rw [val_add, val_one]; rfl
    have h2 := val_nonneg (hX.le (show k ≤ k + 1 by omega))
    have e : (2 : Int) ^ (64 * (k + 1) - 1) = BB ^ k * 9223372036854775808 := by
      rw [BB_pow, show (9223372036854775808 : Int) = 2 ^ 63 by decide, ← Int.pow_add]; congr 1
    rw [Nat.add_sub_cancel] at h
    have := Int.mul_le_mul_of_nonneg_left h (Int.le_of_lt (BBn_pos k))
    rw [e, h1]; omega
  · have := val_lt hX
    rw [BB_pow] at this; exact this
/-- Behind the carry: halved, the top bit set. -/
theorem top_set {Z Z2 : Nat → Int} {n t : Nat} (hZ : WF Z n) (hZ2 : WF Z2 n) (hn : 1 ≤ n) (ht : t < 64) (h2 : val Z2 n = val Z n / 2) (h0 : val Z n / 2 ^ t = 0) :
    0 ≤ Z2 (n - 1) ∧ Z2 (n - 1) < 9223372036854775808 ∧ WF (upd Z2 (n - 1) (Z2 (n - 1) + 9223372036854775808)) n ∧ val (upd Z2 (n - 1) (Z2 (n - 1) + 9223372036854775808)) n / 2 ^ t * 2 ^ t = 2 ^ (64 * n - 1) := by
  obtain ⟨k, rfl⟩ : ∃ k, n = k + 1 := ⟨n - 1, by omega⟩
  rw [Nat.add_sub_cancel]
  have hp : (0 : Int) < 2 ^ t := Int.pow_pos (by decide)
  have a0 := val_nonneg hZ
  have a1 := val_lt hZ
  have b0 := val_nonneg (hZ2.le (show k ≤ k + 1 by omega))
  have e2 : val Z2 (k + 1) = val Z2 k + BB ^ k * Z2 k := by rw [val_add, val_one]; rfl
  have z0 := (hZ2 k (by omega)).1
  have hB := BBn_pos k
  have hlt : val Z (k + 1) < 2 ^ t := by
    have := Int.emod_add_mul_ediv (val Z (k + 1)) (2 ^ t)
    rw [h0, Int.mul_zero, Int.add_zero] at this
    have h3 := Int.emod_lt_of_pos (val Z (k + 1)) hp
    omega
  have htop : Z2 k < 9223372036854775808 := by
    by_cases hh : Z2 k < 9223372036854775808
    · exact hh
    · exfalso
      have h3 := Int.mul_le_mul_of_nonneg_left (show 9223372036854775808 ≤ Z2 k by omega) (Int.le_of_lt hB)
      have eB : BB ^ (k + 1) = BB ^ k * 9223372036854775808 * 2 := by
        rw [BB_succ, Int.mul_assoc]; rfl
      rw [eB] at a1
      omega
  have e3 : val (upd Z2 k (Z2 k + 9223372036854775808)) (k + 1) = val Z2 (k + 1) + 2 ^ (64 * (k + 1) - 1) := by
    have e4 : (2 : Int) ^ (64 * (k + 1) - 1) = BB ^ k * 9223372036854775808 := by
      rw [BB_pow, show (9223372036854775808 : Int) = 2 ^ 63 by decide, ← Int.pow_add]; congr 1
    have e5 : val (upd Z2 k (Z2 k + 9223372036854775808)) (k + 1) = val (upd Z2 k (Z2 k + 9223372036854775808)) k + BB ^ k * upd Z2 k (Z2 k + 9223372036854775808) k := by rw [val_add, val_one]; rfl
    rw [e5, upd_same, val_upd, e4, e2, Int.mul_add]
    omega
  refine ⟨z0, htop, ?_, ?_⟩
  · intro i hi
    by_cases e : i = k
    · subst e; rw [upd_same]; unfold U64; omega
    · rw [upd_other _ _ e]; exact hZ2 i hi
  · rw [e3]
    have hs : (2 : Int) ^ (64 * (k + 1) - 1) = 2 ^ t * 2 ^ (64 * (k + 1) - 1 - t) := by rw [← Int.pow_add]; congr 1; omega
    have hz : val Z2 (k + 1) / 2 ^ t = 0 := Int.ediv_eq_zero_of_lt (by rw [h2]; exact Int.ediv_nonneg a0 (by decide)) (by rw [h2]; omega)
    rw [hs, Int.add_mul_ediv_left _ _ (by omega), hz, Int.zero_add, Int.mul_comm]
/-- The two bits as the program has them: rb behind the digits, s whether one is set below (or the remainder's). -/
structure Two (M : Int) (r : Nat) (sb : Bool) (md rb s : Int) : Prop where
  hb : rb = M / 2 ^ r % 2
  s01 : s = 0 ∨ s = 1
  st : rb = 0 ∨ md = 0 → (s = 0 ↔ M % 2 ^ r = 0 ∧ sb = false)
theorem Two.rb01 {M : Int} {r : Nat} {sb : Bool} {md rb s : Int} (h : Two M r sb md rb s) : rb = 0 ∨ rb = 1 := by rw [h.hb]; exact Int.emod_two_eq _
theorem Two.left {M : Int} {L p r : Nat} {sb : Bool} {md rb s : Int} (h : Two M r sb md rb s) (hM : 0 ≤ M) (hr : L - p = r + 1) : rl M L p sb = (if rb = 0 then 0 else 2) + (if M % 2 ^ r = 0 ∧ sb = false then 0 else 1) := by
  unfold rl
  rw [hr, Nat.add_sub_cancel, lftS_bits hM, ← h.hb]
theorem Two.none {M : Int} {L p r : Nat} {sb : Bool} {md rb s : Int} (h : Two M r sb md rb s) (hM : 0 ≤ M) (hr : L - p = r + 1) : (rb = 0 ∧ s = 0) ↔ rl M L p sb = 0 := by
  rw [h.left hM hr]
  constructor
  · rintro ⟨h1, h2⟩
    rw [if_pos h1, if_pos ((h.st (Or.inl h1)).1 h2)]; rfl
  · intro hh
    by_cases h1 : rb = 0
    · rw [if_pos h1] at hh
      refine ⟨h1, (h.st (Or.inl h1)).2 ?_⟩
      by_cases h2 : M % 2 ^ r = 0 ∧ sb = false
      · exact h2
      · rw [if_neg h2] at hh; omega
    · rw [if_neg h1] at hh
      split at hh <;> omega
theorem incS_zero (neg odd : Bool) (md : Int) : incS neg odd 0 md = false := by
  unfold incS
  split
  · rfl
  · split
    · rfl
    · split
      · rfl
      · split
        · rfl
        · split
          · rfl
          · rfl
theorem Two.exact {neg : Bool} {M : Int} {L p r : Nat} {sb : Bool} {md rb s : Int} (h : Two M r sb md rb s) (hM : 0 ≤ M) (hr : L - p = r + 1) (h0 : rb = 0 ∧ s = 0) : rm neg M L p md sb = rq M L p ∧ racc neg M L p md sb = 0 ∧ rinc neg M L p md sb = false := by
  have hl := (h.none hM hr).1 h0
  have hi : rinc neg M L p md sb = false := by unfold rinc; rw [hl]; exact incS_zero _ _ _
  refine ⟨?_, ?_, hi⟩
  · unfold rm; rw [hi]; simp
  · unfold racc; rw [hl]; unfold accS; simp
/-- What the program's switch says. -/
def incP (neg odd : Bool) (md rb s : Int) : Bool :=
  if md = 4 then neg else if md = 2 then false else if md = 0 then rb != 0 && (s != 0 || odd) else if md = 1 then rb != 0 else if md = 3 then true else !neg
theorem Two.inc {neg : Bool} {M : Int} {L p r : Nat} {sb : Bool} {md rb s : Int} (h : Two M r sb md rb s) (hM : 0 ≤ M) (hr : L - p = r + 1) (h0 : ¬ (rb = 0 ∧ s = 0)) (hmd : 0 ≤ md ∧ md ≤ 5) :
    incP neg (rq M L p % 2 == 1) md rb s = rinc neg M L p md sb ∧ racc neg M L p md sb = (if (rinc neg M L p md sb != neg) = true then 1 else -1) := by
  have hl0 : rl M L p sb ≠ 0 := fun e => h0 ((h.none hM hr).2 e)
  have hl := h.left (L := L) (p := p) hM hr
  refine ⟨?_, ?_⟩
  · unfold rinc
    obtain ⟨l, hle⟩ : ∃ l, rl M L p sb = l := ⟨_, rfl⟩
    rw [hle] at hl hl0 ⊢
    obtain ⟨odd, hodd⟩ : ∃ o, (rq M L p % 2 == 1) = o := ⟨_, rfl⟩
    rw [hodd]
    have hlb : 0 ≤ l ∧ l ≤ 3 := by rw [hl]; split <;> split <;> omega
    unfold incP incS
    by_cases m4 : md = 4
    · subst m4
      have : 0 < l := by omega
      simp [this]
    · by_cases m2 : md = 2
      · subst m2; simp
      · by_cases m0 : md = 0
        · subst m0
          have hst := h.st (Or.inr rfl)
          rw [if_neg (by decide), if_neg (by decide), if_pos rfl, if_pos rfl, hl]
          rcases h.rb01 with e | e
          · rw [e]
            by_cases h2 : M % 2 ^ r = 0 ∧ sb = false
            · rw [if_pos h2]; simp
            · rw [if_neg h2]; simp
          · rw [e]
            by_cases h2 : M % 2 ^ r = 0 ∧ sb = false
            · rw [if_pos h2, hst.2 h2]; simp
            · have hs : s = 1 := by
                rcases h.s01 with g | g
                · exact absurd (hst.1 g) h2
                · exact g
              rw [if_neg h2, hs]; simp
        · by_cases m1 : md = 1
          · subst m1
            rw [if_neg (by decide), if_neg (by decide), if_neg (by decide), if_pos rfl, if_neg (by decide), if_pos rfl, hl]
            rcases h.rb01 with e | e
            · rw [e, if_pos rfl]; split <;> simp
            · rw [e, if_neg (by decide)]; split <;> simp
          · by_cases m3 : md = 3
            · subst m3
              have : 0 < l := by omega
              simp [this]
            · have m5 : md = 5 := by omega
              subst m5
              have : 0 < l := by omega
              simp [this]
  · unfold racc accS
    rw [if_neg hl0]
theorem or01 {rb s : Int} (h1 : rb = 0 ∨ rb = 1) (h2 : s = 0 ∨ s = 1) : (bits BinOp.or IntKind.u64 rb s != 0) = !decide (rb = 0 ∧ s = 0) := by
  rcases h1 with e | e <;> rcases h2 with g | g <;> subst e <;> subst g <;> decide
end Go.Proofs.YtmgfajamanakcaaGreatDoor
