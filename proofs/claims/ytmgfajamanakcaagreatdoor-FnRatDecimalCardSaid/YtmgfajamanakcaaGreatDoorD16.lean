/- Part of the proof of FnParse: what the functions that it reaches do, as contracts. Conditions: those that each theorem names. -/
import Derived.Test.YtmgfajamanakcaaGreatDoorD13
import Derived.Test.YtmgfajamanakcaaGreatDoorD15
import Derived.Deep.LoopGhost
import Derived.Outline
import Derived.Test.YtmgfajamanakcaaGreatDoorD03
namespace Go.Proofs.YtmgfajamanakcaaGreatDoor
set_option linter.unusedVariables false
set_option linter.unusedSimpArgs false
structure LInvD (U0 V : Nat → Int) (n m j : Nat) (S : Int) (U : Nat → Int) : Prop where
  wf : WF U (m + n + 1)
  hi : ∀ i, i < m + n + 1 → j + n ≤ i → U i = 0
  sum : val U0 (m + n + 1) = S * val V n + val U (m + n + 1)
  lt : val (fun i => U (j + i)) n < val V n
theorem LInvD.start {U V : Nat → Int} {n m : Nat} (hU : WF U (m + n)) (h0 : U (m + n) = 0) (hn : 0 < n) (hV : WF V n) (htop : U (m + n - 1) < V (n - 1)) : LInvD U V n m (m + 1) 0 U := by
  have hw : WF U (m + n + 1) := fun i hi => by
    by_cases e : i = m + n
    · rw [e, h0]; exact ⟨by decide, by decide⟩
    · exact hU i (by omega)
  refine ⟨hw, fun i h1 h2 => by omega, by omega, ?_⟩
  obtain ⟨k, rfl⟩ : ∃ k, n = k + 1 := ⟨n - 1, by omega⟩
  have e1 : val (fun i => U (m + 1 + i)) (k + 1) = val (fun i => U (m + 1 + i)) k := val_top (by omega) (fun i h1 h2 => by
    obtain rfl : i = k := by omega
    rw [← h0]; congr 1; omega)
  rw [e1]
  have e2 : val V (k + 1) = val V k + BB ^ k * V k := by
    rw [val_add, val_one]; rfl
  have a1 := val_nonneg (hV.le (show k ≤ k + 1 by omega))
  have a2 : val (fun i => U (m + 1 + i)) k < BB ^ k := val_lt (fun i hi => hw _ (by omega))
  have a3 : 1 ≤ V k := by
    have := (hU (m + (k + 1) - 1) (by omega)).1
    simp only [Nat.add_sub_cancel] at htop
    omega
  have a4 := Int.mul_le_mul_of_nonneg_left a3 (Int.le_of_lt (BBn_pos k))
  omega
theorem val_cut (U : Nat → Int) (j n m : Nat) (hj : j ≤ m) (hz : ∀ i, i < m + n + 1 → j + n + 1 ≤ i → U i = 0) : val U (m + n + 1) = val U j + BB ^ j * val (fun i => U (j + i)) (n + 1) := by
  have h := val_top (X := U) (show j + (n + 1) ≤ m + n + 1 by omega) (fun i h1 h2 => hz i h2 (by omega))
  rw [h, val_add]
theorem LInvD.window {U0 V U : Nat → Int} {n m j : Nat} {S : Int} (h : LInvD U0 V n m (j + 1) S U) (hj : j ≤ m) : val (fun i => U (j + i)) (n + 1) < val V n * BB := by
  have e : val (fun i => U (j + i)) (n + 1) = U j + BB * val (fun i => U (j + 1 + i)) n := by
    rw [Nat.add_comm n 1, val_add, val_one]
    simp only [Nat.add_zero, Int.pow_succ, Int.pow_zero]
    rw [val_congr (X := fun i => U (j + (1 + i))) (Y := fun i => U (j + 1 + i)) (fun i hi => by rw [Nat.add_assoc])]
    grind
  have h1 := (h.wf j (by omega)).2
  have h2 := h.lt
  have h3 := Int.mul_le_mul_of_nonneg_right (show val (fun i => U (j + 1 + i)) n + 1 ≤ val V n by omega) (show (0:Int) ≤ BB by decide)
  rw [e, Int.mul_comm BB]
  rw [Int.add_mul] at h3
  unfold BB at *
  omega
theorem LInvD.step {U0 V U U' : Nat → Int} {n m j : Nat} {S : Int} (h : LInvD U0 V n m (j + 1) S U) (hj : j ≤ m) (hVp : 0 < val V n) (hoff : ∀ i, i < m + n + 1 → i < j ∨ j + n < i → U' i = U i)
    (hw : WF (fun i => U' (j + i)) n) (ht : U' (j + n) = 0) (hR : val (fun i => U' (j + i)) n = val (fun i => U (j + i)) (n + 1) % val V n) :
    LInvD U0 V n m j (S + val (fun i => U (j + i)) (n + 1) / val V n * BB ^ j) U' := by
  have hhi : ∀ i, i < m + n + 1 → j + n ≤ i → U' i = 0 := fun i h1 h2 => by
    by_cases e : i = j + n
    · rw [e, ht]
    · rw [hoff i h1 (Or.inr (by omega))]; exact h.hi i h1 (by omega)
  refine ⟨fun i hi => ?_, hhi, ?_, ?_⟩
  · by_cases h1 : i < j ∨ j + n < i
    · rw [hoff i hi h1]; exact h.wf i hi
    · by_cases e : i = j + n
      · rw [e, ht]; exact ⟨by decide, by decide⟩
      · have := hw (i - j) (by omega)
        simpa [show j + (i - j) = i by omega] using this
  · have e1 := val_cut U j n m hj (fun i h1 h2 => h.hi i h1 (by omega))
    have e2 := val_cut U' j n m hj (fun i h1 h2 => hhi i h1 (by omega))
    have e3 : val U' j = val U j := val_congr (fun i hi => hoff i (by omega) (Or.inl hi))
    have e4 : val (fun i => U' (j + i)) (n + 1) = val (fun i => U' (j + i)) n := val_top (by omega) (fun i h1 h2 => by
      obtain rfl : i = n := by omega
      exact ht)
    have e5 := Int.emod_add_mul_ediv (val (fun i => U (j + i)) (n + 1)) (val V n)
    rw [e4, hR, e3] at e2
    rw [h.sum, e1, e2]
    generalize val (fun i => U (j + i)) (n + 1) / val V n = q at *
    generalize val (fun i => U (j + i)) (n + 1) % val V n = r at *
    rw [← e5]
    grind
  · rw [hR]; exact Int.emod_lt_of_pos _ hVp
theorem LInvD.done {U0 V U : Nat → Int} {n m : Nat} {S : Int} (h : LInvD U0 V n m 0 S U) (hV : 0 < val V n) (hn : 0 < n) : S = val U0 (m + n + 1) / val V n ∧ val U (m + n + 1) = val U0 (m + n + 1) % val V n ∧ ∀ i, i < m + n + 1 → n ≤ i → U i = 0 := by
  have e1 := val_top (X := U) (show n ≤ m + n + 1 by omega) (fun i h1 h2 => h.hi i h2 (by omega))
  have h2 := h.lt
  simp only [Nat.zero_add] at h2
  have h3 : 0 ≤ val U n := val_nonneg (h.wf.le (by omega))
  have h4 := h.sum
  rw [e1] at h4 ⊢
  have e : val U0 (m + n + 1) = val U n + val V n * S := by rw [h4, Int.mul_comm]; omega
  refine ⟨?_, ?_, fun i h1 h2 => h.hi i h1 (by omega)⟩
  · rw [e, Int.add_mul_ediv_left _ _ (by omega), Int.ediv_eq_zero_of_lt h3 h2]; omega
  · rw [e, Int.add_mul_emod_self_left, Int.emod_eq_of_lt h3 h2]
theorem LInvD.first {U0 V U : Nat → Int} {n m : Nat} {S : Int} (h : LInvD U0 V n m (m + 1) S U) (hn : 0 < n) (hV : WF V n) (htop : U (m + n - 1) < V (n - 1)) (h0 : U (m + n) = 0) : val (fun i => U (m + i)) (n + 1) < val V n := by
  have e1 : val (fun i => U (m + i)) (n + 1) = val (fun i => U (m + i)) n := val_top (by omega) (fun i h1 h2 => by
    obtain rfl : i = n := by omega
    exact h0)
  obtain ⟨k, rfl⟩ : ∃ k, n = k + 1 := ⟨n - 1, by omega⟩
  have e2 : val V (k + 1) = val V k + BB ^ k * V k := by rw [val_add, val_one]; rfl
  have e3 : val (fun i => U (m + i)) (k + 1) = val (fun i => U (m + i)) k + BB ^ k * U (m + k) := by rw [val_add, val_one]; rfl
  have a1 := val_nonneg (hV.le (show k ≤ k + 1 by omega))
  have a2 : val (fun i => U (m + i)) k < BB ^ k := val_lt (fun i hi => h.wf _ (by omega))
  simp only [Nat.add_sub_cancel, show m + (k + 1) - 1 = m + k by omega] at htop
  have a4 := Int.mul_le_mul_of_nonneg_left (show U (m + k) + 1 ≤ V k by omega) (Int.le_of_lt (BBn_pos k))
  rw [Int.mul_add] at a4
  rw [e1, e2, e3]
  omega
structure GInv {P v1 v2 v0 u3 u2 u1 u0 : Int} (g : Guess P v1 v2 v0 u3 u2 u1 u0) (q r : Int) : Prop where
  q0 : 0 ≤ q
  r0 : 0 ≤ r
  eq : q * v1 + r = u3 * BB + u2
  ge : gU P u3 u2 u1 u0 / gV P v1 v2 v0 ≤ q
variable {P v1 v2 v0 u3 u2 u1 u0 : Int}
theorem GInv.down {g : Guess P v1 v2 v0 u3 u2 u1 u0} {q r : Int} (h : GInv g q r) (hl : r * BB + u1 < q * v2) : GInv g (q - 1) (r + v1) := by
  have h1 := g.down h.q0 h.eq hl
  have h2 := g.q_nonneg
  have h3 := g.hv1
  refine ⟨by omega, by have := h.r0; unfold BB at *; omega, ?_, h1⟩
  have := h.eq
  rw [Int.sub_mul]; omega
theorem GInv.near {g : Guess P v1 v2 v0 u3 u2 u1 u0} {q r : Int} (h : GInv g q r) (hq : q < BB) (hl : q * v2 ≤ r * BB + u1) : q = gU P u3 u2 u1 u0 / gV P v1 v2 v0 ∨ q = gU P u3 u2 u1 u0 / gV P v1 v2 v0 + 1 := by
  have h1 := g.near h.q0 hq (by
    have e : q * (v1 * BB + v2) = q * v1 * BB + q * v2 := by grind
    have := h.eq
    rw [e, ← h.eq, Int.add_mul]; omega)
  have := h.ge
  omega
theorem GInv.near_over {g : Guess P v1 v2 v0 u3 u2 u1 u0} {q r : Int} (h : GInv g q r) (hq : q < BB) (hr : BB ≤ r) : q = gU P u3 u2 u1 u0 / gV P v1 v2 v0 ∨ q = gU P u3 u2 u1 u0 / gV P v1 v2 v0 + 1 := by
  refine h.near hq ?_
  have h1 := Int.mul_le_mul (show q ≤ BB by omega) (show v2 ≤ BB by have := g.hv2'; omega) g.hv2 (show (0:Int) ≤ BB by decide)
  have h2 := Int.mul_le_mul_of_nonneg_right hr (show (0:Int) ≤ BB by decide)
  have := g.hu1
  omega
theorem scale_div {a b s : Int} (hs : 0 < s) : a * s / (b * s) = a / b := Int.mul_ediv_mul_of_pos_left a b hs
theorem scale_mod {a b s : Int} (hs : 0 < s) : a * s % (b * s) = a % b * s := by
  have h1 := Int.emod_add_mul_ediv (a * s) (b * s)
  have h2 := Int.emod_add_mul_ediv a b
  rw [scale_div hs] at h1
  have h3 : a * s = a % b * s + b * s * (a / b) := by
    generalize a / b = q at *
    generalize a % b = r at *
    rw [← h2]
    grind
  omega
theorem sum_step {Q : Nat → Int} {j m : Nat} (hj : j < m) : val (fun i => Q (j + i)) (m - j) * BB ^ j = val (fun i => Q (j + 1 + i)) (m - (j + 1)) * BB ^ (j + 1) + Q j * BB ^ j := by
  obtain ⟨k, hk⟩ : ∃ k, m - j = k + 1 := ⟨m - j - 1, by omega⟩
  rw [hk, show m - (j + 1) = k by omega, Nat.add_comm k 1, val_add, val_one]
  simp only [Nat.add_zero, Int.pow_succ, Int.pow_zero]
  rw [val_congr (X := fun i => Q (j + (1 + i))) (Y := fun i => Q (j + 1 + i)) (fun i hi => by rw [Nat.add_assoc])]
  grind
end Go.Proofs.YtmgfajamanakcaaGreatDoor
namespace Go.Proofs.YtmgfajamanakcaaGreatDoor
set_option linter.unusedVariables false
set_option linter.unusedSimpArgs false
open Go.RowKit
set_option maxRecDepth 100000
end Go.Proofs.YtmgfajamanakcaaGreatDoor
namespace Go.Proofs.YtmgfajamanakcaaGreatDoor
set_option linter.unusedVariables false
set_option linter.unusedSimpArgs false
theorem carry_small {X Z : Nat → Int} {n s : Nat} {c : Int} (hX : WF X n) (hZ : WF Z n) (h : val Z n + c * BB ^ n = val X n * 2 ^ s) : c < 2 ^ s := by
  have a1 := val_lt hX
  have a2 := val_nonneg hZ
  have h2 : (0 : Int) < 2 ^ s := Int.pow_pos (by decide)
  have h3 := Int.mul_lt_mul_of_pos_right a1 h2
  by_cases hc : c < 2 ^ s
  · exact hc
  · exfalso
    have h4 := Int.mul_le_mul_of_nonneg_right (show (2 : Int) ^ s ≤ c by omega) (Int.le_of_lt (BBn_pos n))
    rw [Int.mul_comm ((2 : Int) ^ s)] at h4
    omega
theorem val_carry {X Z U : Nat → Int} {n s : Nat} {c : Int} (h : val Z n + c * BB ^ n = val X n * 2 ^ s) (hU : ∀ i, i < n → U i = Z i) (hc : U n = c) : val U (n + 1) = val X n * 2 ^ s := by
  rw [val_add, val_one, val_congr hU]
  simp only [Nat.add_zero]
  rw [hc, ← h, Int.mul_comm]
theorem pow_le_63 {s : Nat} (hs : s < 64) : (2 : Int) ^ s ≤ 9223372036854775808 := by
  have h : (2 : Int) ^ s * 2 ^ (63 - s) = 9223372036854775808 := by
    rw [← Int.pow_add, show s + (63 - s) = 63 by omega]; decide
  have h1 : (0 : Int) < 2 ^ (63 - s) := Int.pow_pos (by decide)
  have h2 : (0 : Int) < 2 ^ s := Int.pow_pos (by decide)
  have := Int.mul_le_mul_of_nonneg_left (show (1 : Int) ≤ 2 ^ (63 - s) by omega) (Int.le_of_lt h2)
  omega
end Go.Proofs.YtmgfajamanakcaaGreatDoor
namespace Go.Proofs.YtmgfajamanakcaaGreatDoor
set_option linter.unusedVariables false
set_option linter.unusedSimpArgs false
open Go.RowKit
theorem pow_nat_int (t : Nat) : ((2 ^ t : Nat) : Int) = (2 : Int) ^ t := by push_cast; rfl
theorem and_two_pow_nat (k t : Nat) : k &&& 2 ^ t = k / 2 ^ t % 2 * 2 ^ t := by
  have e : k / 2 ^ t % 2 * 2 ^ t = ((k >>> t) % 2 ^ 1) <<< t := by
    rw [Nat.shiftRight_eq_div_pow, Nat.shiftLeft_eq, Nat.pow_one]
  rw [e]
  apply Nat.eq_of_testBit_eq
  intro i
  rw [Nat.testBit_and, Nat.testBit_shiftLeft, Nat.testBit_mod_two_pow, Nat.testBit_shiftRight, Nat.testBit_two_pow]
  by_cases h : t = i
  · subst h; simp
  · by_cases h2 : t ≤ i
    · have : ¬ (i - t < 1) := by omega
      simp [h, this]
    · simp [h, h2]
theorem and_pow_u {x : Int} (h : U64 x) {t : Nat} (ht : t < 64) : bits BinOp.and IntKind.u64 x (2 ^ t) = x / 2 ^ t % 2 * 2 ^ t := by
  obtain ⟨k, rfl⟩ := Int.eq_ofNat_of_zero_le h.1
  have hk : k < 2 ^ 64 := by have := h.2; omega
  have hp : 0 < 2 ^ t := Nat.pow_pos (by decide)
  have hpt : 2 ^ t < 2 ^ 64 := Nat.pow_lt_pow_right (by decide) ht
  have h1 : (BitVec.ofInt 64 ((2 ^ t : Nat) : Int)).toNat = 2 ^ t := by rw [BitVec.toNat_ofInt]; omega
  have h3 : (BitVec.ofInt 64 (k : Int)).toNat = k := by rw [BitVec.toNat_ofInt]; omega
  have key : (BitVec.ofInt 64 (k : Int) &&& BitVec.ofInt 64 ((2 ^ t : Nat) : Int)).toNat = k / 2 ^ t % 2 * 2 ^ t := by
    rw [BitVec.toNat_and, h1, h3, and_two_pow_nat]
  rw [← pow_nat_int]
  show IntKind.u64.wrap ((BitVec.ofInt 64 (k : Int) &&& BitVec.ofInt 64 ((2 ^ t : Nat) : Int)).toNat : Nat) = _
  rw [key, wrap_u64]
  have hb : k / 2 ^ t % 2 * 2 ^ t ≤ k := by
    rcases Nat.mod_two_eq_zero_or_one (k / 2 ^ t) with e | e
    · rw [e]; omega
    · rw [e]
      have := Nat.div_mul_le_self k (2 ^ t)
      have h5 : 1 ≤ k / 2 ^ t := by
        rcases Nat.eq_zero_or_pos (k / 2 ^ t) with h | h
        · rw [h] at e; cases e
        · exact h
      have := Nat.mul_le_mul_right (2 ^ t) h5
      omega
  have : ((k : Int) / ((2 ^ t : Nat) : Int) % 2 * ((2 ^ t : Nat) : Int)) = ((k / 2 ^ t % 2 * 2 ^ t : Nat) : Int) := by push_cast; rfl
  rw [this]
  omega
theorem and_pow_ne {x : Int} (h : U64 x) {t : Nat} (ht : t < 64) : (bits BinOp.and IntKind.u64 x (2 ^ t) != 0) = (x / 2 ^ t % 2 == 1) := by
  rw [and_pow_u h ht]
  have hp : (0 : Int) < 2 ^ t := Int.pow_pos (by decide)
  rcases Int.emod_two_eq (x / 2 ^ t) with e | e
  · rw [e]; simp
  · rw [e, Int.one_mul]
    have : (2 : Int) ^ t ≠ 0 := by omega
    simp [this]
end Go.Proofs.YtmgfajamanakcaaGreatDoor
namespace Go.Proofs.YtmgfajamanakcaaGreatDoor
set_option linter.unusedVariables false
set_option linter.unusedSimpArgs false
structure Two (M : Int) (r : Nat) (sb : Bool) (md rb s : Int) : Prop where
  hb : rb = M / 2 ^ r % 2
  s01 : s = 0 ∨ s = 1
  st : rb = 0 ∨ md = 0 → (s = 0 ↔ M % 2 ^ r = 0 ∧ sb = false)
theorem Two.left {M : Int} {L p r : Nat} {sb : Bool} {md rb s : Int} (h : Two M r sb md rb s) (hM : 0 ≤ M) (hr : L - p = r + 1) : rl M L p sb = (if rb = 0 then 0 else 2) + (if M % 2 ^ r = 0 ∧ sb = false then 0 else 1) := by
  unfold rl
  rw [hr, Nat.add_sub_cancel, lftS_bits hM, ← h.hb]
theorem Two.none {M : Int} {L p r : Nat} {sb : Bool} {md rb s : Int} (h : Two M r sb md rb s) (hM : 0 ≤ M) (hr : L - p = r + 1) : (rb = 0 ∧ s = 0) ↔ rl M L p sb = 0 := by
  rw [h.left hM hr]
  constructor
  · rintro ⟨h1, h2⟩
    rw [if_pos h1, if_pos ((h.st (Or.inl h1)).1 h2)]; rfl
  · intro hh
    by_cases h1 : rb = 0
    · rw [if_pos h1] at hh
      refine ⟨h1, (h.st (Or.inl h1)).2 ?_⟩
      by_cases h2 : M % 2 ^ r = 0 ∧ sb = false
      · exact h2
      · rw [if_neg h2] at hh; omega
    · rw [if_neg h1] at hh
      split at hh <;> omega
end Go.Proofs.YtmgfajamanakcaaGreatDoor
