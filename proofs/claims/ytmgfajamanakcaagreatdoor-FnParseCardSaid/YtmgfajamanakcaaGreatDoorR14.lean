/- Part of the proof of FnParse: what the functions that it reaches do, as contracts. Conditions: those that each theorem names. -/
import Derived.Test.YtmgfajamanakcaaGreatDoorR13
import Derived.Test.YtmgfajamanakcaaGreatDoorR01
namespace Go.Proofs.YtmgfajamanakcaaGreatDoor
set_option linter.unusedVariables false
set_option linter.unusedSimpArgs false
theorem val_upd0 {Z : Nat → Int} {n t : Nat} (hZ : WF Z n) (hn : 0 < n) (ht : t < 64) : val (upd Z 0 (Z 0 - Z 0 % 2 ^ t)) n = val Z n / 2 ^ t * 2 ^ t := by
  have h1 := val_split Z hn
  have h2 := val_split (upd Z 0 (Z 0 - Z 0 % 2 ^ t)) hn
  rw [val_congr (X := fun i => upd Z 0 (Z 0 - Z 0 % 2 ^ t) (0 + 1 + i)) (Y := fun i => Z (0 + 1 + i)) (fun i hi => upd_other _ _ (by omega)), upd_same] at h2
  have h3 := val_mod_bits (i := t) hZ (by omega)
  rw [show t / 64 = 0 by omega, show t % 64 = t by omega] at h3
  simp only [val, Int.pow_zero, Int.one_mul, Int.zero_add] at h1 h2 h3
  have h4 := low_cut (M := val Z n) (k := t)
  rw [h2, ← h4, h3, h1]
  omega
theorem wf_upd0 {Z : Nat → Int} {n t : Nat} (hZ : WF Z n) (hn : 0 < n) : WF (upd Z 0 (Z 0 - Z 0 % 2 ^ t)) n := by
  intro i hi
  by_cases e : i = 0
  · subst e
    rw [upd_same]
    have h := hZ 0 hi
    have hp : (0 : Int) < 2 ^ t := Int.pow_pos (by decide)
    have h1 := Int.emod_nonneg (Z 0) (show (2 : Int) ^ t ≠ 0 by omega)
    have h2 := Int.emod_add_mul_ediv (Z 0) (2 ^ t)
    have h3 := Int.mul_nonneg (Int.le_of_lt hp) (Int.ediv_nonneg h.1 (Int.le_of_lt hp))
    unfold U64 at *
    omega
  · rw [upd_other _ _ e]; exact hZ i hi
theorem top_ge {Y : Nat → Int} {n : Nat} (hY : WF Y n) (hn : 0 < n) (h : 2 ^ (64 * n - 1) ≤ val Y n) : 9223372036854775808 ≤ Y (n - 1) := by
  obtain ⟨k, rfl⟩ : ∃ k, n = k + 1 := ⟨n - 1, by omega⟩
  have h1 : val Y (k + 1) = val Y k + BB ^ k * Y k := by rw [val_add, val_one]; rfl
  have h2 := val_lt (hY.le (show k ≤ k + 1 by omega))
  have e : (2 : Int) ^ (64 * (k + 1) - 1) = BB ^ k * 9223372036854775808 := by
    rw [BB_pow, show (9223372036854775808 : Int) = 2 ^ 63 by decide, ← Int.pow_add]; congr 1
  rw [e, h1] at h
  rw [Nat.add_sub_cancel]
  by_cases hh : 9223372036854775808 ≤ Y k
  · exact hh
  · exfalso
    have := Int.mul_le_mul_of_nonneg_left (show Y k + 1 ≤ 9223372036854775808 by omega) (Int.le_of_lt (BBn_pos k))
    rw [Int.mul_add] at this
    omega
theorem val_ge_top {X : Nat → Int} {n : Nat} (hX : WF X n) (hn : 0 < n) (h : 9223372036854775808 ≤ X (n - 1)) : 2 ^ (64 * n - 1) ≤ val X n ∧ val X n < 2 ^ (64 * n) := by
  constructor
  · obtain ⟨k, rfl⟩ : ∃ k, n = k + 1 := ⟨n - 1, by omega⟩
    have h1 : val X (k + 1) = val X k + BB ^ k * X k := by rw [val_add, val_one]; rfl
    have h2 := val_nonneg (hX.le (show k ≤ k + 1 by omega))
    have e : (2 : Int) ^ (64 * (k + 1) - 1) = BB ^ k * 9223372036854775808 := by
      rw [BB_pow, show (9223372036854775808 : Int) = 2 ^ 63 by decide, ← Int.pow_add]; congr 1
    rw [Nat.add_sub_cancel] at h
    have := Int.mul_le_mul_of_nonneg_left h (Int.le_of_lt (BBn_pos k))
    rw [e, h1]; omega
  · have := val_lt hX
    rw [BB_pow] at this; exact this
theorem top_set {Z Z2 : Nat → Int} {n t : Nat} (hZ : WF Z n) (hZ2 : WF Z2 n) (hn : 1 ≤ n) (ht : t < 64) (h2 : val Z2 n = val Z n / 2) (h0 : val Z n / 2 ^ t = 0) :
    0 ≤ Z2 (n - 1) ∧ Z2 (n - 1) < 9223372036854775808 ∧ WF (upd Z2 (n - 1) (Z2 (n - 1) + 9223372036854775808)) n ∧ val (upd Z2 (n - 1) (Z2 (n - 1) + 9223372036854775808)) n / 2 ^ t * 2 ^ t = 2 ^ (64 * n - 1) := by
  obtain ⟨k, rfl⟩ : ∃ k, n = k + 1 := ⟨n - 1, by omega⟩
  rw [Nat.add_sub_cancel]
  have hp : (0 : Int) < 2 ^ t := Int.pow_pos (by decide)
  have a0 := val_nonneg hZ
  have a1 := val_lt hZ
  have b0 := val_nonneg (hZ2.le (show k ≤ k + 1 by omega))
  have e2 : val Z2 (k + 1) = val Z2 k + BB ^ k * Z2 k := by rw [val_add, val_one]; rfl
  have z0 := (hZ2 k (by omega)).1
  have hB := BBn_pos k
  have hlt : val Z (k + 1) < 2 ^ t := by
    have := Int.emod_add_mul_ediv (val Z (k + 1)) (2 ^ t)
    rw [h0, Int.mul_zero, Int.add_zero] at this
    have h3 := Int.emod_lt_of_pos (val Z (k + 1)) hp
    omega
  have htop : Z2 k < 9223372036854775808 := by
    by_cases hh : Z2 k < 9223372036854775808
    · exact hh
    · exfalso
      have h3 := Int.mul_le_mul_of_nonneg_left (show 9223372036854775808 ≤ Z2 k by omega) (Int.le_of_lt hB)
      have eB : BB ^ (k + 1) = BB ^ k * 9223372036854775808 * 2 := by
        rw [BB_succ, Int.mul_assoc]; rfl
      rw [eB] at a1
      omega
  have e3 : val (upd Z2 k (Z2 k + 9223372036854775808)) (k + 1) = val Z2 (k + 1) + 2 ^ (64 * (k + 1) - 1) := by
    have e4 : (2 : Int) ^ (64 * (k + 1) - 1) = BB ^ k * 9223372036854775808 := by
      rw [BB_pow, show (9223372036854775808 : Int) = 2 ^ 63 by decide, ← Int.pow_add]; congr 1
    have e5 : val (upd Z2 k (Z2 k + 9223372036854775808)) (k + 1) = val (upd Z2 k (Z2 k + 9223372036854775808)) k + BB ^ k * upd Z2 k (Z2 k + 9223372036854775808) k := by rw [val_add, val_one]; rfl
    rw [e5, upd_same, val_upd, e4, e2, Int.mul_add]
    omega
  refine ⟨z0, htop, ?_, ?_⟩
  · intro i hi
    by_cases e : i = k
    · subst e; rw [upd_same]; unfold U64; omega
    · rw [upd_other _ _ e]; exact hZ2 i hi
  · rw [e3]
    have hs : (2 : Int) ^ (64 * (k + 1) - 1) = 2 ^ t * 2 ^ (64 * (k + 1) - 1 - t) := by rw [← Int.pow_add]; congr 1; omega
    have hz : val Z2 (k + 1) / 2 ^ t = 0 := Int.ediv_eq_zero_of_lt (by rw [h2]; exact Int.ediv_nonneg a0 (by decide)) (by rw [h2]; omega)
    rw [hs, Int.add_mul_ediv_left _ _ (by omega), hz, Int.zero_add, Int.mul_comm]
structure Two (M : Int) (r : Nat) (sb : Bool) (md rb s : Int) : Prop where
  hb : rb = M / 2 ^ r % 2
  s01 : s = 0 ∨ s = 1
  st : rb = 0 ∨ md = 0 → (s = 0 ↔ M % 2 ^ r = 0 ∧ sb = false)
theorem Two.rb01 {M : Int} {r : Nat} {sb : Bool} {md rb s : Int} (h : Two M r sb md rb s) : rb = 0 ∨ rb = 1 := by rw [h.hb]; exact Int.emod_two_eq _
theorem Two.left {M : Int} {L p r : Nat} {sb : Bool} {md rb s : Int} (h : Two M r sb md rb s) (hM : 0 ≤ M) (hr : L - p = r + 1) : rl M L p sb = (if rb = 0 then 0 else 2) + (if M % 2 ^ r = 0 ∧ sb = false then 0 else 1) := by
  unfold rl
  rw [hr, Nat.add_sub_cancel, lftS_bits hM, ← h.hb]
theorem Two.none {M : Int} {L p r : Nat} {sb : Bool} {md rb s : Int} (h : Two M r sb md rb s) (hM : 0 ≤ M) (hr : L - p = r + 1) : (rb = 0 ∧ s = 0) ↔ rl M L p sb = 0 := by
  rw [h.left hM hr]
  constructor
  · rintro ⟨h1, h2⟩
    rw [if_pos h1, if_pos ((h.st (Or.inl h1)).1 h2)]; rfl
  · intro hh
    by_cases h1 : rb = 0
    · rw [if_pos h1] at hh
      refine ⟨h1, (h.st (Or.inl h1)).2 ?_⟩
      by_cases h2 : M % 2 ^ r = 0 ∧ sb = false
      · exact h2
      · rw [if_neg h2] at hh; omega
    · rw [if_neg h1] at hh
      split at hh <;> omega
theorem incS_zero (neg odd : Bool) (md : Int) : incS neg odd 0 md = false := by
  unfold incS
  split
  · rfl
  · split
    · rfl
    · split
      · rfl
      · split
        · rfl
        · split
          · rfl
          · rfl
theorem Two.exact {neg : Bool} {M : Int} {L p r : Nat} {sb : Bool} {md rb s : Int} (h : Two M r sb md rb s) (hM : 0 ≤ M) (hr : L - p = r + 1) (h0 : rb = 0 ∧ s = 0) : rm neg M L p md sb = rq M L p ∧ racc neg M L p md sb = 0 ∧ rinc neg M L p md sb = false := by
  have hl := (h.none hM hr).1 h0
  have hi : rinc neg M L p md sb = false := by unfold rinc; rw [hl]; exact incS_zero _ _ _
  refine ⟨?_, ?_, hi⟩
  · unfold rm; rw [hi]; simp
  · unfold racc; rw [hl]; unfold accS; simp
def incP (neg odd : Bool) (md rb s : Int) : Bool :=
  if md = 4 then neg else if md = 2 then false else if md = 0 then rb != 0 && (s != 0 || odd) else if md = 1 then rb != 0 else if md = 3 then true else !neg
theorem Two.inc {neg : Bool} {M : Int} {L p r : Nat} {sb : Bool} {md rb s : Int} (h : Two M r sb md rb s) (hM : 0 ≤ M) (hr : L - p = r + 1) (h0 : ¬ (rb = 0 ∧ s = 0)) (hmd : 0 ≤ md ∧ md ≤ 5) :
    incP neg (rq M L p % 2 == 1) md rb s = rinc neg M L p md sb ∧ racc neg M L p md sb = (if (rinc neg M L p md sb != neg) = true then 1 else -1) := by
  have hl0 : rl M L p sb ≠ 0 := fun e => h0 ((h.none hM hr).2 e)
  have hl := h.left (L := L) (p := p) hM hr
  refine ⟨?_, ?_⟩
  · unfold rinc
    obtain ⟨l, hle⟩ : ∃ l, rl M L p sb = l := ⟨_, rfl⟩
    rw [hle] at hl hl0 ⊢
    obtain ⟨odd, hodd⟩ : ∃ o, (rq M L p % 2 == 1) = o := ⟨_, rfl⟩
    rw [hodd]
    have hlb : 0 ≤ l ∧ l ≤ 3 := by rw [hl]; split <;> split <;> omega
    unfold incP incS
    by_cases m4 : md = 4
    · subst m4
      have : 0 < l := by omega
      simp [this]
    · by_cases m2 : md = 2
      · subst m2; simp
      · by_cases m0 : md = 0
        · subst m0
          have hst := h.st (Or.inr rfl)
          rw [if_neg (by decide), if_neg (by decide), if_pos rfl, if_pos rfl, hl]
          rcases h.rb01 with e | e
          · rw [e]
            by_cases h2 : M % 2 ^ r = 0 ∧ sb = false
            · rw [if_pos h2]; simp
            · rw [if_neg h2]; simp
          · rw [e]
            by_cases h2 : M % 2 ^ r = 0 ∧ sb = false
            · rw [if_pos h2, hst.2 h2]; simp
            · have hs : s = 1 := by
                rcases h.s01 with g | g
                · exact absurd (hst.1 g) h2
                · exact g
              rw [if_neg h2, hs]; simp
        · by_cases m1 : md = 1
          · subst m1
            rw [if_neg (by decide), if_neg (by decide), if_neg (by decide), if_pos rfl, if_neg (by decide), if_pos rfl, hl]
            rcases h.rb01 with e | e
            · rw [e, if_pos rfl]; split <;> simp
            · rw [e, if_neg (by decide)]; split <;> simp
          · by_cases m3 : md = 3
            · subst m3
              have : 0 < l := by omega
              simp [this]
            · have m5 : md = 5 := by omega
              subst m5
              have : 0 < l := by omega
              simp [this]
  · unfold racc accS
    rw [if_neg hl0]
theorem or01 {rb s : Int} (h1 : rb = 0 ∨ rb = 1) (h2 : s = 0 ∨ s = 1) : (bits BinOp.or IntKind.u64 rb s != 0) = !decide (rb = 0 ∧ s = 0) := by
  rcases h1 with e | e <;> rcases h2 with g | g <;> subst e <;> subst g <;> decide
end Go.Proofs.YtmgfajamanakcaaGreatDoor
