/-
  Rounding of a fraction N / D to p bits, in plain arithmetic: the digits q, the place t, what is left. No program in sight.
  The bits of a row of words: the i-th bit, what lies below it, what lies above. Plain arithmetic; no program.
  Rounding of a mantissa of L bits to p bits, as plain functions; and what it says of the fraction that the mantissa stands for. No program in sight.
  Float.setBits64 and SetUint64 of a Float of at least 64 bits, walked. Conditions: as FNum says.
  nat.bit, walked. Conditions: the index below 2^40.
-/
import Derived.Test.YtmgfajamanakcaaGreatDoorQ01
import Derived.Test.YtmgfajamanakcaaGreatDoorQ17
import Derived.Outline
import Derived.Test.YtmgfajamanakcaaGreatDoorQ04
namespace Go.Proofs.YtmgfajamanakcaaGreatDoor
set_option linter.unusedVariables false
/-- What is left behind the digits: 0 nothing, 1 less than half, 2 half, 3 more. -/
def lft (r D : Int) : Int := if r = 0 then 0 else if 2 * r < D then 1 else if 2 * r = D then 2 else 3
structure Cls (N D q l : Int) : Prop where
  hq : q = N / D
  hl : l = lft (N % D) D
theorem lft_scale {c r D : Int} (hc : 0 < c) : lft (c * r) (c * D) = lft r D := by
  unfold lft
  have e1 : (c * r = 0) ↔ r = 0 := by rw [Int.mul_eq_zero]; omega
  have e2 : (2 * (c * r) < c * D) ↔ 2 * r < D := by rw [← Int.mul_assoc, Int.mul_comm 2 c, Int.mul_assoc]; exact Int.mul_lt_mul_left hc
  have e3 : (2 * (c * r) = c * D) ↔ 2 * r = D := by
    rw [← Int.mul_assoc, Int.mul_comm 2 c, Int.mul_assoc]
    exact ⟨fun h => Int.eq_of_mul_eq_mul_left (by omega) h, fun h => by rw [h]⟩
  simp only [e1, e2, e3]
theorem Cls.scale {N D q l c : Int} (hc : 0 < c) : Cls (c * N) (c * D) q l ↔ Cls N D q l := by
  have e1 : c * N / (c * D) = N / D := Int.mul_ediv_mul_of_pos _ _ hc
  have e2 : c * N % (c * D) = c * (N % D) := Int.mul_emod_mul_of_pos _ _ hc
  constructor
  · rintro ⟨h1, h2⟩
    rw [e1] at h1; rw [e2, lft_scale hc] at h2; exact ⟨h1, h2⟩
  · rintro ⟨h1, h2⟩
    refine ⟨by rw [e1]; exact h1, by rw [e2, lft_scale hc]; exact h2⟩
/-- The same off the quotient M, and whether it left something. -/
def lftS (r H : Int) (sb : Bool) : Int := if r = 0 ∧ sb = false then 0 else if r < H then 1 else if r = H ∧ sb = false then 2 else 3
theorem cls_nested {N D M : Int} {k : Nat} (hD : 0 < D) (hM : M = N / D) {sb : Bool} (hsb : sb = true ↔ N % D ≠ 0) :
    Cls N (D * 2 ^ (k + 1)) (M / 2 ^ (k + 1)) (lftS (M % 2 ^ (k + 1)) (2 ^ k) sb) := by
  have hp : (0 : Int) < 2 ^ k := Int.pow_pos (by omega)
  have hp1 : (0 : Int) < 2 ^ (k + 1) := Int.pow_pos (by omega)
  have hps : (2 : Int) ^ (k + 1) = 2 * 2 ^ k := by rw [Int.pow_succ]; omega
  have eN := Int.emod_add_mul_ediv N D
  have eM := Int.emod_add_mul_ediv M (2 ^ (k + 1))
  have r0 := Int.emod_nonneg N (show D ≠ 0 by omega)
  have r1 := Int.emod_lt_of_pos N hD
  have m0 := Int.emod_nonneg M (show (2 : Int) ^ (k + 1) ≠ 0 by omega)
  have m1 := Int.emod_lt_of_pos M hp1
  rw [← hM] at eN
  obtain ⟨ρ, hρ⟩ : ∃ ρ, ρ = N % D := ⟨_, rfl⟩
  obtain ⟨r, hr⟩ : ∃ r, r = M % 2 ^ (k + 1) := ⟨_, rfl⟩
  obtain ⟨q, hq⟩ : ∃ q, q = M / 2 ^ (k + 1) := ⟨_, rfl⟩
  rw [← hρ] at eN r0 r1 hsb
  rw [← hr] at eM m0 m1
  rw [← hq] at eM
  have hDr : 0 ≤ D * r := Int.mul_nonneg (by omega) m0
  have hDr1 : D * r + D ≤ D * 2 ^ (k + 1) := by
    have := Int.mul_le_mul_of_nonneg_left (show r + 1 ≤ 2 ^ (k + 1) by omega) (show 0 ≤ D by omega)
    rw [Int.mul_add] at this; omega
  have e : N = (D * r + ρ) + D * 2 ^ (k + 1) * q := by rw [← eN, ← eM]; grind
  have hDp : 0 < D * 2 ^ (k + 1) := Int.mul_pos hD hp1
  have h1 : N / (D * 2 ^ (k + 1)) = q := by
    rw [e, Int.add_mul_ediv_left _ _ (by omega), Int.ediv_eq_zero_of_lt (by omega) (by omega)]; omega
  have h2 : N % (D * 2 ^ (k + 1)) = D * r + ρ := by
    rw [e, Int.add_mul_emod_self_left, Int.emod_eq_of_lt (by omega) (by omega)]
  refine ⟨by rw [h1, hq], ?_⟩
  rw [h2, ← hr]
  unfold lftS lft
  have hDp2 : D * 2 ^ (k + 1) = 2 * (D * 2 ^ k) := by rw [hps]; grind
  have z : (D * r + ρ = 0) ↔ (r = 0 ∧ sb = false) := by
    constructor
    · intro h
      have h3 : ρ = 0 := by omega
      have h4 : D * r = 0 := by omega
      rw [Int.mul_eq_zero] at h4
      refine ⟨by omega, ?_⟩
      cases sb with
      | false => rfl
      | true => exact absurd h3 (hsb.1 rfl)
    · rintro ⟨h3, h4⟩
      subst h3
      have h5 : ρ = 0 := by
        by_cases h : ρ = 0
        · exact h
        · rw [hsb.2 h] at h4; cases h4
      rw [h5]; simp
  by_cases hz : r = 0 ∧ sb = false
  · rw [if_pos hz, if_pos (z.2 hz)]
  · rw [if_neg hz, if_neg (fun h => hz (z.1 h))]
    by_cases hlt : r < 2 ^ k
    · rw [if_pos hlt, if_pos]
      have := Int.mul_le_mul_of_nonneg_left (show r + 1 ≤ 2 ^ k by omega) (show 0 ≤ D by omega)
      rw [Int.mul_add] at this; omega
    · rw [if_neg hlt]
      have hge := Int.mul_le_mul_of_nonneg_left (show 2 ^ k ≤ r by omega) (show 0 ≤ D by omega)
      have hn : ¬ 2 * (D * r + ρ) < D * 2 ^ (k + 1) := by omega
      by_cases heq : r = 2 ^ k ∧ sb = false
      · rw [if_pos heq, if_neg hn, if_pos]
        have h5 : ρ = 0 := by
          by_cases h : ρ = 0
          · exact h
          · have := heq.2; rw [hsb.2 h] at this; cases this
        rw [heq.1, h5]; omega
      · rw [if_neg heq, if_neg hn, if_neg]
        intro h
        by_cases hre : r = 2 ^ k
        · apply heq
          refine ⟨hre, ?_⟩
          cases sb with
          | false => rfl
          | true => exact absurd (show ρ = 0 by rw [hre] at h; omega) (hsb.1 rfl)
        · have := Int.mul_le_mul_of_nonneg_left (show 2 ^ k + 1 ≤ r by omega) (show 0 ≤ D by omega)
          rw [Int.mul_add] at this; omega
/-- N / D has the p digits q at the place t, and l is left. -/
def Rnd (N D : Int) (p : Nat) (q t l : Int) : Prop := ∃ a b : Nat, t = (b : Int) - a ∧ Cls (N * 2 ^ a) (D * 2 ^ b) q l ∧ 2 ^ (p - 1) ≤ q ∧ q < 2 ^ p
theorem two_pos (k : Nat) : (0 : Int) < 2 ^ k := Int.pow_pos (by omega)
/-- Both scales may be raised. -/
theorem Rnd.raise {N D q t l : Int} {p a b : Nat} (ht : t = (b : Int) - a) (h : Cls (N * 2 ^ a) (D * 2 ^ b) q l) (c : Nat) : Cls (N * 2 ^ (a + c)) (D * 2 ^ (b + c)) q l := by
  have := (Cls.scale (two_pos c)).2 h
  rw [show (2 : Int) ^ c * (N * 2 ^ a) = N * 2 ^ (a + c) by rw [Int.pow_add]; grind, show (2 : Int) ^ c * (D * 2 ^ b) = D * 2 ^ (b + c) by rw [Int.pow_add]; grind] at this
  exact this
theorem Rnd.le {N D q t l q' t' l' : Int} {p : Nat} (hD : 0 < D) (hp : 1 ≤ p) (h : Rnd N D p q t l) (h' : Rnd N D p q' t' l') : t' ≤ t := by
  by_cases hlt : t' ≤ t
  · exact hlt
  · exfalso
    obtain ⟨a, b, ht, hc, h1, h2⟩ := h
    obtain ⟨a', b', ht', hc', h1', h2'⟩ := h'
    have r1 := Rnd.raise (p := p) ht hc a'
    have r2 := Rnd.raise (p := p) ht' hc' a
    rw [Nat.add_comm a' a] at r2
    obtain ⟨d, hd⟩ : ∃ d, b' + a = (b + a') + (d + 1) := ⟨b' + a - (b + a') - 1, by omega⟩
    rw [hd] at r2
    have e1 := r1.hq
    have e2 := r2.hq
    rw [Int.pow_add _ (b + a') (d + 1), ← Int.mul_assoc, ← Int.ediv_ediv_of_nonneg (by have := Int.mul_pos hD (two_pos (b + a')); omega), ← e1] at e2
    have h3 : 2 ^ (p - 1) * 2 ^ (d + 1) ≤ q' * 2 ^ (d + 1) := Int.mul_le_mul_of_nonneg_right h1' (Int.le_of_lt (two_pos _))
    have h4 : q' * 2 ^ (d + 1) ≤ q := by rw [e2]; exact Int.ediv_mul_le _ (by have := two_pos (d + 1); omega)
    have h5 : (2 : Int) ^ (p - 1) * 2 ^ (d + 1) = 2 ^ p * 2 ^ d := by rw [← Int.pow_add, ← Int.pow_add]; congr 1; omega
    have h6 : (2 : Int) ^ p * 1 ≤ 2 ^ p * 2 ^ d := Int.mul_le_mul_of_nonneg_left (by have := two_pos d; omega) (Int.le_of_lt (two_pos p))
    omega
theorem Rnd.unique {N D q t l q' t' l' : Int} {p : Nat} (hD : 0 < D) (hp : 1 ≤ p) (h : Rnd N D p q t l) (h' : Rnd N D p q' t' l') : q = q' ∧ t = t' ∧ l = l' := by
  have e := h.le hD hp h'
  have e' := h'.le hD hp h
  obtain rfl : t = t' := by omega
  obtain ⟨a, b, ht, hc, h1, h2⟩ := h
  obtain ⟨a', b', ht', hc', h1', h2'⟩ := h'
  have r1 := Rnd.raise (p := p) ht hc a'
  have r2 := Rnd.raise (p := p) ht' hc' a
  rw [Nat.add_comm a' a, show b' + a = b + a' by omega] at r2
  exact ⟨r1.hq.trans r2.hq.symm, rfl, r1.hl.trans r2.hl.symm⟩
/-- Whether the digits go up by one: to the nearest, of two the even one; of two the farther one; down; up; to below; to above. -/
def incS (neg odd : Bool) (l mode : Int) : Bool :=
  if mode = 0 then l == 3 || (l == 2 && odd) else if mode = 1 then decide (2 ≤ l) else if mode = 3 then decide (0 < l) else if mode = 4 then decide (0 < l) && neg else if mode = 5 then decide (0 < l) && !neg else false
def accS (neg inc : Bool) (l : Int) : Int := if l = 0 then 0 else if inc != neg then 1 else -1
/-- N / D, negated by neg, is rounded to m 2^t. -/
def Rounded (neg : Bool) (N D : Int) (p : Nat) (mode m t acc : Int) : Prop :=
  ∃ q l, Rnd N D p q t l ∧ m = q + (if incS neg (q % 2 == 1) l mode then 1 else 0) ∧ acc = accS neg (incS neg (q % 2 == 1) l mode) l
theorem Rounded.unique {neg : Bool} {N D mode m t acc m' t' acc' : Int} {p : Nat} (hD : 0 < D) (hp : 1 ≤ p) (h : Rounded neg N D p mode m t acc) (h' : Rounded neg N D p mode m' t' acc') : m = m' ∧ t = t' ∧ acc = acc' := by
  obtain ⟨q, l, h1, h2, h3⟩ := h
  obtain ⟨q', l', h1', h2', h3'⟩ := h'
  obtain ⟨rfl, rfl, rfl⟩ := h1.unique hD hp h1'
  exact ⟨h2.trans h2'.symm, rfl, h3.trans h3'.symm⟩
end Go.Proofs.YtmgfajamanakcaaGreatDoor
namespace Go.Proofs.YtmgfajamanakcaaGreatDoor
set_option linter.unusedVariables false
theorem BB_two : BB = 2 ^ 64 := by decide
theorem BB_pow (j : Nat) : BB ^ j = 2 ^ (64 * j) := by
  rw [BB_two, ← Int.pow_mul]
theorem val_split (X : Nat → Int) {n j : Nat} (hj : j < n) : val X n = val X j + BB ^ j * (X j + BB * val (fun i => X (j + 1 + i)) (n - j - 1)) := by
  obtain ⟨k, rfl⟩ : ∃ k, n = j + (1 + k) := ⟨n - j - 1, by omega⟩
  rw [val_add, val_add, val_one]
  simp only [Nat.add_zero]
  rw [show j + (1 + k) - j - 1 = k by omega, Int.pow_succ, Int.pow_zero, Int.one_mul]
  rw [val_congr (X := fun i => X (j + (1 + i))) (Y := fun i => X (j + 1 + i)) (fun i hi => by rw [Nat.add_assoc])]
theorem two_splitP (i : Nat) : (2 : Int) ^ i = BB ^ (i / 64) * 2 ^ (i % 64) := by
  rw [BB_pow, ← Int.pow_add]
  congr 1; omega
theorem BB_split {t : Nat} (ht : t ≤ 64) : BB = 2 ^ t * 2 ^ (64 - t) := by
  rw [BB_two, ← Int.pow_add]; congr 1; omega
theorem add_mul_div {a b P k : Int} (h0 : 0 ≤ a) (h1 : a < P) : (a + P * b) / (P * k) = b / k := by
  have hP : 0 < P := by omega
  rw [← Int.ediv_ediv_of_nonneg (Int.le_of_lt hP), Int.add_mul_ediv_left _ _ (by omega), Int.ediv_eq_zero_of_lt h0 h1, Int.zero_add]
theorem add_mul_mod {a b P k : Int} (h0 : 0 ≤ a) (h1 : a < P) (hk : 0 < k) : (a + P * b) % (P * k) = a + P * (b % k) := by
  have hP : 0 < P := by omega
  have e1 := Int.emod_add_mul_ediv (a + P * b) (P * k)
  rw [add_mul_div h0 h1] at e1
  have e2 := Int.emod_add_mul_ediv b k
  have e3 : P * b = P * (b % k) + P * k * (b / k) := by
    rw [Int.mul_assoc, ← Int.mul_add, e2]
  omega
theorem val_div_bits {X : Nat → Int} {n i : Nat} (hX : WF X n) (hi : i / 64 < n) : val X n / 2 ^ i = X (i / 64) / 2 ^ (i % 64) + 2 ^ (64 - i % 64) * val (fun t => X (i / 64 + 1 + t)) (n - i / 64 - 1) := by
  rw [val_split X hi, two_splitP, add_mul_div (val_nonneg (hX.le (by omega))) (val_lt (hX.le (by omega)))]
  have e := BB_split (t := i % 64) (by omega)
  have hp : (0 : Int) < 2 ^ (i % 64) := Int.pow_pos (by decide)
  generalize val (fun t => X (i / 64 + 1 + t)) (n - i / 64 - 1) = R
  rw [e, Int.mul_assoc, Int.add_mul_ediv_left _ _ (by omega)]
theorem val_mod_bits {X : Nat → Int} {n i : Nat} (hX : WF X n) (hi : i / 64 < n) : val X n % 2 ^ i = val X (i / 64) + BB ^ (i / 64) * (X (i / 64) % 2 ^ (i % 64)) := by
  have hp : (0 : Int) < 2 ^ (i % 64) := Int.pow_pos (by decide)
  rw [val_split X hi, two_splitP, add_mul_mod (val_nonneg (hX.le (by omega))) (val_lt (hX.le (by omega))) hp]
  have e := BB_split (t := i % 64) (by omega)
  generalize val (fun t => X (i / 64 + 1 + t)) (n - i / 64 - 1) = R
  rw [e, Int.mul_assoc, Int.add_mul_emod_self_left]
/-- The i-th bit. -/
theorem val_bit {X : Nat → Int} {n i : Nat} (hX : WF X n) (hi : i / 64 < n) : X (i / 64) / 2 ^ (i % 64) % 2 = val X n / 2 ^ i % 2 := by
  rw [val_div_bits hX hi]
  obtain ⟨k, hk⟩ : ∃ k, 64 - i % 64 = k + 1 := ⟨63 - i % 64, by omega⟩
  rw [hk, Int.pow_succ]
  generalize val (fun t => X (i / 64 + 1 + t)) (n - i / 64 - 1) = R
  rw [Int.mul_comm ((2 : Int) ^ k) 2, Int.mul_assoc, Int.add_mul_emod_self_left]
theorem val_eq_zero {X : Nat → Int} {n : Nat} (hX : WF X n) : val X n = 0 ↔ ∀ k, k < n → X k = 0 := by
  constructor
  · intro h
    induction n with
    | zero => intro k hk; omega
    | succ n ih =>
      simp only [val] at h
      have h1 := val_nonneg (hX.le (show n ≤ n + 1 by omega))
      have h2 := (hX n (by omega)).1
      have h3 := Int.mul_nonneg h2 (Int.le_of_lt (BBn_pos n))
      have h4 : X n * BB ^ n = 0 := by omega
      have h5 : X n = 0 := by
        rcases Int.mul_eq_zero.1 h4 with h | h
        · exact h
        · have := BBn_pos n; omega
      intro k hk
      rcases Nat.lt_or_ge k n with hh | hh
      · exact ih (hX.le (by omega)) (by omega) k hh
      · obtain rfl : k = n := by omega
        exact h5
  · exact val_zeros
/-- Whether a bit below the i-th is set. -/
theorem val_low {X : Nat → Int} {n i : Nat} (hX : WF X n) (hi : i / 64 < n) : val X n % 2 ^ i = 0 ↔ (∀ k, k < i / 64 → X k = 0) ∧ X (i / 64) % 2 ^ (i % 64) = 0 := by
  rw [val_mod_bits hX hi, ← val_eq_zero (hX.le (show i / 64 ≤ n by omega))]
  have h1 := val_nonneg (hX.le (show i / 64 ≤ n by omega))
  have h2 := Int.emod_nonneg (X (i / 64)) (show (2 : Int) ^ (i % 64) ≠ 0 by have : (0 : Int) < 2 ^ (i % 64) := Int.pow_pos (by decide); omega)
  have h3 := Int.mul_nonneg (Int.le_of_lt (BBn_pos (i / 64))) h2
  constructor
  · intro h
    refine ⟨by omega, ?_⟩
    have h4 : BB ^ (i / 64) * (X (i / 64) % 2 ^ (i % 64)) = 0 := by omega
    rcases Int.mul_eq_zero.1 h4 with h | h
    · have := BBn_pos (i / 64); omega
    · exact h
  · rintro ⟨a, b⟩
    rw [a, b]; simp
/-- The words from k on. -/
theorem val_drop {X : Nat → Int} {m k : Nat} (hX : WF X m) (hk : k ≤ m) : val (fun i => X (k + i)) (m - k) = val X m / BB ^ k := by
  obtain ⟨d, rfl⟩ : ∃ d, m = k + d := ⟨m - k, by omega⟩
  rw [val_add, Int.add_mul_ediv_left _ _ (by have := BBn_pos k; omega), Int.ediv_eq_zero_of_lt (val_nonneg (hX.le (by omega))) (val_lt (hX.le (by omega))), Int.zero_add, Nat.add_sub_cancel_left]
/-- The p top bits, by the n top words. -/
theorem top_bits {X : Nat → Int} {m n p : Nat} (hX : WF X m) (hn : n ≤ m) (hp : p ≤ 64 * n) : val (fun i => X (m - n + i)) n / 2 ^ (64 * n - p) = val X m / 2 ^ (64 * m - p) := by
  have e := val_drop (k := m - n) hX (by omega)
  rw [show m - (m - n) = n by omega] at e
  rw [e, BB_pow, Int.ediv_ediv_of_nonneg (Int.le_of_lt (Int.pow_pos (by decide))), ← Int.pow_add]
  congr 2; omega
/-- What is left, by the bit behind the digits and those below it. -/
theorem lftS_bits {M : Int} {r : Nat} {sb : Bool} (hM : 0 ≤ M) : lftS (M % 2 ^ (r + 1)) (2 ^ r) sb = (if M / 2 ^ r % 2 = 0 then 0 else 2) + (if M % 2 ^ r = 0 ∧ sb = false then 0 else 1) := by
  have hp : (0 : Int) < 2 ^ r := Int.pow_pos (by decide)
  have e1 := Int.emod_add_mul_ediv M (2 ^ r)
  have e2 := Int.emod_add_mul_ediv (M / 2 ^ r) 2
  have e3 : M % 2 ^ (r + 1) = M % 2 ^ r + 2 ^ r * (M / 2 ^ r % 2) := by
    rw [Int.pow_succ]
    have := add_mul_mod (a := M % 2 ^ r) (b := M / 2 ^ r) (P := 2 ^ r) (k := 2) (Int.emod_nonneg _ (by omega)) (Int.emod_lt_of_pos _ hp) (by decide)
    rw [e1] at this
    exact this
  have a0 := Int.emod_nonneg M (show (2 : Int) ^ r ≠ 0 by omega)
  have a1 := Int.emod_lt_of_pos M hp
  rw [e3]
  unfold lftS
  rcases Int.emod_two_eq (M / 2 ^ r) with h | h
  · rw [h, if_pos rfl, Int.mul_zero, Int.add_zero, Int.zero_add]
    by_cases hz : M % 2 ^ r = 0 ∧ sb = false
    · rw [if_pos hz, if_pos hz]
    · rw [if_neg hz, if_neg hz, if_pos a1]
  · rw [h, if_neg (show ¬ ((1 : Int) = 0) by decide), Int.mul_one]
    rw [if_neg (show ¬ (M % 2 ^ r + 2 ^ r = 0 ∧ sb = false) from fun h => by have := h.1; omega), if_neg (show ¬ (M % 2 ^ r + 2 ^ r < 2 ^ r) by omega)]
    by_cases hz : M % 2 ^ r = 0 ∧ sb = false
    · rw [if_pos hz, if_pos ⟨by omega, hz.2⟩]; rfl
    · rw [if_neg hz, if_neg (by rintro ⟨h, h'⟩; exact hz ⟨by omega, h'⟩)]; rfl
/-- The low bits struck off. -/
theorem low_cut {M : Int} {k : Nat} : M - M % 2 ^ k = M / 2 ^ k * 2 ^ k := by
  have := Int.emod_add_mul_ediv M (2 ^ k)
  rw [Int.mul_comm] at this; omega
/-- One more at the digits' place: the sum, and its carry. -/
theorem inc_top {Y Z : Nat → Int} {n p : Nat} {c : Int} (hY : WF Y n) (hZ : WF Z n) (hp : p ≤ 64 * n) (hc : c = 0 ∨ c = 1) (h : val Z n + c * BB ^ n = val Y n + 2 ^ (64 * n - p)) :
    (c = 0 ∧ val Z n / 2 ^ (64 * n - p) = val Y n / 2 ^ (64 * n - p) + 1 ∧ val Y n / 2 ^ (64 * n - p) + 1 < 2 ^ p) ∨ (c = 1 ∧ val Z n / 2 ^ (64 * n - p) = 0 ∧ val Y n / 2 ^ (64 * n - p) + 1 = 2 ^ p) := by
  obtain ⟨t, ht⟩ : ∃ t, 64 * n - p = t := ⟨_, rfl⟩
  rw [ht] at h ⊢
  have hP : (0 : Int) < 2 ^ t := Int.pow_pos (by decide)
  have eB : BB ^ n = 2 ^ t * 2 ^ p := by rw [BB_pow, ← Int.pow_add]; rw [show t + p = 64 * n by omega]
  have a1 := val_lt hY
  have a2 := val_lt hZ
  have a3 := val_nonneg hZ
  have a4 := val_nonneg hY
  rw [eB] at a1 a2 h
  have d1 : (val Y n + 2 ^ t) / 2 ^ t = val Y n / 2 ^ t + 1 := by
    have := Int.add_mul_ediv_left (val Y n) 1 (show (2 : Int) ^ t ≠ 0 by omega)
    rwa [Int.mul_one] at this
  have d2 : val Z n / 2 ^ t < 2 ^ p := Int.ediv_lt_of_lt_mul hP (by rw [Int.mul_comm]; exact a2)
  have d3 : val Y n / 2 ^ t < 2 ^ p := Int.ediv_lt_of_lt_mul hP (by rw [Int.mul_comm]; exact a1)
  rw [← h] at d1
  rcases hc with rfl | rfl
  · left
    rw [Int.zero_mul, Int.add_zero] at d1
    exact ⟨rfl, d1, by omega⟩
  · right
    rw [Int.one_mul, Int.add_mul_ediv_left _ _ (by omega)] at d1
    have := Int.ediv_nonneg a3 (Int.le_of_lt hP)
    exact ⟨rfl, by omega, by omega⟩
end Go.Proofs.YtmgfajamanakcaaGreatDoor
namespace Go.Proofs.YtmgfajamanakcaaGreatDoor
set_option linter.unusedVariables false
def rq (M : Int) (L p : Nat) : Int := M / 2 ^ (L - p)
def rl (M : Int) (L p : Nat) (sb : Bool) : Int := lftS (M % 2 ^ (L - p)) (2 ^ (L - p - 1)) sb
def rinc (neg : Bool) (M : Int) (L p : Nat) (md : Int) (sb : Bool) : Bool := incS neg (rq M L p % 2 == 1) (rl M L p sb) md
def rm (neg : Bool) (M : Int) (L p : Nat) (md : Int) (sb : Bool) : Int := rq M L p + (if rinc neg M L p md sb then 1 else 0)
def racc (neg : Bool) (M : Int) (L p : Nat) (md : Int) (sb : Bool) : Int := accS neg (rinc neg M L p md sb) (rl M L p sb)
theorem rq_range {M : Int} {L p : Nat} (hp : 1 ≤ p) (hL : p < L) (h1 : 2 ^ (L - 1) ≤ M) (h2 : M < 2 ^ L) : 2 ^ (p - 1) ≤ rq M L p ∧ rq M L p < 2 ^ p := by
  have hP : (0 : Int) < 2 ^ (L - p) := Int.pow_pos (by decide)
  unfold rq
  constructor
  · apply Int.le_ediv_of_mul_le hP
    rw [← Int.pow_add, show p - 1 + (L - p) = L - 1 by omega]; exact h1
  · apply Int.ediv_lt_of_lt_mul hP
    rw [← Int.pow_add, show p + (L - p) = L by omega]; exact h2
/-- The mantissa M stands for N / D, of which it is the whole part; sb: something is left. -/
theorem rounded_of {neg : Bool} {N D M md : Int} {L p : Nat} {sb : Bool} (hD : 0 < D) (hM : M = N / D) (hsb : sb = true ↔ N % D ≠ 0) (hp : 1 ≤ p) (hL : p < L) (h1 : 2 ^ (L - 1) ≤ M) (h2 : M < 2 ^ L) :
    Rounded neg N D p md (rm neg M L p md sb) ((L - p : Nat) : Int) (racc neg M L p md sb) := by
  obtain ⟨r1, r2⟩ := rq_range hp hL h1 h2
  obtain ⟨k, hk⟩ : ∃ k, L - p = k + 1 := ⟨L - p - 1, by omega⟩
  have hc := cls_nested (k := k) hD hM hsb
  refine ⟨rq M L p, rl M L p sb, ⟨0, L - p, by simp, ?_, r1, r2⟩, rfl, rfl⟩
  unfold rq rl
  rw [Int.pow_zero, Int.mul_one, hk, show k + 1 - 1 = k by omega]
  exact hc
/-- What a mantissa of few enough bits stands for. -/
theorem rounded_exact {neg : Bool} {M md : Int} {p : Nat} {L : Nat} (hp : 1 ≤ p) (hL : L ≤ p) (h1 : 2 ^ (L - 1) ≤ M) (h2 : M < 2 ^ L) (h0 : 1 ≤ L) :
    Rounded neg M 1 p md (M * 2 ^ (p - L)) (-((p - L : Nat) : Int)) 0 := by
  have hP : (0 : Int) < 2 ^ (p - L) := Int.pow_pos (by decide)
  have hz : incS neg (M * 2 ^ (p - L) % 2 == 1) 0 md = false := by
    unfold incS
    split
    · rfl
    · split
      · rfl
      · split
        · rfl
        · split
          · rfl
          · split
            · rfl
            · rfl
  refine ⟨M * 2 ^ (p - L), 0, ⟨p - L, 0, by simp, ⟨?_, ?_⟩, ?_, ?_⟩, ?_, ?_⟩
  · rw [Int.pow_zero, Int.mul_one, Int.ediv_one]
  · rw [Int.pow_zero, Int.mul_one, Int.emod_one]; rfl
  · have := Int.mul_le_mul_of_nonneg_right h1 (Int.le_of_lt hP)
    rw [← Int.pow_add, show L - 1 + (p - L) = p - 1 by omega] at this
    exact this
  · have := Int.mul_lt_mul_of_pos_right h2 hP
    rw [← Int.pow_add, show L + (p - L) = p by omega] at this
    exact this
  · rw [hz]; simp
  · rw [hz]; rfl
end Go.Proofs.YtmgfajamanakcaaGreatDoor
namespace Go.Proofs.YtmgfajamanakcaaGreatDoor
open Go.RowKit
set_option maxRecDepth 100000
set_option linter.unusedVariables false
/-- A Float that is as it should be: its mantissa lies apart from it; a finite one has words, the top bit set. -/
structure FNum (w : World) (b : Nat) (v : FV) (X : Nat → Int) : Prop where
  c : FltC w b v
  z : ZOK w v.a v.c
  ap : ∀ b' o, v.a = some ⟨b', o, none⟩ → b' ≠ b
  p : 1 ≤ v.p ∧ v.p < 1048576
  md : 0 ≤ v.md ∧ v.md ≤ 5
  fm : v.fm = 0 ∨ v.fm = 1 ∨ v.fm = 2
  ex : -2147483648 ≤ v.e ∧ v.e ≤ 2147483647
  fin : v.fm = 1 → 0 < v.n ∧ v.n ≤ v.c ∧ v.n < 65536 ∧ Rd w v.a v.n X ∧ WF X v.n ∧ 9223372036854775808 ≤ X (v.n - 1)
def zF (b : Nat) (v : FV) : Zone := fun b' o => zRow b 0 7 b' o ∨ zAddr v.a v.c b' o
theorem FNum.chg {Z : Zone} {w w' : World} {b : Nat} {v : FV} {X : Nat → Int} (h : FNum w b v X) (k : Chg Z w w') (hz : ∀ b' o, zF b v b' o → ¬ Z b' o) : FNum w' b v X := by
  refine ⟨h.c.chg k (fun o ho => hz b o (Or.inl ⟨rfl, by omega, by omega⟩)), h.z.chg k (fun b' o hh => hz b' o (Or.inr hh)), h.ap, h.p, h.md, h.fm, h.ex, fun e => ?_⟩
  obtain ⟨h1, h2, h3, h4, h5, h6⟩ := h.fin e
  refine ⟨h1, h2, h3, ?_, h5, h6⟩
  rcases h4 with hh | ⟨b', o, e', hw⟩
  · exact Or.inl hh
  · exact Or.inr ⟨b', o, e', hw.chg k (fun i hi => hz b' (o + i) (Or.inr ⟨o, e', by omega, by omega⟩))⟩
theorem FNum.words {w : World} {b : Nat} {v : FV} {X : Nat → Int} (h : FNum w b v X) (e : v.fm = 1) : ∃ bm om, v.a = some ⟨bm, om, none⟩ ∧ Words w bm om v.n X ∧ Room w bm om v.c ∧ PB w bm ∧ bm ≠ b := by
  obtain ⟨h1, h2, h3, h4, h5, h6⟩ := h.fin e
  rcases h4 with hh | ⟨bm, om, e', hw⟩
  · omega
  · rcases h.z with ⟨e2, _⟩ | ⟨b2, o2, e2, hp, hr, _⟩
    · rw [e2] at e'; cases e'
    · rw [e2] at e'; injection e' with e'; injection e' with e3 e4; subst e3; subst e4
      exact ⟨b2, o2, e2, hw, hr, hp, h.ap _ _ e2⟩
end Go.Proofs.YtmgfajamanakcaaGreatDoor
namespace Go.Proofs.YtmgfajamanakcaaGreatDoor
open Go.RowKit
set_option maxRecDepth 100000
set_option linter.unusedVariables false
theorem and_one_u (k : Nat) (h : k < 18446744073709551616) : bits BinOp.and IntKind.u64 (k : Int) 1 = ((k % 2 : Nat) : Int) := by
  have h1 : (BitVec.ofInt 64 1).toNat = 2 ^ 1 - 1 := by decide
  have key : (BitVec.ofInt 64 (k : Int) &&& BitVec.ofInt 64 1).toNat = ((k : Int) % ((2 ^ 64 : Nat) : Int)).toNat % 2 ^ 1 := by
    rw [BitVec.toNat_and, BitVec.toNat_ofInt, h1, Nat.and_two_pow_sub_one_eq_mod]
  show IntKind.u64.wrap ((BitVec.ofInt 64 (k : Int) &&& BitVec.ofInt 64 1).toNat : Nat) = _
  rw [key, wrap_u64]
  omega
theorem and_one_int {x : Int} (h : U64 x) : bits BinOp.and IntKind.u64 x 1 = x % 2 := by
  obtain ⟨k, rfl⟩ := Int.eq_ofNat_of_zero_le h.1
  have := and_one_u k (by have := h.2; omega)
  rw [this]; omega
def bitOf (X : Nat → Int) (n i : Nat) : Int := if i / 64 < n then X (i / 64) / 2 ^ (i % 64) % 2 else 0
theorem bit_any (a : Option Addr) (n c i : Nat) (X : Nat → Int) (w : World) (hr : Rd w a n X) (hX : WF X n) (hn : n < 1099511627776) (hi : i < 1099511627776) :
    Calls Tryz.prog 197 #[.slice a n c, .int .u64 (i : Int)] w fun e w' => e = .returned (.int .u64 (bitOf X n i)) ∧ w = w' := by
  have q1 : (i : Int).tdiv 64 = ((i / 64 : Nat) : Int) := by
    rw [Int.tdiv_eq_ediv_of_nonneg (by omega)]; omega
  have q2 : (i : Int).tmod 64 = ((i % 64 : Nat) : Int) := by
    rw [Int.tmod_eq_emod_of_nonneg (by omega)]; omega
  obtain ⟨j, hj⟩ : ∃ j, i / 64 = j := ⟨_, rfl⟩
  obtain ⟨r, hr2⟩ : ∃ r, i % 64 = r := ⟨_, rfl⟩
  rw [hj] at q1
  rw [hr2] at q2
  have q3 : IntKind.u64.wrap (n : Int) = (n : Int) := by rw [wrap_u64]; omega
  by_cases hlt : j < n
  · have d1 : decide ((n : Int) ≤ (j : Int)) = false := by simp; omega
    have d2 : decide (n ≤ j) = false := by simp; omega
    obtain ⟨b, o, rfl, hw⟩ : ∃ b o, a = some ⟨b, o, none⟩ ∧ Words w b o n X := by
      rcases hr with h | h
      · omega
      · exact h
    have hc := hw j hlt
    obtain ⟨x, hx⟩ : ∃ x, X j = x := ⟨_, rfl⟩
    rw [hx] at hc
    have f1 : (0 : Int) ≤ (j : Int) := by omega
    have f2 : (j : Int) < (n : Int) := by omega
    have HB : Hid (bits BinOp.and IntKind.u64 (x / 2 ^ r) 1 = bitOf X n i) := by
      unfold Hid bitOf
      rw [hj, hr2, if_pos hlt, hx]
      exact and_one_int (U64_shr (by rw [← hx]; exact hX j hlt))
    clear hr hX hw hx
    go_enter Tryz.func197, Tryz.ntmps197
    go_wp2_with fail
    go_ret
    exact ⟨by rw [← HB.out]; rfl, rfl⟩
  · have d1 : decide ((n : Int) ≤ (j : Int)) = true := by simp; omega
    have d2 : decide (n ≤ j) = true := by simp; omega
    have HB : Hid (bitOf X n i = 0) := by unfold Hid bitOf; rw [if_neg (by omega)]
    clear hr hX
    go_enter Tryz.func197, Tryz.ntmps197
    go_wp2_with fail
    go_ret
    exact ⟨by rw [HB.out]; rfl, rfl⟩
end Go.Proofs.YtmgfajamanakcaaGreatDoor
