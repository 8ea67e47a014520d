/- Part of the proof of FnParse: what the functions that it reaches do, as contracts. Conditions: those that each theorem names. -/
import Derived.Test.YtmgfajamanakcaaGreatDoorR13
import Derived.Lib.TrailingZeros
import Derived.Test.YtmgfajamanakcaaGreatDoorR18
import Derived.Test.YtmgfajamanakcaaGreatDoorR02
namespace Go.Proofs.YtmgfajamanakcaaGreatDoor
set_option linter.unusedVariables false
set_option linter.unusedSimpArgs false
open Go
set_option maxRecDepth 100000
def LowZ (M : Int) (t : Nat) : Prop := ∃ q : Int, M = 2 ^ t * (2 * q + 1)
theorem LowZ.unique {M : Int} {t u : Nat} (h : LowZ M t) (k : LowZ M u) : t = u := by
  obtain ⟨q, hq⟩ := h
  obtain ⟨r, hr⟩ := k
  have key : ∀ (a b : Nat) (x y : Int), a < b → 2 ^ a * (2 * x + 1) = 2 ^ b * (2 * y + 1) → False := by
    intro a b x y hab he
    obtain ⟨d, rfl⟩ : ∃ d, b = a + (d + 1) := ⟨b - a - 1, by omega⟩
    rw [Int.pow_add, Int.mul_assoc] at he
    have h2 := Int.eq_of_mul_eq_mul_left (by have : (0 : Int) < 2 ^ a := Int.pow_pos (by decide); omega) he
    rw [Int.pow_succ, Int.mul_comm (2 ^ d), Int.mul_assoc] at h2
    omega
  rcases Nat.lt_trichotomy t u with h | h | h
  · exact (key _ _ _ _ h (hq.symm.trans hr)).elim
  · exact h
  · exact (key _ _ _ _ h (hr.symm.trans hq)).elim
theorem ctz_low {x : Int} (h : U64 x) (h0 : x ≠ 0) : LowZ x (Lib.ctz 64 x.toNat) ∧ Lib.ctz 64 x.toNat < 64 := by
  obtain ⟨h1, h2⟩ := h
  obtain ⟨m, hm, hk⟩ := Lib.ctzFrom_spec 64 x.toNat (by omega) (by omega)
  have e : Lib.ctz 64 x.toNat = Lib.ctzFrom 64 x.toNat := by unfold Lib.ctz; rw [if_neg (by omega)]
  rw [e]
  refine ⟨⟨m, ?_⟩, hk⟩
  have hx : x = ((x.toNat : Nat) : Int) := by omega
  have h3 := congrArg (fun k : Nat => (k : Int)) hm
  simp only [Int.natCast_mul, Int.natCast_pow, Int.natCast_add, Int.natCast_one, Int.cast_ofNat_Int] at h3
  rw [← hx] at h3
  exact h3
theorem low_val {X : Nat → Int} {n k t : Nat} (hX : WF X n) (hk : k < n) (h0 : ∀ i, i < k → X i = 0) (h : LowZ (X k) t) (ht : t < 64) : LowZ (val X n) (64 * k + t) := by
  obtain ⟨q, hq⟩ := h
  have e := val_split X hk
  have z : val X k = 0 := val_zeros h0
  rw [z, Int.zero_add, hq, BB_pow, BB_split (Nat.le_of_lt ht)] at e
  obtain ⟨d, hd⟩ : ∃ d, 64 - t = d + 1 := ⟨63 - t, by omega⟩
  refine ⟨q + 2 ^ d * val (fun i => X (k + 1 + i)) (n - k - 1), ?_⟩
  rw [e, hd, Int.pow_add 2 (64 * k) t, Int.pow_succ 2 d]
  generalize val (fun i => X (k + 1 + i)) (n - k - 1) = V
  generalize (2 : Int) ^ (64 * k) = A
  generalize (2 : Int) ^ t = B
  generalize (2 : Int) ^ d = C
  have h4 : B * (2 * q + 1) + B * (C * 2) * V = B * (2 * (q + C * V) + 1) := by
    rw [Int.mul_assoc B, ← Int.mul_add, Int.mul_comm C 2, Int.mul_assoc 2 C V]
    congr 1
    omega
  rw [h4, Int.mul_assoc A B]
theorem LowZ.mod {M : Int} {t u : Nat} (h : LowZ M t) (hu : M % 2 ^ u = 0) : u ≤ t := by
  rcases Nat.lt_or_ge t u with h1 | h1
  · obtain ⟨q, hq⟩ := h
    obtain ⟨d, rfl⟩ : ∃ d, u = t + (d + 1) := ⟨u - t - 1, by omega⟩
    rw [Int.pow_add, hq, Int.mul_emod_mul_of_pos _ _ (Int.pow_pos (by decide)), Int.pow_succ] at hu
    have hp : (0 : Int) < 2 ^ t := Int.pow_pos (by decide)
    rcases Int.mul_eq_zero.1 hu with h3 | h3
    · omega
    · have h4 := Int.emod_emod_of_dvd (2 * q + 1) (show (2 : Int) ∣ 2 ^ d * 2 from ⟨2 ^ d, Int.mul_comm _ _⟩)
      rw [h3] at h4
      omega
  · exact h1
theorem LowZ.lt {M : Int} {t L : Nat} (h : LowZ M t) (h0 : 0 < M) (hL : M < 2 ^ L) : t < L := by
  obtain ⟨q, hq⟩ := h
  rcases Nat.lt_or_ge t L with h1 | h1
  · exact h1
  · obtain ⟨d, rfl⟩ : ∃ d, t = L + d := ⟨t - L, by omega⟩
    have hp : (0 : Int) < 2 ^ L := Int.pow_pos (by decide)
    have hd : (0 : Int) < 2 ^ d := Int.pow_pos (by decide)
    rw [Int.pow_add, Int.mul_assoc] at hq
    have hk : 0 < 2 ^ d * (2 * q + 1) := by
      apply Int.pos_of_mul_pos_right (a := 2 ^ L) _ hp
      rw [← hq]; exact h0
    have := Int.mul_le_mul_of_nonneg_left (show 1 ≤ 2 ^ d * (2 * q + 1) by omega) (Int.le_of_lt hp)
    omega
theorem exact_round {neg : Bool} {M md : Int} {L P : Nat} (hP : 1 ≤ P) (hL : 1 ≤ L) (h1 : 2 ^ (L - 1) ≤ M) (h2 : M < 2 ^ L) (h : M % 2 ^ (L - P) = 0) : ∃ m t, Rounded neg M 1 P md m t 0 ∧ DyEq m t M 0 := by
  by_cases hle : L ≤ P
  · refine ⟨_, _, rounded_exact hP hle h1 h2 hL, 0, P - L, by omega, by simp⟩
  · obtain ⟨c, hc⟩ : ∃ c, L - P = c := ⟨_, rfl⟩
    rw [hc] at h
    have hcp : (0 : Int) < 2 ^ c := Int.pow_pos (by decide)
    have e : M = M / 2 ^ c * 2 ^ c := by
      have := Int.emod_add_mul_ediv M (2 ^ c)
      rw [h, Int.zero_add, Int.mul_comm] at this
      exact this.symm
    have q1 : 2 ^ (P - 1) ≤ M / 2 ^ c := by
      rw [Int.le_ediv_iff_mul_le hcp, ← Int.pow_add, show P - 1 + c = L - 1 by omega]
      exact h1
    have q2 : M / 2 ^ c < 2 ^ P := by
      rw [Int.ediv_lt_iff_lt_mul hcp, ← Int.pow_add, show P + c = L by omega]
      exact h2
    have hr := (rounded_exact (neg := neg) (md := md) (p := P) hP (Nat.le_refl P) q1 q2 hP).shift (c := c) (d := 0)
    rw [← e, Nat.sub_self, Int.pow_zero, Int.mul_one, Int.mul_one] at hr
    refine ⟨_, _, hr, c, 0, by omega, ?_⟩
    rw [Int.pow_zero, Int.mul_one]
    exact e.symm
theorem FVal.exact {v : FV} {Y : Nat → Int} {neg : Bool} {M E md : Int} {L P : Nat} (h : FVal v Y neg M 1 E P md) (hP : 1 ≤ P) (hL : 1 ≤ L) (h1 : 2 ^ (L - 1) ≤ M) (h2 : M < 2 ^ L) (hz : M % 2 ^ (L - P) = 0) : v.fm = 1 ∧ v.ac = 0 ∧ DyEq (val Y v.n) (v.e - 64 * v.n) M E := by
  obtain ⟨h0, m, t, hR, hD⟩ := h
  obtain ⟨m', t', hR', hD'⟩ := exact_round (neg := neg) (md := md) hP hL h1 h2 hz
  obtain ⟨rfl, rfl, ha⟩ := hR.unique (by decide) hP hR'
  refine ⟨h0, ha, hD.trans ?_⟩
  obtain ⟨a, b, e1, e2⟩ := hD'
  exact ⟨a, b, by omega, e2⟩
theorem dy_top {A B e f : Int} {x y : Nat} (hx : 1 ≤ x) (hy : 1 ≤ y) (a1 : 2 ^ (x - 1) ≤ A) (a2 : A < 2 ^ x) (b1 : 2 ^ (y - 1) ≤ B) (b2 : B < 2 ^ y) (h : DyEq A e B f) : e + x = f + y := by
  obtain ⟨a, b, h1, h2⟩ := h
  have ha : (0 : Int) < 2 ^ a := Int.pow_pos (by decide)
  have hb : (0 : Int) < 2 ^ b := Int.pow_pos (by decide)
  have p1 : (2 : Int) ^ (x - 1 + a) < 2 ^ (y + b) := by
    rw [Int.pow_add, Int.pow_add]
    have := Int.mul_le_mul_of_nonneg_right a1 (Int.le_of_lt ha)
    have := Int.mul_lt_mul_of_pos_right b2 hb
    omega
  have p2 : (2 : Int) ^ (y - 1 + b) < 2 ^ (x + a) := by
    rw [Int.pow_add, Int.pow_add]
    have := Int.mul_le_mul_of_nonneg_right b1 (Int.le_of_lt hb)
    have := Int.mul_lt_mul_of_pos_right a2 ha
    omega
  have r1 := pow_lt_of p1
  have r2 := pow_lt_of p2
  omega
theorem low_same {A B : Int} {x y t : Nat} (hA : 0 < A) (ht : LowZ B t) (hty : t ≤ y) (h : DyEq A ((y : Int) - x) B 0) : y ≤ x + t ∧ A / 2 ^ (x + t - y) = B / 2 ^ t := by
  obtain ⟨a, b, h1, h2⟩ := h
  obtain ⟨q, hq⟩ := ht
  have hl : LowZ (A * 2 ^ a) (t + b) := ⟨q, by rw [h2, hq, Int.pow_add]; generalize (2 : Int) ^ t = u; generalize (2 : Int) ^ b = v; rw [Int.mul_assoc, Int.mul_comm _ v, ← Int.mul_assoc]⟩
  have hab : a ≤ t + b := hl.mod (Int.mul_emod_left _ _)
  have hd : t + b - a = x + t - y := by omega
  refine ⟨by omega, ?_⟩
  have ha : (0 : Int) < 2 ^ a := Int.pow_pos (by decide)
  have htp : (0 : Int) < 2 ^ t := Int.pow_pos (by decide)
  have hsp : (0 : Int) < 2 ^ (x + t - y) := Int.pow_pos (by decide)
  have e : A = 2 ^ (x + t - y) * (2 * q + 1) := by
    obtain ⟨r, hr⟩ := hl
    have hr2 : A * 2 ^ a = 2 ^ (x + t - y) * (2 * q + 1) * 2 ^ a := by
      rw [h2, hq, ← hd]
      have : (2 : Int) ^ (t + b - a) * 2 ^ a = 2 ^ t * 2 ^ b := by rw [← Int.pow_add, ← Int.pow_add, show t + b - a + a = t + b by omega]
      rw [Int.mul_assoc (2 ^ (t + b - a)), Int.mul_comm _ (2 ^ a), ← Int.mul_assoc, this]
      rw [Int.mul_assoc, Int.mul_assoc, Int.mul_comm (2 ^ b)]
    exact Int.eq_of_mul_eq_mul_right (by omega) hr2
  rw [e, hq, Int.mul_ediv_cancel_left _ (by omega), Int.mul_ediv_cancel_left _ (by omega)]
theorem ipow_le {b : Int} (hb : 1 ≤ b) {i j : Nat} (h : i ≤ j) : b ^ i ≤ b ^ j := by
  obtain ⟨d, rfl⟩ : ∃ d, j = i + d := ⟨j - i, by omega⟩
  rw [Int.pow_add]
  have h1 : (0 : Int) < b ^ i := Int.pow_pos (by omega)
  have h2 : (0 : Int) < b ^ d := Int.pow_pos (by omega)
  have := Int.mul_le_mul_of_nonneg_left (show 1 ≤ b ^ d by omega) (Int.le_of_lt h1)
  omega
theorem words_few {X : Nat → Int} {n k : Nat} (hX : WF X n) (hN : Norm X n) (h : val X n < 2 ^ (64 * k)) : n ≤ k := by
  rcases Nat.lt_or_ge k n with h1 | h1
  · exfalso
    rcases hN with h2 | h2
    · omega
    · have h3 := val_split X (show n - 1 < n by omega)
      have h4 := val_nonneg (hX.le (show n - 1 ≤ n by omega))
      have h5 := hX (n - 1) (by omega)
      have h6 : val (fun i => X (n - 1 + 1 + i)) (n - (n - 1) - 1) = 0 := by rw [show n - (n - 1) - 1 = 0 by omega]; rfl
      rw [h6, Int.mul_zero, Int.add_zero, BB_pow] at h3
      have h7 : (2 : Int) ^ (64 * k) ≤ 2 ^ (64 * (n - 1)) := ipow_le (by omega) (by omega)
      have h8 : (0 : Int) < 2 ^ (64 * (n - 1)) := Int.pow_pos (by omega)
      have h9 := Int.mul_le_mul_of_nonneg_left (show 1 ≤ X (n - 1) by have := h5.1; omega) (Int.le_of_lt h8)
      omega
  · exact h1
end Go.Proofs.YtmgfajamanakcaaGreatDoor
