/- Part of the proof of FnParse: what the functions that it reaches do, as contracts. Conditions: those that each theorem names. -/
import Derived.Test.YtmgfajamanakcaaGreatDoorR12
import Derived.Outline
import Derived.Test.YtmgfajamanakcaaGreatDoorR03
import Derived.Test.YtmgfajamanakcaaGreatDoorR11
import Derived.Deep.LoopGhost
namespace Go.Proofs.YtmgfajamanakcaaGreatDoor
set_option linter.unusedVariables false
set_option linter.unusedSimpArgs false
theorem BB_two : BB = 2 ^ 64 := by decide
theorem BB_pow (j : Nat) : BB ^ j = 2 ^ (64 * j) := by
  rw [BB_two, ← Int.pow_mul]
theorem val_split (X : Nat → Int) {n j : Nat} (hj : j < n) : val X n = val X j + BB ^ j * (X j + BB * val (fun i => X (j + 1 + i)) (n - j - 1)) := by
  obtain ⟨k, rfl⟩ : ∃ k, n = j + (1 + k) := ⟨n - j - 1, by omega⟩
  rw [val_add, val_add, val_one]
  simp only [Nat.add_zero]
  rw [show j + (1 + k) - j - 1 = k by omega, Int.pow_succ, Int.pow_zero, Int.one_mul]
  rw [val_congr (X := fun i => X (j + (1 + i))) (Y := fun i => X (j + 1 + i)) (fun i hi => by rw [Nat.add_assoc])]
theorem two_splitP (i : Nat) : (2 : Int) ^ i = BB ^ (i / 64) * 2 ^ (i % 64) := by
  rw [BB_pow, ← Int.pow_add]
  congr 1; omega
theorem BB_split {t : Nat} (ht : t ≤ 64) : BB = 2 ^ t * 2 ^ (64 - t) := by
  rw [BB_two, ← Int.pow_add]; congr 1; omega
theorem add_mul_div {a b P k : Int} (h0 : 0 ≤ a) (h1 : a < P) : (a + P * b) / (P * k) = b / k := by
  have hP : 0 < P := by omega
  rw [← Int.ediv_ediv_of_nonneg (Int.le_of_lt hP), Int.add_mul_ediv_left _ _ (by omega), Int.ediv_eq_zero_of_lt h0 h1, Int.zero_add]
theorem add_mul_mod {a b P k : Int} (h0 : 0 ≤ a) (h1 : a < P) (hk : 0 < k) : (a + P * b) % (P * k) = a + P * (b % k) := by
  have hP : 0 < P := by omega
  have e1 := Int.emod_add_mul_ediv (a + P * b) (P * k)
  rw [add_mul_div h0 h1] at e1
  have e2 := Int.emod_add_mul_ediv b k
  have e3 : P * b = P * (b % k) + P * k * (b / k) := by
    rw [Int.mul_assoc, ← Int.mul_add, e2]
  omega
theorem val_div_bits {X : Nat → Int} {n i : Nat} (hX : WF X n) (hi : i / 64 < n) : val X n / 2 ^ i = X (i / 64) / 2 ^ (i % 64) + 2 ^ (64 - i % 64) * val (fun t => X (i / 64 + 1 + t)) (n - i / 64 - 1) := by
  rw [val_split X hi, two_splitP, add_mul_div (val_nonneg (hX.le (by omega))) (val_lt (hX.le (by omega)))]
  have e := BB_split (t := i % 64) (by omega)
  have hp : (0 : Int) < 2 ^ (i % 64) := Int.pow_pos (by decide)
  generalize val (fun t => X (i / 64 + 1 + t)) (n - i / 64 - 1) = R
  rw [e, Int.mul_assoc, Int.add_mul_ediv_left _ _ (by omega)]
theorem val_mod_bits {X : Nat → Int} {n i : Nat} (hX : WF X n) (hi : i / 64 < n) : val X n % 2 ^ i = val X (i / 64) + BB ^ (i / 64) * (X (i / 64) % 2 ^ (i % 64)) := by
  have hp : (0 : Int) < 2 ^ (i % 64) := Int.pow_pos (by decide)
  rw [val_split X hi, two_splitP, add_mul_mod (val_nonneg (hX.le (by omega))) (val_lt (hX.le (by omega))) hp]
  have e := BB_split (t := i % 64) (by omega)
  generalize val (fun t => X (i / 64 + 1 + t)) (n - i / 64 - 1) = R
  rw [e, Int.mul_assoc, Int.add_mul_emod_self_left]
theorem val_bit {X : Nat → Int} {n i : Nat} (hX : WF X n) (hi : i / 64 < n) : X (i / 64) / 2 ^ (i % 64) % 2 = val X n / 2 ^ i % 2 := by
  rw [val_div_bits hX hi]
  obtain ⟨k, hk⟩ : ∃ k, 64 - i % 64 = k + 1 := ⟨63 - i % 64, by omega⟩
  rw [hk, Int.pow_succ]
  generalize val (fun t => X (i / 64 + 1 + t)) (n - i / 64 - 1) = R
  rw [Int.mul_comm ((2 : Int) ^ k) 2, Int.mul_assoc, Int.add_mul_emod_self_left]
theorem val_eq_zero {X : Nat → Int} {n : Nat} (hX : WF X n) : val X n = 0 ↔ ∀ k, k < n → X k = 0 := by
  constructor
  · intro h
    induction n with
    | zero => intro k hk; omega
    | succ n ih =>
      simp only [val] at h
      have h1 := val_nonneg (hX.le (show n ≤ n + 1 by omega))
      have h2 := (hX n (by omega)).1
      have h3 := Int.mul_nonneg h2 (Int.le_of_lt (BBn_pos n))
      have h4 : X n * BB ^ n = 0 := by omega
      have h5 : X n = 0 := by
        rcases Int.mul_eq_zero.1 h4 with h | h
        · exact h
        · have := BBn_pos n; omega
      intro k hk
      rcases Nat.lt_or_ge k n with hh | hh
      · exact ih (hX.le (by omega)) (by omega) k hh
      · obtain rfl : k = n := by omega
        exact h5
  · exact val_zeros
theorem val_low {X : Nat → Int} {n i : Nat} (hX : WF X n) (hi : i / 64 < n) : val X n % 2 ^ i = 0 ↔ (∀ k, k < i / 64 → X k = 0) ∧ X (i / 64) % 2 ^ (i % 64) = 0 := by
  rw [val_mod_bits hX hi, ← val_eq_zero (hX.le (show i / 64 ≤ n by omega))]
  have h1 := val_nonneg (hX.le (show i / 64 ≤ n by omega))
  have h2 := Int.emod_nonneg (X (i / 64)) (show (2 : Int) ^ (i % 64) ≠ 0 by have : (0 : Int) < 2 ^ (i % 64) := Int.pow_pos (by decide); omega)
  have h3 := Int.mul_nonneg (Int.le_of_lt (BBn_pos (i / 64))) h2
  constructor
  · intro h
    refine ⟨by omega, ?_⟩
    have h4 : BB ^ (i / 64) * (X (i / 64) % 2 ^ (i % 64)) = 0 := by omega
    rcases Int.mul_eq_zero.1 h4 with h | h
    · have := BBn_pos (i / 64); omega
    · exact h
  · rintro ⟨a, b⟩
    rw [a, b]; simp
theorem val_drop {X : Nat → Int} {m k : Nat} (hX : WF X m) (hk : k ≤ m) : val (fun i => X (k + i)) (m - k) = val X m / BB ^ k := by
  obtain ⟨d, rfl⟩ : ∃ d, m = k + d := ⟨m - k, by omega⟩
  rw [val_add, Int.add_mul_ediv_left _ _ (by have := BBn_pos k; omega), Int.ediv_eq_zero_of_lt (val_nonneg (hX.le (by omega))) (val_lt (hX.le (by omega))), Int.zero_add, Nat.add_sub_cancel_left]
theorem top_bits {X : Nat → Int} {m n p : Nat} (hX : WF X m) (hn : n ≤ m) (hp : p ≤ 64 * n) : val (fun i => X (m - n + i)) n / 2 ^ (64 * n - p) = val X m / 2 ^ (64 * m - p) := by
  have e := val_drop (k := m - n) hX (by omega)
  rw [show m - (m - n) = n by omega] at e
  rw [e, BB_pow, Int.ediv_ediv_of_nonneg (Int.le_of_lt (Int.pow_pos (by decide))), ← Int.pow_add]
  congr 2; omega
theorem lftS_bits {M : Int} {r : Nat} {sb : Bool} (hM : 0 ≤ M) : lftS (M % 2 ^ (r + 1)) (2 ^ r) sb = (if M / 2 ^ r % 2 = 0 then 0 else 2) + (if M % 2 ^ r = 0 ∧ sb = false then 0 else 1) := by
  have hp : (0 : Int) < 2 ^ r := Int.pow_pos (by decide)
  have e1 := Int.emod_add_mul_ediv M (2 ^ r)
  have e2 := Int.emod_add_mul_ediv (M / 2 ^ r) 2
  have e3 : M % 2 ^ (r + 1) = M % 2 ^ r + 2 ^ r * (M / 2 ^ r % 2) := by
    rw [Int.pow_succ]
    have := add_mul_mod (a := M % 2 ^ r) (b := M / 2 ^ r) (P := 2 ^ r) (k := 2) (Int.emod_nonneg _ (by omega)) (Int.emod_lt_of_pos _ hp) (by decide)
    rw [e1] at this
    exact this
  have a0 := Int.emod_nonneg M (show (2 : Int) ^ r ≠ 0 by omega)
  have a1 := Int.emod_lt_of_pos M hp
  rw [e3]
  unfold lftS
  rcases Int.emod_two_eq (M / 2 ^ r) with h | h
  · rw [h, if_pos rfl, Int.mul_zero, Int.add_zero, Int.zero_add]
    by_cases hz : M % 2 ^ r = 0 ∧ sb = false
    · rw [if_pos hz, if_pos hz]
    · rw [if_neg hz, if_neg hz, if_pos a1]
  · rw [h, if_neg (show ¬ ((1 : Int) = 0) by decide), Int.mul_one]
    rw [if_neg (show ¬ (M % 2 ^ r + 2 ^ r = 0 ∧ sb = false) from fun h => by have := h.1; omega), if_neg (show ¬ (M % 2 ^ r + 2 ^ r < 2 ^ r) by omega)]
    by_cases hz : M % 2 ^ r = 0 ∧ sb = false
    · rw [if_pos hz, if_pos ⟨by omega, hz.2⟩]; rfl
    · rw [if_neg hz, if_neg (by rintro ⟨h, h'⟩; exact hz ⟨by omega, h'⟩)]; rfl
theorem low_cut {M : Int} {k : Nat} : M - M % 2 ^ k = M / 2 ^ k * 2 ^ k := by
  have := Int.emod_add_mul_ediv M (2 ^ k)
  rw [Int.mul_comm] at this; omega
theorem inc_top {Y Z : Nat → Int} {n p : Nat} {c : Int} (hY : WF Y n) (hZ : WF Z n) (hp : p ≤ 64 * n) (hc : c = 0 ∨ c = 1) (h : val Z n + c * BB ^ n = val Y n + 2 ^ (64 * n - p)) :
    (c = 0 ∧ val Z n / 2 ^ (64 * n - p) = val Y n / 2 ^ (64 * n - p) + 1 ∧ val Y n / 2 ^ (64 * n - p) + 1 < 2 ^ p) ∨ (c = 1 ∧ val Z n / 2 ^ (64 * n - p) = 0 ∧ val Y n / 2 ^ (64 * n - p) + 1 = 2 ^ p) := by
  obtain ⟨t, ht⟩ : ∃ t, 64 * n - p = t := ⟨_, rfl⟩
  rw [ht] at h ⊢
  have hP : (0 : Int) < 2 ^ t := Int.pow_pos (by decide)
  have eB : BB ^ n = 2 ^ t * 2 ^ p := by rw [BB_pow, ← Int.pow_add]; rw [show t + p = 64 * n by omega]
  have a1 := val_lt hY
  have a2 := val_lt hZ
  have a3 := val_nonneg hZ
  have a4 := val_nonneg hY
  rw [eB] at a1 a2 h
  have d1 : (val Y n + 2 ^ t) / 2 ^ t = val Y n / 2 ^ t + 1 := by
    have := Int.add_mul_ediv_left (val Y n) 1 (show (2 : Int) ^ t ≠ 0 by omega)
    rwa [Int.mul_one] at this
  have d2 : val Z n / 2 ^ t < 2 ^ p := Int.ediv_lt_of_lt_mul hP (by rw [Int.mul_comm]; exact a2)
  have d3 : val Y n / 2 ^ t < 2 ^ p := Int.ediv_lt_of_lt_mul hP (by rw [Int.mul_comm]; exact a1)
  rw [← h] at d1
  rcases hc with rfl | rfl
  · left
    rw [Int.zero_mul, Int.add_zero] at d1
    exact ⟨rfl, d1, by omega⟩
  · right
    rw [Int.one_mul, Int.add_mul_ediv_left _ _ (by omega)] at d1
    have := Int.ediv_nonneg a3 (Int.le_of_lt hP)
    exact ⟨rfl, by omega, by omega⟩
def rq (M : Int) (L p : Nat) : Int := M / 2 ^ (L - p)
def rl (M : Int) (L p : Nat) (sb : Bool) : Int := lftS (M % 2 ^ (L - p)) (2 ^ (L - p - 1)) sb
def rinc (neg : Bool) (M : Int) (L p : Nat) (md : Int) (sb : Bool) : Bool := incS neg (rq M L p % 2 == 1) (rl M L p sb) md
def rm (neg : Bool) (M : Int) (L p : Nat) (md : Int) (sb : Bool) : Int := rq M L p + (if rinc neg M L p md sb then 1 else 0)
def racc (neg : Bool) (M : Int) (L p : Nat) (md : Int) (sb : Bool) : Int := accS neg (rinc neg M L p md sb) (rl M L p sb)
theorem rq_range {M : Int} {L p : Nat} (hp : 1 ≤ p) (hL : p < L) (h1 : 2 ^ (L - 1) ≤ M) (h2 : M < 2 ^ L) : 2 ^ (p - 1) ≤ rq M L p ∧ rq M L p < 2 ^ p := by
  have hP : (0 : Int) < 2 ^ (L - p) := Int.pow_pos (by decide)
  unfold rq
  constructor
  · apply Int.le_ediv_of_mul_le hP
    rw [← Int.pow_add, show p - 1 + (L - p) = L - 1 by omega]; exact h1
  · apply Int.ediv_lt_of_lt_mul hP
    rw [← Int.pow_add, show p + (L - p) = L by omega]; exact h2
theorem rounded_of {neg : Bool} {N D M md : Int} {L p : Nat} {sb : Bool} (hD : 0 < D) (hM : M = N / D) (hsb : sb = true ↔ N % D ≠ 0) (hp : 1 ≤ p) (hL : p < L) (h1 : 2 ^ (L - 1) ≤ M) (h2 : M < 2 ^ L) :
    Rounded neg N D p md (rm neg M L p md sb) ((L - p : Nat) : Int) (racc neg M L p md sb) := by
  obtain ⟨r1, r2⟩ := rq_range hp hL h1 h2
  obtain ⟨k, hk⟩ : ∃ k, L - p = k + 1 := ⟨L - p - 1, by omega⟩
  have hc := cls_nested (k := k) hD hM hsb
  refine ⟨rq M L p, rl M L p sb, ⟨0, L - p, by simp, ?_, r1, r2⟩, rfl, rfl⟩
  unfold rq rl
  rw [Int.pow_zero, Int.mul_one, hk, show k + 1 - 1 = k by omega]
  exact hc
theorem rounded_exact {neg : Bool} {M md : Int} {p : Nat} {L : Nat} (hp : 1 ≤ p) (hL : L ≤ p) (h1 : 2 ^ (L - 1) ≤ M) (h2 : M < 2 ^ L) (h0 : 1 ≤ L) :
    Rounded neg M 1 p md (M * 2 ^ (p - L)) (-((p - L : Nat) : Int)) 0 := by
  have hP : (0 : Int) < 2 ^ (p - L) := Int.pow_pos (by decide)
  have hz : incS neg (M * 2 ^ (p - L) % 2 == 1) 0 md = false := by
    unfold incS
    split
    · rfl
    · split
      · rfl
      · split
        · rfl
        · split
          · rfl
          · split
            · rfl
            · rfl
  refine ⟨M * 2 ^ (p - L), 0, ⟨p - L, 0, by simp, ⟨?_, ?_⟩, ?_, ?_⟩, ?_, ?_⟩
  · rw [Int.pow_zero, Int.mul_one, Int.ediv_one]
  · rw [Int.pow_zero, Int.mul_one, Int.emod_one]; rfl
  · have := Int.mul_le_mul_of_nonneg_right h1 (Int.le_of_lt hP)
    rw [← Int.pow_add, show L - 1 + (p - L) = p - 1 by omega] at this
    exact this
  · have := Int.mul_lt_mul_of_pos_right h2 hP
    rw [← Int.pow_add, show L + (p - L) = p by omega] at this
    exact this
  · rw [hz]; simp
  · rw [hz]; rfl
end Go.Proofs.YtmgfajamanakcaaGreatDoor
namespace Go.Proofs.YtmgfajamanakcaaGreatDoor
set_option linter.unusedVariables false
set_option linter.unusedSimpArgs false
open Go.RowKit
set_option maxRecDepth 100000
structure FNum (w : World) (b : Nat) (v : FV) (X : Nat → Int) : Prop where
  c : FltC w b v
  z : ZOK w v.a v.c
  ap : ∀ b' o, v.a = some ⟨b', o, none⟩ → b' ≠ b
  p : 1 ≤ v.p ∧ v.p < 1048576
  md : 0 ≤ v.md ∧ v.md ≤ 5
  fm : v.fm = 0 ∨ v.fm = 1 ∨ v.fm = 2
  ex : -2147483648 ≤ v.e ∧ v.e ≤ 2147483647
  fin : v.fm = 1 → 0 < v.n ∧ v.n ≤ v.c ∧ v.n < 65536 ∧ Rd w v.a v.n X ∧ WF X v.n ∧ 9223372036854775808 ≤ X (v.n - 1)
def zF (b : Nat) (v : FV) : Zone := fun b' o => zRow b 0 7 b' o ∨ zAddr v.a v.c b' o
theorem FNum.chg {Z : Zone} {w w' : World} {b : Nat} {v : FV} {X : Nat → Int} (h : FNum w b v X) (k : Chg Z w w') (hz : ∀ b' o, zF b v b' o → ¬ Z b' o) : FNum w' b v X := by
  refine ⟨h.c.chg k (fun o ho => hz b o (Or.inl ⟨rfl, by omega, by omega⟩)), h.z.chg k (fun b' o hh => hz b' o (Or.inr hh)), h.ap, h.p, h.md, h.fm, h.ex, fun e => ?_⟩
  obtain ⟨h1, h2, h3, h4, h5, h6⟩ := h.fin e
  refine ⟨h1, h2, h3, ?_, h5, h6⟩
  rcases h4 with hh | ⟨b', o, e', hw⟩
  · exact Or.inl hh
  · exact Or.inr ⟨b', o, e', hw.chg k (fun i hi => hz b' (o + i) (Or.inr ⟨o, e', by omega, by omega⟩))⟩
theorem FNum.words {w : World} {b : Nat} {v : FV} {X : Nat → Int} (h : FNum w b v X) (e : v.fm = 1) : ∃ bm om, v.a = some ⟨bm, om, none⟩ ∧ Words w bm om v.n X ∧ Room w bm om v.c ∧ PB w bm ∧ bm ≠ b := by
  obtain ⟨h1, h2, h3, h4, h5, h6⟩ := h.fin e
  rcases h4 with hh | ⟨bm, om, e', hw⟩
  · omega
  · rcases h.z with ⟨e2, _⟩ | ⟨b2, o2, e2, hp, hr, _⟩
    · rw [e2] at e'; cases e'
    · rw [e2] at e'; injection e' with e'; injection e' with e3 e4; subst e3; subst e4
      exact ⟨b2, o2, e2, hw, hr, hp, h.ap _ _ e2⟩
theorem and_one_u (k : Nat) (h : k < 18446744073709551616) : bits BinOp.and IntKind.u64 (k : Int) 1 = ((k % 2 : Nat) : Int) := by
  have h1 : (BitVec.ofInt 64 1).toNat = 2 ^ 1 - 1 := by decide
  have key : (BitVec.ofInt 64 (k : Int) &&& BitVec.ofInt 64 1).toNat = ((k : Int) % ((2 ^ 64 : Nat) : Int)).toNat % 2 ^ 1 := by
    rw [BitVec.toNat_and, BitVec.toNat_ofInt, h1, Nat.and_two_pow_sub_one_eq_mod]
  show IntKind.u64.wrap ((BitVec.ofInt 64 (k : Int) &&& BitVec.ofInt 64 1).toNat : Nat) = _
  rw [key, wrap_u64]
  omega
theorem and_one_int {x : Int} (h : U64 x) : bits BinOp.and IntKind.u64 x 1 = x % 2 := by
  obtain ⟨k, rfl⟩ := Int.eq_ofNat_of_zero_le h.1
  have := and_one_u k (by have := h.2; omega)
  rw [this]; omega
def bitOf (X : Nat → Int) (n i : Nat) : Int := if i / 64 < n then X (i / 64) / 2 ^ (i % 64) % 2 else 0
theorem bit_any (a : Option Addr) (n c i : Nat) (X : Nat → Int) (w : World) (hr : Rd w a n X) (hX : WF X n) (hn : n < 1099511627776) (hi : i < 1099511627776) :
    Calls Tryz.prog 197 #[.slice a n c, .int .u64 (i : Int)] w fun e w' => e = .returned (.int .u64 (bitOf X n i)) ∧ w = w' := by
  have q1 : (i : Int).tdiv 64 = ((i / 64 : Nat) : Int) := by
    rw [Int.tdiv_eq_ediv_of_nonneg (by omega)]; omega
  have q2 : (i : Int).tmod 64 = ((i % 64 : Nat) : Int) := by
    rw [Int.tmod_eq_emod_of_nonneg (by omega)]; omega
  obtain ⟨j, hj⟩ : ∃ j, i / 64 = j := ⟨_, rfl⟩
  obtain ⟨r, hr2⟩ : ∃ r, i % 64 = r := ⟨_, rfl⟩
  rw [hj] at q1
  rw [hr2] at q2
  have q3 : IntKind.u64.wrap (n : Int) = (n : Int) := by rw [wrap_u64]; omega
  by_cases hlt : j < n
  · have d1 : decide ((n : Int) ≤ (j : Int)) = false := by simp; omega
    have d2 : decide (n ≤ j) = false := by simp; omega
    obtain ⟨b, o, rfl, hw⟩ : ∃ b o, a = some ⟨b, o, none⟩ ∧ Words w b o n X := by
      rcases hr with h | h
      · omega
      · exact h
    have hc := hw j hlt
    obtain ⟨x, hx⟩ : ∃ x, X j = x := ⟨_, rfl⟩
    rw [hx] at hc
    have f1 : (0 : Int) ≤ (j : Int) := by omega
    have f2 : (j : Int) < (n : Int) := by omega
    have HB : Hid (bits BinOp.and IntKind.u64 (x / 2 ^ r) 1 = bitOf X n i) := by
      unfold Hid bitOf
      rw [hj, hr2, if_pos hlt, hx]
      exact and_one_int (U64_shr (by rw [← hx]; exact hX j hlt))
    clear hr hX hw hx
    go_enter Tryz.func197, Tryz.ntmps197
    go_wp2_with fail
    go_ret
    exact ⟨by rw [← HB.out]; rfl, rfl⟩
  · have d1 : decide ((n : Int) ≤ (j : Int)) = true := by simp; omega
    have d2 : decide (n ≤ j) = true := by simp; omega
    have HB : Hid (bitOf X n i = 0) := by unfold Hid bitOf; rw [if_neg (by omega)]
    clear hr hX
    go_enter Tryz.func197, Tryz.ntmps197
    go_wp2_with fail
    go_ret
    exact ⟨by rw [HB.out]; rfl, rfl⟩
end Go.Proofs.YtmgfajamanakcaaGreatDoor
namespace Go.Proofs.YtmgfajamanakcaaGreatDoor
set_option linter.unusedVariables false
set_option linter.unusedSimpArgs false
structure LInvD (U0 V : Nat → Int) (n m j : Nat) (S : Int) (U : Nat → Int) : Prop where
  wf : WF U (m + n + 1)
  hi : ∀ i, i < m + n + 1 → j + n ≤ i → U i = 0
  sum : val U0 (m + n + 1) = S * val V n + val U (m + n + 1)
  lt : val (fun i => U (j + i)) n < val V n
theorem LInvD.start {U V : Nat → Int} {n m : Nat} (hU : WF U (m + n)) (h0 : U (m + n) = 0) (hn : 0 < n) (hV : WF V n) (htop : U (m + n - 1) < V (n - 1)) : LInvD U V n m (m + 1) 0 U := by
  have hw : WF U (m + n + 1) := fun i hi => by
    by_cases e : i = m + n
    · rw [e, h0]; exact ⟨by decide, by decide⟩
    · exact hU i (by omega)
  refine ⟨hw, fun i h1 h2 => by omega, by omega, ?_⟩
  obtain ⟨k, rfl⟩ : ∃ k, n = k + 1 := ⟨n - 1, by omega⟩
  have e1 : val (fun i => U (m + 1 + i)) (k + 1) = val (fun i => U (m + 1 + i)) k := val_top (by omega) (fun i h1 h2 => by
    obtain rfl : i = k := by omega
    rw [← h0]; congr 1; omega)
  rw [e1]
  have e2 : val V (k + 1) = val V k + BB ^ k * V k := by
    rw [val_add, val_one]; rfl
  have a1 := val_nonneg (hV.le (show k ≤ k + 1 by omega))
  have a2 : val (fun i => U (m + 1 + i)) k < BB ^ k := val_lt (fun i hi => hw _ (by omega))
  have a3 : 1 ≤ V k := by
    have := (hU (m + (k + 1) - 1) (by omega)).1
    simp only [Nat.add_sub_cancel] at htop
    omega
  have a4 := Int.mul_le_mul_of_nonneg_left a3 (Int.le_of_lt (BBn_pos k))
  omega
theorem val_cut (U : Nat → Int) (j n m : Nat) (hj : j ≤ m) (hz : ∀ i, i < m + n + 1 → j + n + 1 ≤ i → U i = 0) : val U (m + n + 1) = val U j + BB ^ j * val (fun i => U (j + i)) (n + 1) := by
  have h := val_top (X := U) (show j + (n + 1) ≤ m + n + 1 by omega) (fun i h1 h2 => hz i h2 (by omega))
  rw [h, val_add]
theorem LInvD.window {U0 V U : Nat → Int} {n m j : Nat} {S : Int} (h : LInvD U0 V n m (j + 1) S U) (hj : j ≤ m) : val (fun i => U (j + i)) (n + 1) < val V n * BB := by
  have e : val (fun i => U (j + i)) (n + 1) = U j + BB * val (fun i => U (j + 1 + i)) n := by
    rw [Nat.add_comm n 1, val_add, val_one]
    simp only [Nat.add_zero, Int.pow_succ, Int.pow_zero]
    rw [val_congr (X := fun i => U (j + (1 + i))) (Y := fun i => U (j + 1 + i)) (fun i hi => by rw [Nat.add_assoc])]
    grind
  have h1 := (h.wf j (by omega)).2
  have h2 := h.lt
  have h3 := Int.mul_le_mul_of_nonneg_right (show val (fun i => U (j + 1 + i)) n + 1 ≤ val V n by omega) (show (0:Int) ≤ BB by decide)
  rw [e, Int.mul_comm BB]
  rw [Int.add_mul] at h3
  unfold BB at *
  omega
theorem LInvD.step {U0 V U U' : Nat → Int} {n m j : Nat} {S : Int} (h : LInvD U0 V n m (j + 1) S U) (hj : j ≤ m) (hVp : 0 < val V n) (hoff : ∀ i, i < m + n + 1 → i < j ∨ j + n < i → U' i = U i)
    (hw : WF (fun i => U' (j + i)) n) (ht : U' (j + n) = 0) (hR : val (fun i => U' (j + i)) n = val (fun i => U (j + i)) (n + 1) % val V n) :
    LInvD U0 V n m j (S + val (fun i => U (j + i)) (n + 1) / val V n * BB ^ j) U' := by
  have hhi : ∀ i, i < m + n + 1 → j + n ≤ i → U' i = 0 := fun i h1 h2 => by
    by_cases e : i = j + n
    · rw [e, ht]
    · rw [hoff i h1 (Or.inr (by omega))]; exact h.hi i h1 (by omega)
  refine ⟨fun i hi => ?_, hhi, ?_, ?_⟩
  · by_cases h1 : i < j ∨ j + n < i
    · rw [hoff i hi h1]; exact h.wf i hi
    · by_cases e : i = j + n
      · rw [e, ht]; exact ⟨by decide, by decide⟩
      · have := hw (i - j) (by omega)
        simpa [show j + (i - j) = i by omega] using this
  · have e1 := val_cut U j n m hj (fun i h1 h2 => h.hi i h1 (by omega))
    have e2 := val_cut U' j n m hj (fun i h1 h2 => hhi i h1 (by omega))
    have e3 : val U' j = val U j := val_congr (fun i hi => hoff i (by omega) (Or.inl hi))
    have e4 : val (fun i => U' (j + i)) (n + 1) = val (fun i => U' (j + i)) n := val_top (by omega) (fun i h1 h2 => by
      obtain rfl : i = n := by omega
      exact ht)
    have e5 := Int.emod_add_mul_ediv (val (fun i => U (j + i)) (n + 1)) (val V n)
    rw [e4, hR, e3] at e2
    rw [h.sum, e1, e2]
    generalize val (fun i => U (j + i)) (n + 1) / val V n = q at *
    generalize val (fun i => U (j + i)) (n + 1) % val V n = r at *
    rw [← e5]
    grind
  · rw [hR]; exact Int.emod_lt_of_pos _ hVp
theorem LInvD.done {U0 V U : Nat → Int} {n m : Nat} {S : Int} (h : LInvD U0 V n m 0 S U) (hV : 0 < val V n) (hn : 0 < n) : S = val U0 (m + n + 1) / val V n ∧ val U (m + n + 1) = val U0 (m + n + 1) % val V n ∧ ∀ i, i < m + n + 1 → n ≤ i → U i = 0 := by
  have e1 := val_top (X := U) (show n ≤ m + n + 1 by omega) (fun i h1 h2 => h.hi i h2 (by omega))
  have h2 := h.lt
  simp only [Nat.zero_add] at h2
  have h3 : 0 ≤ val U n := val_nonneg (h.wf.le (by omega))
  have h4 := h.sum
  rw [e1] at h4 ⊢
  have e : val U0 (m + n + 1) = val U n + val V n * S := by rw [h4, Int.mul_comm]; omega
  refine ⟨?_, ?_, fun i h1 h2 => h.hi i h1 (by omega)⟩
  · rw [e, Int.add_mul_ediv_left _ _ (by omega), Int.ediv_eq_zero_of_lt h3 h2]; omega
  · rw [e, Int.add_mul_emod_self_left, Int.emod_eq_of_lt h3 h2]
theorem LInvD.first {U0 V U : Nat → Int} {n m : Nat} {S : Int} (h : LInvD U0 V n m (m + 1) S U) (hn : 0 < n) (hV : WF V n) (htop : U (m + n - 1) < V (n - 1)) (h0 : U (m + n) = 0) : val (fun i => U (m + i)) (n + 1) < val V n := by
  have e1 : val (fun i => U (m + i)) (n + 1) = val (fun i => U (m + i)) n := val_top (by omega) (fun i h1 h2 => by
    obtain rfl : i = n := by omega
    exact h0)
  obtain ⟨k, rfl⟩ : ∃ k, n = k + 1 := ⟨n - 1, by omega⟩
  have e2 : val V (k + 1) = val V k + BB ^ k * V k := by rw [val_add, val_one]; rfl
  have e3 : val (fun i => U (m + i)) (k + 1) = val (fun i => U (m + i)) k + BB ^ k * U (m + k) := by rw [val_add, val_one]; rfl
  have a1 := val_nonneg (hV.le (show k ≤ k + 1 by omega))
  have a2 : val (fun i => U (m + i)) k < BB ^ k := val_lt (fun i hi => h.wf _ (by omega))
  simp only [Nat.add_sub_cancel, show m + (k + 1) - 1 = m + k by omega] at htop
  have a4 := Int.mul_le_mul_of_nonneg_left (show U (m + k) + 1 ≤ V k by omega) (Int.le_of_lt (BBn_pos k))
  rw [Int.mul_add] at a4
  rw [e1, e2, e3]
  omega
structure GInv {P v1 v2 v0 u3 u2 u1 u0 : Int} (g : Guess P v1 v2 v0 u3 u2 u1 u0) (q r : Int) : Prop where
  q0 : 0 ≤ q
  r0 : 0 ≤ r
  eq : q * v1 + r = u3 * BB + u2
  ge : gU P u3 u2 u1 u0 / gV P v1 v2 v0 ≤ q
variable {P v1 v2 v0 u3 u2 u1 u0 : Int}
theorem GInv.down {g : Guess P v1 v2 v0 u3 u2 u1 u0} {q r : Int} (h : GInv g q r) (hl : r * BB + u1 < q * v2) : GInv g (q - 1) (r + v1) := by
  have h1 := g.down h.q0 h.eq hl
  have h2 := g.q_nonneg
  have h3 := g.hv1
  refine ⟨by omega, by have := h.r0; unfold BB at *; omega, ?_, h1⟩
  have := h.eq
  rw [Int.sub_mul]; omega
theorem GInv.near {g : Guess P v1 v2 v0 u3 u2 u1 u0} {q r : Int} (h : GInv g q r) (hq : q < BB) (hl : q * v2 ≤ r * BB + u1) : q = gU P u3 u2 u1 u0 / gV P v1 v2 v0 ∨ q = gU P u3 u2 u1 u0 / gV P v1 v2 v0 + 1 := by
  have h1 := g.near h.q0 hq (by
    have e : q * (v1 * BB + v2) = q * v1 * BB + q * v2 := by grind
    have := h.eq
    rw [e, ← h.eq, Int.add_mul]; omega)
  have := h.ge
  omega
theorem GInv.near_over {g : Guess P v1 v2 v0 u3 u2 u1 u0} {q r : Int} (h : GInv g q r) (hq : q < BB) (hr : BB ≤ r) : q = gU P u3 u2 u1 u0 / gV P v1 v2 v0 ∨ q = gU P u3 u2 u1 u0 / gV P v1 v2 v0 + 1 := by
  refine h.near hq ?_
  have h1 := Int.mul_le_mul (show q ≤ BB by omega) (show v2 ≤ BB by have := g.hv2'; omega) g.hv2 (show (0:Int) ≤ BB by decide)
  have h2 := Int.mul_le_mul_of_nonneg_right hr (show (0:Int) ≤ BB by decide)
  have := g.hu1
  omega
theorem scale_div {a b s : Int} (hs : 0 < s) : a * s / (b * s) = a / b := Int.mul_ediv_mul_of_pos_left a b hs
theorem scale_mod {a b s : Int} (hs : 0 < s) : a * s % (b * s) = a % b * s := by
  have h1 := Int.emod_add_mul_ediv (a * s) (b * s)
  have h2 := Int.emod_add_mul_ediv a b
  rw [scale_div hs] at h1
  have h3 : a * s = a % b * s + b * s * (a / b) := by
    generalize a / b = q at *
    generalize a % b = r at *
    rw [← h2]
    grind
  omega
theorem sum_step {Q : Nat → Int} {j m : Nat} (hj : j < m) : val (fun i => Q (j + i)) (m - j) * BB ^ j = val (fun i => Q (j + 1 + i)) (m - (j + 1)) * BB ^ (j + 1) + Q j * BB ^ j := by
  obtain ⟨k, hk⟩ : ∃ k, m - j = k + 1 := ⟨m - j - 1, by omega⟩
  rw [hk, show m - (j + 1) = k by omega, Nat.add_comm k 1, val_add, val_one]
  simp only [Nat.add_zero, Int.pow_succ, Int.pow_zero]
  rw [val_congr (X := fun i => Q (j + (1 + i))) (Y := fun i => Q (j + 1 + i)) (fun i hi => by rw [Nat.add_assoc])]
  grind
end Go.Proofs.YtmgfajamanakcaaGreatDoor
namespace Go.Proofs.YtmgfajamanakcaaGreatDoor
set_option linter.unusedVariables false
set_option linter.unusedSimpArgs false
open Go.RowKit
set_option maxRecDepth 100000
theorem shl_zero {x : Int} {r : Nat} (hr : r ≤ 64) : IntKind.u64.wrap (x * 2 ^ (64 - r)) = x % 2 ^ r * 2 ^ (64 - r) := by
  have e : (18446744073709551616 : Int) = 2 ^ r * 2 ^ (64 - r) := by
    rw [← Int.pow_add, show r + (64 - r) = 64 by omega]; decide
  rw [wrap_u64, e]
  exact scale_mod (Int.pow_pos (by decide))
theorem shl_ne {x : Int} {r : Nat} (hr : r ≤ 64) : (IntKind.u64.wrap (x * 2 ^ (64 - r)) != 0) = !decide (x % 2 ^ r = 0) := by
  rw [shl_zero hr]
  have hp : (0 : Int) < 2 ^ (64 - r) := Int.pow_pos (by decide)
  by_cases h : x % 2 ^ r = 0
  · simp [h]
  · have : x % 2 ^ r * 2 ^ (64 - r) ≠ 0 := Int.mul_ne_zero h (by omega)
    simp [h, this]
def StickyIs (X : Nat → Int) (n i : Nat) (v : Int) : Prop :=
  (n ≤ i / 64 → v = if n = 0 then 0 else 1) ∧ (i / 64 < n → (v = 0 ∧ (∀ k, k < i / 64 → X k = 0) ∧ X (i / 64) % 2 ^ (i % 64) = 0) ∨ (v = 1 ∧ ((∃ k, k < i / 64 ∧ X k ≠ 0) ∨ X (i / 64) % 2 ^ (i % 64) ≠ 0)))
set_option maxHeartbeats 2000000 in
theorem sticky_any (a : Option Addr) (n c i : Nat) (X : Nat → Int) (w : World) (hr : Rd w a n X) (hnc : n ≤ c) (hn : n < 1099511627776) (hi : i < 1099511627776) :
    Calls Tryz.prog 198 #[.slice a n c, .int .u64 (i : Int)] w fun e w' => ∃ v, e = .returned (.int .u64 v) ∧ StickyIs X n i v ∧ w = w' := by
  have q1 : (i : Int).tdiv 64 = ((i / 64 : Nat) : Int) := by
    rw [Int.tdiv_eq_ediv_of_nonneg (by omega)]; omega
  have q2 : (i : Int).tmod 64 = ((i % 64 : Nat) : Int) := by
    rw [Int.tmod_eq_emod_of_nonneg (by omega)]; omega
  have hr64 : i % 64 < 64 := by omega
  obtain ⟨j, hj⟩ : ∃ j, i / 64 = j := ⟨_, rfl⟩
  obtain ⟨r, hr2⟩ : ∃ r, i % 64 = r := ⟨_, rfl⟩
  rw [hj] at q1
  rw [hr2] at q2 hr64
  have HS : Hid (i / 64 = j ∧ i % 64 = r) := ⟨hj, hr2⟩
  have q3 : IntKind.u64.wrap (n : Int) = (n : Int) := by rw [wrap_u64]; omega
  have hjb : j < 1099511627776 := by omega
  clear hj hr2
  by_cases hlt : j < n
  · have d2 : decide (n ≤ j) = false := by simp; omega
    obtain ⟨b, o, rfl, hw⟩ : ∃ b o, a = some ⟨b, o, none⟩ ∧ Words w b o n X := by
      rcases hr with h | h
      · omega
      · exact h
    have HW := Lib.hid hw
    have hcj := hw j hlt
    obtain ⟨x, hx⟩ : ∃ x, X j = x := ⟨_, rfl⟩
    rw [hx] at hcj
    have Hx := Lib.hid hx
    have f1 : (0 : Int) ≤ (j : Int) := by omega
    have f2 : (j : Int) < (n : Int) := by omega
    have f3 : (j : Int) ≤ (c : Int) := by omega
    clear hr hw hx
    go_enter Tryz.func198, Tryz.ntmps198
    go_wp2_with fail
    go_loopg [7, 22] j (fun k s7 s22 wc => ∃ t : Nat, s22 = .int .i64 (t : Int) ∧ t + k = j ∧ w = wc ∧ Hid (∀ l, l < t → X l = 0))
    case atStart => exact ⟨0, rfl, by omega, rfl, fun l hl => by omega⟩
    case round =>
      obtain ⟨t, rfl, ht, rfl, HT⟩ := hrel
      by_cases htj : t < j
      · have d3 : decide ((t : Int) < (j : Int)) = true := by simp; omega
        have d4 : decide (t < j) = true := by simp; omega
        have hct := HW.out t (by omega)
        obtain ⟨y, hy⟩ : ∃ y, X t = y := ⟨_, rfl⟩
        rw [hy] at hct
        have Hy := Lib.hid hy
        clear hy
        by_cases hy0 : y = 0
        · have HY := Lib.hid (Hy.out.trans hy0)
          have d5 : (y != 0) = false := bne_eq_false_iff_eq.2 hy0
          clear hy0
          go_wp2_with fail
          go_roundg (gk - 1)
          case measure => omega
          case rel => exact ⟨t + 1, by go_num, by omega, rfl, fun l hl => by
            rcases Nat.lt_or_ge l t with h | h
            · exact HT.out l h
            · obtain rfl : l = t := by omega
              exact HY.out⟩
        · have d5 : (y != 0) = true := bne_iff_ne.2 hy0
          have HY := Lib.hid (show X t ≠ 0 by rw [Hy.out]; exact hy0)
          clear hy0
          go_wp2_with fail
          go_ret
          exact ⟨1, rfl, ⟨fun h => by have := HS.out.1; omega, fun _ => Or.inr ⟨rfl, Or.inl ⟨t, by have := HS.out.1; omega, HY.out⟩⟩⟩, rfl⟩
      · have d3 : decide ((t : Int) < (j : Int)) = false := by simp; omega
        have d4 : decide (t < j) = false := by simp; omega
        have htj2 : t = j := by omega
        have hne := shl_ne (x := x) (r := r) (by omega)
        have HT2 := Lib.hid (show ∀ l, l < j → X l = 0 by rw [← htj2]; exact HT.out)
        clear htj2
        by_cases hz : x % 2 ^ r = 0
        · have Hz := Lib.hid hz
          rw [decide_eq_true hz] at hne
          clear hz
          go_wp2_with fail
          go_ret
          refine ⟨0, rfl, ⟨fun h => by have := HS.out.1; omega, fun _ => Or.inl ⟨rfl, fun k hk => HT2.out k (by have := HS.out.1; omega), ?_⟩⟩, rfl⟩
          rw [HS.out.1, HS.out.2, Hx.out]; exact Hz.out
        · have Hz := Lib.hid hz
          rw [decide_eq_false hz] at hne
          clear hz
          go_wp2_with fail
          go_ret
          refine ⟨1, rfl, ⟨fun h => by have := HS.out.1; omega, fun _ => Or.inr ⟨rfl, Or.inr ?_⟩⟩, rfl⟩
          rw [HS.out.1, HS.out.2, Hx.out]; exact Hz.out
  · have d2 : decide (n ≤ j) = true := by simp; omega
    by_cases h0 : n = 0
    · have d3 : ((n : Int) == 0) = true := by simp [h0]
      have H0 := Lib.hid h0
      have hji : n ≤ i / 64 := by rw [HS.out.1]; omega
      have Hji := Lib.hid hji
      clear hr h0 hji
      go_enter Tryz.func198, Tryz.ntmps198
      go_wp2_with fail
      go_ret
      exact ⟨0, rfl, ⟨fun _ => by rw [if_pos H0.out], fun h => by have := Hji.out; omega⟩, rfl⟩
    · have d3 : ((n : Int) == 0) = false := beq_false_of_ne (by omega)
      have H0 := Lib.hid h0
      have hji : n ≤ i / 64 := by rw [HS.out.1]; omega
      have Hji := Lib.hid hji
      clear hr h0 hji
      go_enter Tryz.func198, Tryz.ntmps198
      go_wp2_with fail
      go_ret
      exact ⟨1, rfl, ⟨fun _ => by rw [if_neg H0.out], fun h => by have := Hji.out; omega⟩, rfl⟩
end Go.Proofs.YtmgfajamanakcaaGreatDoor
namespace Go.Proofs.YtmgfajamanakcaaGreatDoor
set_option linter.unusedVariables false
set_option linter.unusedSimpArgs false
theorem carry_small {X Z : Nat → Int} {n s : Nat} {c : Int} (hX : WF X n) (hZ : WF Z n) (h : val Z n + c * BB ^ n = val X n * 2 ^ s) : c < 2 ^ s := by
  have a1 := val_lt hX
  have a2 := val_nonneg hZ
  have h2 : (0 : Int) < 2 ^ s := Int.pow_pos (by decide)
  have h3 := Int.mul_lt_mul_of_pos_right a1 h2
  by_cases hc : c < 2 ^ s
  · exact hc
  · exfalso
    have h4 := Int.mul_le_mul_of_nonneg_right (show (2 : Int) ^ s ≤ c by omega) (Int.le_of_lt (BBn_pos n))
    rw [Int.mul_comm ((2 : Int) ^ s)] at h4
    omega
theorem val_carry {X Z U : Nat → Int} {n s : Nat} {c : Int} (h : val Z n + c * BB ^ n = val X n * 2 ^ s) (hU : ∀ i, i < n → U i = Z i) (hc : U n = c) : val U (n + 1) = val X n * 2 ^ s := by
  rw [val_add, val_one, val_congr hU]
  simp only [Nat.add_zero]
  rw [hc, ← h, Int.mul_comm]
theorem pow_le_63 {s : Nat} (hs : s < 64) : (2 : Int) ^ s ≤ 9223372036854775808 := by
  have h : (2 : Int) ^ s * 2 ^ (63 - s) = 9223372036854775808 := by
    rw [← Int.pow_add, show s + (63 - s) = 63 by omega]; decide
  have h1 : (0 : Int) < 2 ^ (63 - s) := Int.pow_pos (by decide)
  have h2 : (0 : Int) < 2 ^ s := Int.pow_pos (by decide)
  have := Int.mul_le_mul_of_nonneg_left (show (1 : Int) ≤ 2 ^ (63 - s) by omega) (Int.le_of_lt h2)
  omega
end Go.Proofs.YtmgfajamanakcaaGreatDoor
namespace Go.Proofs.YtmgfajamanakcaaGreatDoor
set_option linter.unusedVariables false
set_option linter.unusedSimpArgs false
open Go.RowKit
theorem and_maskn (x t : Nat) (hx : x < 2 ^ 64) (ht : t ≤ 64) : x &&& (2 ^ 64 - 2 ^ t) = x - x % 2 ^ t := by
  have hp : 0 < 2 ^ t := Nat.pow_pos (by decide)
  have e : x - x % 2 ^ t = (x >>> t) <<< t := by
    rw [Nat.shiftRight_eq_div_pow, Nat.shiftLeft_eq]
    have := Nat.div_add_mod x (2 ^ t)
    rw [Nat.mul_comm] at this
    omega
  have e2 : 2 ^ 64 - 2 ^ t = 2 ^ 64 - ((2 ^ t - 1) + 1) := by omega
  rw [e, e2]
  apply Nat.eq_of_testBit_eq
  intro i
  have hlt : 2 ^ t - 1 < 2 ^ 64 := by
    have := Nat.pow_le_pow_right (show 0 < 2 by decide) ht
    omega
  rw [Nat.testBit_and, Nat.testBit_two_pow_sub_succ hlt i, Nat.testBit_shiftLeft, Nat.testBit_shiftRight, Nat.testBit_two_pow_sub_one]
  by_cases h2 : i < t
  · simp [h2]; omega
  · have h5 : t + (i - t) = i := by omega
    by_cases h6 : i < 64
    · simp [h2, h6, h5]; omega
    · have h7 : x.testBit i = false := Nat.testBit_lt_two_pow (Nat.lt_of_lt_of_le hx (Nat.pow_le_pow_right (by decide) (by omega)))
      simp [h6, h5, h7]
theorem pow_nat_int (t : Nat) : ((2 ^ t : Nat) : Int) = (2 : Int) ^ t := by push_cast; rfl
theorem andn_low {x : Int} (h : U64 x) {t : Nat} (ht : t < 64) : bits BinOp.andNot IntKind.u64 x (2 ^ t - 1) = x - x % 2 ^ t := by
  obtain ⟨k, rfl⟩ := Int.eq_ofNat_of_zero_le h.1
  have hk : k < 2 ^ 64 := by have := h.2; omega
  have hp : 0 < 2 ^ t := Nat.pow_pos (by decide)
  have hpt : 2 ^ t < 2 ^ 64 := Nat.pow_lt_pow_right (by decide) ht
  have e1 : (2 : Int) ^ t - 1 = ((2 ^ t - 1 : Nat) : Int) := by
    rw [← pow_nat_int]; omega
  have h1 : (BitVec.ofInt 64 ((2 ^ t - 1 : Nat) : Int)).toNat = 2 ^ t - 1 := by
    rw [BitVec.toNat_ofInt]; omega
  have h2 : (~~~ (BitVec.ofInt 64 ((2 ^ t - 1 : Nat) : Int))).toNat = 2 ^ 64 - 2 ^ t := by
    rw [BitVec.toNat_not, h1]; omega
  have h3 : (BitVec.ofInt 64 (k : Int)).toNat = k := by rw [BitVec.toNat_ofInt]; omega
  have key : (BitVec.ofInt 64 (k : Int) &&& ~~~ (BitVec.ofInt 64 ((2 ^ t - 1 : Nat) : Int))).toNat = k - k % 2 ^ t := by
    rw [BitVec.toNat_and, h2, h3]
    exact and_maskn k t hk (by omega)
  rw [e1]
  show IntKind.u64.wrap ((BitVec.ofInt 64 (k : Int) &&& ~~~ (BitVec.ofInt 64 ((2 ^ t - 1 : Nat) : Int))).toNat : Nat) = _
  rw [key, wrap_u64]
  have h4 : ((k : Int) % 2 ^ t) = ((k % 2 ^ t : Nat) : Int) := by push_cast; rfl
  rw [h4]
  have := Nat.mod_le k (2 ^ t)
  omega
theorem and_two_pow_nat (k t : Nat) : k &&& 2 ^ t = k / 2 ^ t % 2 * 2 ^ t := by
  have e : k / 2 ^ t % 2 * 2 ^ t = ((k >>> t) % 2 ^ 1) <<< t := by
    rw [Nat.shiftRight_eq_div_pow, Nat.shiftLeft_eq, Nat.pow_one]
  rw [e]
  apply Nat.eq_of_testBit_eq
  intro i
  rw [Nat.testBit_and, Nat.testBit_shiftLeft, Nat.testBit_mod_two_pow, Nat.testBit_shiftRight, Nat.testBit_two_pow]
  by_cases h : t = i
  · subst h; simp
  · by_cases h2 : t ≤ i
    · have : ¬ (i - t < 1) := by omega
      simp [h, this]
    · simp [h, h2]
theorem and_pow_u {x : Int} (h : U64 x) {t : Nat} (ht : t < 64) : bits BinOp.and IntKind.u64 x (2 ^ t) = x / 2 ^ t % 2 * 2 ^ t := by
  obtain ⟨k, rfl⟩ := Int.eq_ofNat_of_zero_le h.1
  have hk : k < 2 ^ 64 := by have := h.2; omega
  have hp : 0 < 2 ^ t := Nat.pow_pos (by decide)
  have hpt : 2 ^ t < 2 ^ 64 := Nat.pow_lt_pow_right (by decide) ht
  have h1 : (BitVec.ofInt 64 ((2 ^ t : Nat) : Int)).toNat = 2 ^ t := by rw [BitVec.toNat_ofInt]; omega
  have h3 : (BitVec.ofInt 64 (k : Int)).toNat = k := by rw [BitVec.toNat_ofInt]; omega
  have key : (BitVec.ofInt 64 (k : Int) &&& BitVec.ofInt 64 ((2 ^ t : Nat) : Int)).toNat = k / 2 ^ t % 2 * 2 ^ t := by
    rw [BitVec.toNat_and, h1, h3, and_two_pow_nat]
  rw [← pow_nat_int]
  show IntKind.u64.wrap ((BitVec.ofInt 64 (k : Int) &&& BitVec.ofInt 64 ((2 ^ t : Nat) : Int)).toNat : Nat) = _
  rw [key, wrap_u64]
  have hb : k / 2 ^ t % 2 * 2 ^ t ≤ k := by
    rcases Nat.mod_two_eq_zero_or_one (k / 2 ^ t) with e | e
    · rw [e]; omega
    · rw [e]
      have := Nat.div_mul_le_self k (2 ^ t)
      have h5 : 1 ≤ k / 2 ^ t := by
        rcases Nat.eq_zero_or_pos (k / 2 ^ t) with h | h
        · rw [h] at e; cases e
        · exact h
      have := Nat.mul_le_mul_right (2 ^ t) h5
      omega
  have : ((k : Int) / ((2 ^ t : Nat) : Int) % 2 * ((2 ^ t : Nat) : Int)) = ((k / 2 ^ t % 2 * 2 ^ t : Nat) : Int) := by push_cast; rfl
  rw [this]
  omega
theorem and_pow_ne {x : Int} (h : U64 x) {t : Nat} (ht : t < 64) : (bits BinOp.and IntKind.u64 x (2 ^ t) != 0) = (x / 2 ^ t % 2 == 1) := by
  rw [and_pow_u h ht]
  have hp : (0 : Int) < 2 ^ t := Int.pow_pos (by decide)
  rcases Int.emod_two_eq (x / 2 ^ t) with e | e
  · rw [e]; simp
  · rw [e, Int.one_mul]
    have : (2 : Int) ^ t ≠ 0 := by omega
    simp [this]
theorem or_top {x : Int} (h0 : 0 ≤ x) (h1 : x < 9223372036854775808) : bits BinOp.or IntKind.u64 x 9223372036854775808 = x + 9223372036854775808 := by
  obtain ⟨k, rfl⟩ := Int.eq_ofNat_of_zero_le h0
  have := or_nat k 1 1 (by omega) (by decide) (by decide)
  have e : ((1 * 2 ^ (64 - 1) : Nat) : Int) = 9223372036854775808 := by decide
  rw [e] at this
  rw [this]
  omega
theorem shl_one {t : Nat} (ht : t < 64) : IntKind.u64.wrap (2 ^ t) = 2 ^ t := by
  rw [wrap_u64]
  have h1 : (0 : Int) < 2 ^ t := Int.pow_pos (by decide)
  have h2 := pow_le_63 ht
  omega
end Go.Proofs.YtmgfajamanakcaaGreatDoor
