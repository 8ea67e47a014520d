/- Part of the proof of FnParse: what the functions that it reaches do, as contracts. Conditions: those that each theorem names. -/
import Derived.Test.YtmgfajamanakcaaGreatDoorD11
import Derived.Test.YtmgfajamanakcaaGreatDoorD12
import Derived.Lib.BitFns
import Derived.Test.YtmgfajamanakcaaGreatDoorD02
namespace Go.Proofs.YtmgfajamanakcaaGreatDoor
set_option linter.unusedVariables false
set_option linter.unusedSimpArgs false
open Go Go.RowKit
set_option maxRecDepth 100000
theorem bitLen_spec : ∀ (x : Nat), x ≠ 0 → x < 2 ^ 64 → 1 ≤ Lib.bitLen x ∧ Lib.bitLen x ≤ 64 ∧ 2 ^ (Lib.bitLen x - 1) ≤ x ∧ x < 2 ^ Lib.bitLen x := by
  intro x
  induction x using Nat.strongRecOn with
  | _ x ih =>
    intro h0 h
    have hb := Lib.bitLen_half x h0 h
    have hle := Lib.bitLen_le x 64 (Nat.le_refl _) h
    by_cases h1 : x / 2 = 0
    · have : x = 1 := by omega
      subst this
      refine ⟨by omega, hle, ?_, ?_⟩ <;> decide
    · obtain ⟨i1, i2, i3, i4⟩ := ih (x / 2) (by omega) h1 (by omega)
      obtain ⟨k, hk⟩ : ∃ k, Lib.bitLen (x / 2) = k + 1 := ⟨Lib.bitLen (x / 2) - 1, by omega⟩
      rw [hk] at i3 i4 hb
      have e : Lib.bitLen x = k + 2 := by omega
      rw [e]
      refine ⟨by omega, by omega, ?_, ?_⟩
      · rw [show k + 2 - 1 = k + 1 by omega, Nat.pow_succ]; simp at i3; omega
      · rw [show k + 2 = (k + 1) + 1 by omega, Nat.pow_succ]; omega
theorem bitLen_of {x k : Nat} (h : x < 2 ^ 64) (h1 : 2 ^ k ≤ x) (h2 : x < 2 ^ (k + 1)) : Lib.bitLen x = k + 1 := by
  have hp : 0 < 2 ^ k := Nat.pow_pos (by omega)
  obtain ⟨i1, i2, i3, i4⟩ := bitLen_spec x (by omega) h
  have a : Lib.bitLen x - 1 < k + 1 := (Nat.pow_lt_pow_iff_right (by omega)).1 (Nat.lt_of_le_of_lt i3 h2)
  have b : k < Lib.bitLen x := (Nat.pow_lt_pow_iff_right (by omega)).1 (Nat.lt_of_le_of_lt h1 i4)
  omega
def nlzOf (x : Int) : Nat := 64 - Lib.bitLen x.toNat
theorem nlz_any (x : Int) (w : World) (hx : U64 x) : Calls Tryz.prog 162 #[.int .u64 x] w fun e w' => e = .returned (.int .u64 (nlzOf x : Nat)) ∧ w = w' := by
  obtain ⟨h0, h1⟩ := hx
  have hle := Lib.bitLen_le x.toNat 64 (Nat.le_refl _) (by omega)
  have hv := Lib.hid (show ((64 : Int) - (Lib.bitLen x.toNat : Int)) = ((nlzOf x : Nat) : Int) by unfold nlzOf; omega)
  generalize hbl : Lib.bitLen x.toNat = bl at *
  have HBL := Lib.hid hbl
  clear hbl
  go_enter Tryz.func162, Tryz.ntmps162
  go_wp2_with fail
  go_in
  go_wp2_with fail
  go_in
  go_wp2_with fail
  refine (Len64_any x _ h0 (by omega)).mono ?_
  rintro e w1 ⟨rfl, rfl⟩
  rw [HBL.out]
  go_wp2
  go_ret
  exact ⟨by rw [← hv.out]; first | done | rfl, rfl⟩
end Go.Proofs.YtmgfajamanakcaaGreatDoor
namespace Go.Proofs.YtmgfajamanakcaaGreatDoor
set_option linter.unusedVariables false
set_option linter.unusedSimpArgs false
theorem recip_guess {d x1 x0 v q : Int} (hd : BB ≤ 2 * d) (hd1 : d < BB) (h10 : 0 ≤ x1) (h1 : x1 < d) (h00 : 0 ≤ x0) (h0 : x0 < BB)
    (hv0 : v * d ≤ BB * BB - 1) (hv1 : BB * BB - 1 < v * d + d) (hq : q = (v * x1 + x0) / BB) :
    0 ≤ x1 * BB + x0 - d * q ∧ x1 * BB + x0 - d * q < BB + d ∧ 0 ≤ q ∧ q < BB := by
  have hdpos : 0 < d := by unfold BB at *; omega
  have hv : 0 ≤ v := by
    by_cases h : 0 ≤ v
    · exact h
    · have := Int.mul_le_mul_of_nonneg_right (show v ≤ -1 by omega) (Int.le_of_lt hdpos)
      unfold BB at *; omega
  have hvx := Int.mul_nonneg hv h10
  obtain ⟨t, ht0, ht1, ht⟩ : ∃ t, 0 ≤ t ∧ t < BB ∧ v * x1 + x0 = q * BB + t := by
    refine ⟨(v * x1 + x0) % BB, Int.emod_nonneg _ (by unfold BB; omega), Int.emod_lt_of_pos _ (by unfold BB; omega), ?_⟩
    have := Int.mul_ediv_add_emod (v * x1 + x0) BB
    rw [hq, Int.mul_comm ((v * x1 + x0) / BB) BB]; omega
  have hq0 : 0 ≤ q := by rw [hq]; exact Int.ediv_nonneg (by omega) (by unfold BB; omega)
  obtain ⟨p, hp⟩ : ∃ p, p = BB * BB - 1 - v * d := ⟨_, rfl⟩
  -- the remainder times B
  have key : (x1 * BB + x0 - d * q) * BB = x0 * (BB - d) + (1 + p) * x1 + d * t := by
    have e : d * (v * x1 + x0) = d * (q * BB + t) := by rw [ht]
    have e2 : v * d * x1 = (BB * BB - 1 - p) * x1 := by rw [hp]; congr 1; omega
    grind
  have a1 : 0 ≤ x0 * (BB - d) := Int.mul_nonneg h00 (by omega)
  have a2 : 0 ≤ (1 + p) * x1 := Int.mul_nonneg (by omega) h10
  have a3 : 0 ≤ d * t := Int.mul_nonneg (by omega) ht0
  have b1 : x0 * (BB - d) ≤ (BB - 1) * (BB - d) := Int.mul_le_mul_of_nonneg_right (by omega) (by omega)
  have b2 : (1 + p) * x1 ≤ d * (d - 1) := Int.mul_le_mul (by omega) (by omega) h10 (by omega)
  have b3 : d * t ≤ d * (BB - 1) := Int.mul_le_mul_of_nonneg_left (by omega) (by omega)
  have b4 : (BB - 1) * (BB - d) + d * (d - 1) + d * (BB - 1) = BB * BB - BB + d * d - d := by grind
  have b5 : d * d ≤ d * BB := Int.mul_le_mul_of_nonneg_left (by omega) (by omega)
  have hr0 : 0 ≤ x1 * BB + x0 - d * q := by
    by_cases h : 0 ≤ x1 * BB + x0 - d * q
    · exact h
    · have := Int.mul_le_mul_of_nonneg_right (show x1 * BB + x0 - d * q ≤ -1 by omega) (show (0:Int) ≤ BB by unfold BB; omega)
      unfold BB at *; omega
  have hr1 : x1 * BB + x0 - d * q < BB + d := by
    by_cases h : x1 * BB + x0 - d * q < BB + d
    · exact h
    · have := Int.mul_le_mul_of_nonneg_right (show BB + d ≤ x1 * BB + x0 - d * q by omega) (show (0:Int) ≤ BB by unfold BB; omega)
      rw [key, Int.add_mul] at this
      unfold BB at *; omega
  refine ⟨hr0, hr1, hq0, ?_⟩
  by_cases h : q < BB
  · exact h
  · have h2 := Int.mul_le_mul_of_nonneg_left (show BB ≤ q by omega) (show (0:Int) ≤ d by omega)
    unfold BB at *; omega
structure Guess (P v1 v2 v0 u3 u2 u1 u0 : Int) : Prop where
  hP : 0 < P
  hv1 : BB ≤ 2 * v1
  hv1' : v1 < BB
  hv2 : 0 ≤ v2
  hv2' : v2 < BB
  hv0 : 0 ≤ v0
  hv0' : v0 < P
  hu3 : 0 ≤ u3
  hu2 : 0 ≤ u2
  hu2' : u2 < BB
  hu1 : 0 ≤ u1
  hu1' : u1 < BB
  hu0 : 0 ≤ u0
  hu0' : u0 < P
  hlt : ((u3 * BB + u2) * BB + u1) * P + u0 < ((v1 * BB + v2) * P + v0) * BB
def gV (P v1 v2 v0 : Int) : Int := (v1 * BB + v2) * P + v0
def gU (P u3 u2 u1 u0 : Int) : Int := ((u3 * BB + u2) * BB + u1) * P + u0
variable {P v1 v2 v0 u3 u2 u1 u0 : Int}
theorem mul_pos_le {a b c : Int} (hc : 0 ≤ c) (h : a ≤ b) : a * c ≤ b * c := Int.mul_le_mul_of_nonneg_right h hc
theorem Guess.Vpos (g : Guess P v1 v2 v0 u3 u2 u1 u0) : 0 < gV P v1 v2 v0 := by
  have := Int.mul_le_mul_of_nonneg_right (show 1 ≤ v1 * BB + v2 by have := g.hv1; have := g.hv2; unfold BB at *; omega) (Int.le_of_lt g.hP)
  have := g.hv0; have := g.hP
  unfold gV; omega
theorem Guess.q_lt (g : Guess P v1 v2 v0 u3 u2 u1 u0) : gU P u3 u2 u1 u0 / gV P v1 v2 v0 < BB := by
  rw [Int.ediv_lt_iff_lt_mul g.Vpos, Int.mul_comm]
  have := g.hlt
  unfold gU gV; exact this
theorem Guess.q_nonneg (g : Guess P v1 v2 v0 u3 u2 u1 u0) : 0 ≤ gU P u3 u2 u1 u0 / gV P v1 v2 v0 := by
  refine Int.ediv_nonneg ?_ (Int.le_of_lt g.Vpos)
  have h1 := Int.mul_nonneg g.hu3 (show (0:Int) ≤ BB by decide)
  have h2 : 0 ≤ u3 * BB + u2 := by have := g.hu2; omega
  have h3 := Int.mul_nonneg h2 (show (0:Int) ≤ BB by decide)
  have h4 : 0 ≤ (u3 * BB + u2) * BB + u1 := by have := g.hu1; omega
  have h5 := Int.mul_nonneg h4 (Int.le_of_lt g.hP)
  have := g.hu0
  unfold gU; omega
theorem Guess.top (g : Guess P v1 v2 v0 u3 u2 u1 u0) : u3 ≤ v1 := by
  by_cases h : u3 ≤ v1
  · exact h
  · exfalso
    have h1 : (v1 * BB + v2) * BB + BB ≤ (u3 * BB + u2) * BB + u1 := by
      have := g.hv2'; have := g.hu2; have := g.hu1
      unfold BB at *; omega
    have h2 := mul_pos_le (Int.le_of_lt g.hP) h1
    have h3 := g.hlt
    have h4 := mul_pos_le (show (0:Int) ≤ BB by decide) (show v0 ≤ P by have := g.hv0'; omega)
    have h5 : ((v1 * BB + v2) * BB + BB) * P = ((v1 * BB + v2) * P) * BB + P * BB := by grind
    have h6 := Int.add_mul ((v1 * BB + v2) * P) v0 BB
    have := g.hu0
    omega
theorem Guess.guess (g : Guess P v1 v2 v0 u3 u2 u1 u0) : gU P u3 u2 u1 u0 / gV P v1 v2 v0 ≤ (u3 * BB + u2) / v1 := by
  obtain ⟨q, hq⟩ : ∃ q, q = gU P u3 u2 u1 u0 / gV P v1 v2 v0 := ⟨_, rfl⟩
  rw [← hq]
  have hq0 : 0 ≤ q := by rw [hq]; exact g.q_nonneg
  have hv1 : 0 < v1 := by have := g.hv1; unfold BB at *; omega
  rw [Int.le_ediv_iff_mul_le hv1]
  have h1 : q * gV P v1 v2 v0 ≤ gU P u3 u2 u1 u0 := by rw [hq]; exact Int.ediv_mul_le _ (by have := g.Vpos; omega)
  by_cases h : q * v1 ≤ u3 * BB + u2
  · exact h
  · exfalso
    have h2 := mul_pos_le (show (0:Int) ≤ BB by decide) (show u3 * BB + u2 + 1 ≤ q * v1 by omega)
    have h3 : (u3 * BB + u2) * BB + u1 + 1 ≤ q * v1 * BB := by have := g.hu1'; rw [Int.add_mul] at h2; omega
    have h4 := mul_pos_le (Int.le_of_lt g.hP) h3
    have h5 : q * gV P v1 v2 v0 = q * v1 * BB * P + q * v2 * P + q * v0 := by unfold gV; grind
    have h6 : 0 ≤ q * v2 * P := Int.mul_nonneg (Int.mul_nonneg hq0 g.hv2) (Int.le_of_lt g.hP)
    have h7 : 0 ≤ q * v0 := Int.mul_nonneg hq0 g.hv0
    have := g.hu0'
    unfold gU at h1
    rw [Int.add_mul] at h4
    omega
theorem Guess.down (g : Guess P v1 v2 v0 u3 u2 u1 u0) {q r : Int} (hq : 0 ≤ q) (hr : q * v1 + r = u3 * BB + u2) (h : r * BB + u1 < q * v2) : gU P u3 u2 u1 u0 / gV P v1 v2 v0 ≤ q - 1 := by
  have : gU P u3 u2 u1 u0 / gV P v1 v2 v0 < q := by
    rw [Int.ediv_lt_iff_lt_mul g.Vpos]
    have h1 : (u3 * BB + u2) * BB + u1 + 1 ≤ q * (v1 * BB + v2) := by
      rw [← hr, Int.mul_add, ← Int.mul_assoc, Int.add_mul]; omega
    have h2 := mul_pos_le (Int.le_of_lt g.hP) h1
    have h3 : q * gV P v1 v2 v0 = q * (v1 * BB + v2) * P + q * v0 := by unfold gV; grind
    have h4 : 0 ≤ q * v0 := Int.mul_nonneg hq g.hv0
    have := g.hu0'
    unfold gU
    rw [Int.add_mul] at h2
    omega
  omega
theorem Guess.near (g : Guess P v1 v2 v0 u3 u2 u1 u0) {q : Int} (hq : 0 ≤ q) (hq1 : q < BB) (h : q * (v1 * BB + v2) ≤ (u3 * BB + u2) * BB + u1) : q ≤ gU P u3 u2 u1 u0 / gV P v1 v2 v0 + 1 := by
  have : q - 1 ≤ gU P u3 u2 u1 u0 / gV P v1 v2 v0 := by
    rw [Int.le_ediv_iff_mul_le g.Vpos]
    by_cases h0 : q = 0
    · subst h0
      have h1 := g.Vpos
      have h2 := g.q_nonneg
      have h3 : 0 ≤ gU P u3 u2 u1 u0 := by
        have h4 := mul_pos_le (Int.le_of_lt g.Vpos) h2
        have h5 := Int.ediv_mul_le (gU P u3 u2 u1 u0) (show gV P v1 v2 v0 ≠ 0 by omega)
        omega
      omega
    · have h1 : (q - 1) * gV P v1 v2 v0 ≤ (q - 1) * ((v1 * BB + v2 + 1) * P) := by
        refine Int.mul_le_mul_of_nonneg_left ?_ (by omega)
        have := g.hv0'
        have h9 := Int.add_mul (v1 * BB + v2) 1 P
        unfold gV; omega
      have h2 : (q - 1) * (v1 * BB + v2 + 1) ≤ q * (v1 * BB + v2) := by
        have : (q - 1) * (v1 * BB + v2 + 1) = q * (v1 * BB + v2) + q - 1 - (v1 * BB + v2) := by grind
        have h3 := mul_pos_le (show (0:Int) ≤ BB by decide) (show 1 ≤ v1 by have := g.hv1; unfold BB at *; omega)
        have := g.hv2
        omega
      have h3 := mul_pos_le (Int.le_of_lt g.hP) (Int.le_trans h2 h)
      rw [Int.mul_assoc] at h3
      have := g.hu0
      unfold gU; omega
  omega
theorem Guess.near_top (g : Guess P v1 v2 v0 u3 u2 u1 u0) (h : u3 = v1) : BB - 1 ≤ gU P u3 u2 u1 u0 / gV P v1 v2 v0 + 1 := by
  have : BB - 2 ≤ gU P u3 u2 u1 u0 / gV P v1 v2 v0 := by
    rw [Int.le_ediv_iff_mul_le g.Vpos]
    subst h
    have h1 : (BB - 2) * gV P u3 v2 v0 ≤ (BB - 2) * ((u3 * BB + BB) * P) := by
      refine Int.mul_le_mul_of_nonneg_left ?_ (by decide)
      have h2 := mul_pos_le (Int.le_of_lt g.hP) (show u3 * BB + v2 + 1 ≤ u3 * BB + BB by have := g.hv2'; omega)
      have := g.hv0'
      rw [Int.add_mul (u3 * BB + v2)] at h2
      unfold gV; omega
    have h2 : (BB - 2) * (u3 * BB + BB) ≤ u3 * BB * BB := by
      have := g.hv1; unfold BB at *; omega
    have h3 := mul_pos_le (Int.le_of_lt g.hP) h2
    rw [Int.mul_assoc] at h3
    have h4 := mul_pos_le (Int.le_of_lt g.hP) (show u3 * BB * BB ≤ (u3 * BB + u2) * BB + u1 by
      have := g.hu1; have h5 := Int.mul_nonneg g.hu2 (show (0:Int) ≤ BB by decide); rw [Int.add_mul]; omega)
    have := g.hu0
    unfold gU; omega
  omega
theorem val_guess_V (V : Nat → Int) (k : Nat) : gV (BB ^ k) (V (k + 1)) (V k) (val V k) = val V (k + 2) := by
  simp only [gV, val, BB_succ]; grind
theorem val_guess_U (Y : Nat → Int) (k : Nat) : gU (BB ^ k) (Y (k + 2)) (Y (k + 1)) (Y k) (val Y k) = val Y (k + 3) := by
  simp only [gU, val, BB_succ]; grind
theorem guess_of {V Y : Nat → Int} {k : Nat} (hV : WF V (k + 2)) (hY : WF Y (k + 3)) (ht : BB ≤ 2 * V (k + 1)) (hlt : val Y (k + 3) < val V (k + 2) * BB) :
    Guess (BB ^ k) (V (k + 1)) (V k) (val V k) (Y (k + 2)) (Y (k + 1)) (Y k) (val Y k) := by
  have e1 := val_guess_V V k
  have e2 := val_guess_U Y k
  refine ⟨BBn_pos k, ht, (hV (k + 1) (by omega)).2, (hV k (by omega)).1, (hV k (by omega)).2, val_nonneg (hV.le (by omega)), val_lt (hV.le (by omega)), (hY (k + 2) (by omega)).1, (hY (k + 1) (by omega)).1, (hY (k + 1) (by omega)).2, (hY k (by omega)).1, (hY k (by omega)).2, val_nonneg (hY.le (by omega)), val_lt (hY.le (by omega)), ?_⟩
  unfold gV at e1; unfold gU at e2
  rw [e1, e2]; exact hlt
theorem digit_good {W V q c Y B1 : Int} (hq : q = W / V) (hV : 0 < V) (hVB : V ≤ B1) (hY0 : 0 ≤ Y) (hY1 : Y < B1) (hc : 0 ≤ c ∧ c ≤ 1) (hY : Y - c * B1 = W - q * V) : c = 0 ∧ Y = W % V := by
  have h1 := Int.emod_add_mul_ediv W V
  have h2 := Int.emod_nonneg W (show V ≠ 0 by omega)
  have h3 := Int.emod_lt_of_pos W hV
  rw [← hq, Int.mul_comm V] at h1
  have hc2 : c = 0 ∨ c = 1 := by omega
  rcases hc2 with rfl | rfl
  · refine ⟨rfl, by omega⟩
  · exfalso; omega
theorem digit_over {W V q c Y B1 : Int} (hq : q = W / V + 1) (hV : 0 < V) (hVB : V ≤ B1) (hY0 : 0 ≤ Y) (hY1 : Y < B1) (hc : 0 ≤ c ∧ c ≤ 1) (hY : Y - c * B1 = W - q * V) : c = 1 ∧ Y + V - B1 = W % V := by
  have h1 := Int.emod_add_mul_ediv W V
  have h2 := Int.emod_nonneg W (show V ≠ 0 by omega)
  have h3 := Int.emod_lt_of_pos W hV
  have e : q * V = W / V * V + V := by rw [hq, Int.add_mul]; omega
  rw [Int.mul_comm V] at h1
  have hc2 : c = 0 ∨ c = 1 := by omega
  rcases hc2 with rfl | rfl
  · exfalso; omega
  · exact ⟨rfl, by omega⟩
theorem digit_back {Yl Yt V Zl c2 Zt Bn : Int} {R : Int} (hBn : 0 < Bn) (hZ : Zl + c2 * Bn = Yl + V) (hZl0 : 0 ≤ Zl) (hZl1 : Zl < Bn) (hc : 0 ≤ c2 ∧ c2 ≤ 1) (hYt : 0 ≤ Yt ∧ Yt < BB)
    (hZt : Zt = (Yt + c2) % BB) (hR0 : 0 ≤ R) (hR : R < Bn) (h : Yl + Yt * Bn + V - BB * Bn = R) : Zl = R ∧ Zt = 0 := by
  have e : Zl + (Yt + c2 - BB) * Bn = R := by rw [Int.sub_mul, Int.add_mul]; omega
  have h0 : Yt + c2 - BB = 0 := by
    by_cases h1 : Yt + c2 - BB = 0
    · exact h1
    · exfalso
      by_cases h2 : 1 ≤ Yt + c2 - BB
      · have := Int.mul_le_mul_of_nonneg_right h2 (Int.le_of_lt hBn); omega
      · have := Int.mul_le_mul_of_nonneg_right (show Yt + c2 - BB ≤ -1 by omega) (Int.le_of_lt hBn); omega
  rw [h0] at e
  refine ⟨by omega, ?_⟩
  rw [hZt, show Yt + c2 = BB by omega, Int.emod_self]
end Go.Proofs.YtmgfajamanakcaaGreatDoor
