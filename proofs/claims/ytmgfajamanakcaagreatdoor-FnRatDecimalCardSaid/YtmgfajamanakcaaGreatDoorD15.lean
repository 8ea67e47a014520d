/- Part of the proof of FnParse: what the functions that it reaches do, as contracts. Conditions: those that each theorem names. -/
import Derived.Test.YtmgfajamanakcaaGreatDoorD14
import Derived.Outline
import Derived.Test.YtmgfajamanakcaaGreatDoorD05
import Derived.Test.YtmgfajamanakcaaGreatDoorD02
import Derived.Test.YtmgfajamanakcaaGreatDoorD04
namespace Go.Proofs.YtmgfajamanakcaaGreatDoor
set_option linter.unusedVariables false
set_option linter.unusedSimpArgs false
open Go.RowKit
set_option maxRecDepth 100000
def IsRec (y m : Int) : Prop := U64 m ∧ (m + BB) * (y * 2 ^ nlzOf y) ≤ BB * BB - 1 ∧ BB * BB - 1 < (m + BB) * (y * 2 ^ nlzOf y) + y * 2 ^ nlzOf y
theorem not_u64 (u : Int) (h0 : 0 ≤ u) (h1 : u < 18446744073709551616) : bits BinOp.xor IntKind.u64 IntKind.u64.max u = 18446744073709551615 - u := by
  obtain ⟨n, rfl⟩ := Int.eq_ofNat_of_zero_le h0
  have h : BitVec.ofInt 64 IntKind.u64.max = BitVec.allOnes 64 := by decide
  have key : (BitVec.ofInt 64 IntKind.u64.max ^^^ BitVec.ofInt 64 (n : Int)).toNat = 18446744073709551615 - n := by
    rw [h, BitVec.allOnes_xor, BitVec.toNat_not, BitVec.toNat_ofInt]
    omega
  show IntKind.u64.wrap ((BitVec.ofInt 64 IntKind.u64.max ^^^ BitVec.ofInt 64 (n : Int)).toNat : Nat) = _
  rw [key, IntKind.wrap_u64]
  omega
theorem rec_of {y Y : Int} (hY : y * 2 ^ nlzOf y = Y) (h2 : 9223372036854775808 ≤ Y) (h3 : Y < 18446744073709551616) : IsRec y (((18446744073709551615 - Y) * BB + 18446744073709551615) / Y) := by
  have hYp : 0 < Y := by omega
  have e0 := Int.emod_add_mul_ediv ((18446744073709551615 - Y) * BB + 18446744073709551615) Y
  have e1 := Int.emod_nonneg ((18446744073709551615 - Y) * BB + 18446744073709551615) (show Y ≠ 0 by omega)
  have e2 := Int.emod_lt_of_pos ((18446744073709551615 - Y) * BB + 18446744073709551615) hYp
  obtain ⟨m, hm⟩ : ∃ m, ((18446744073709551615 - Y) * BB + 18446744073709551615) / Y = m := ⟨_, rfl⟩
  have hm0 : 0 ≤ m := by rw [← hm]; exact Int.ediv_nonneg (by unfold BB; omega) (by omega)
  rw [hm, Int.mul_comm Y m] at e0
  rw [hm]
  have e3 : (m + BB) * Y = m * Y + BB * Y := Int.add_mul ..
  have hm1 : m < 18446744073709551616 := by
    by_cases h : m < 18446744073709551616
    · exact h
    · have := Int.mul_le_mul_of_nonneg_right (show 18446744073709551616 ≤ m by omega) (Int.le_of_lt hYp)
      unfold BB at *; omega
  unfold IsRec
  rw [hY, e3]
  unfold BB at *
  exact ⟨⟨hm0, hm1⟩, by omega, by omega⟩
def RecPost (y : Int) (w : World) (e : Ending) (w' : World) : Prop := ∃ m, e = .returned (.int .u64 m) ∧ IsRec y m ∧ ∃ n, w' = w.drewN n
set_option maxHeartbeats 1000000 in
theorem reciprocalWord_any (y : Int) (w : World) (h0 : 0 < y) (h1 : y < 18446744073709551616) :
    Calls Tryz.prog 240 #[.int .u64 y] w (RecPost y w) := by
  obtain ⟨s1, s2, s3⟩ := nlz_spec h0 h1
  obtain ⟨s, hs⟩ : ∃ s, nlzOf y = s := ⟨_, rfl⟩
  rw [hs] at s1 s2 s3
  obtain ⟨Y, hY⟩ : ∃ Y, y * 2 ^ s = Y := ⟨_, rfl⟩
  rw [hY] at s2 s3
  have eY : IntKind.u64.wrap (y * 2 ^ s) = Y := by rw [hY, wrap_u64]; omega
  have hs64 : (s : Int) < 64 := by omega
  have Hs := Lib.hid (And.intro hs hY)
  have Hy := Lib.hid (show U64 y from ⟨by omega, h1⟩)
  clear hY hs
  go_enter Tryz.func240, Tryz.ntmps240
  go_wp2_with fail
  refine (nlz_any y _ Hy.out).mono ?_
  rintro e w1 ⟨rfl, rfl⟩
  rw [Hs.out.1]
  go_wp2_with fail
  rw [not_u64 Y (by omega) s3]
  refine (bitsDiv_any (18446744073709551615 - Y) 18446744073709551615 Y _ ⟨by omega, by omega⟩ ⟨by omega, by omega⟩ ⟨by omega, s3⟩ (by omega)).mono ?_
  rintro e w1 ⟨rfl, n, rfl⟩
  have HR := Lib.hid (rec_of (y := y) (Y := Y) (by rw [Hs.out.1]; exact Hs.out.2) s2 s3)
  go_wp2
  go_ret
  exact ⟨_, rfl, HR.out, n, rfl⟩
theorem fix_guess {U Y q r1 r0 : Int} (hY : 9223372036854775808 ≤ Y) (hY2 : Y < 18446744073709551616) (hr0 : 0 ≤ r0) (hr0' : r0 < 18446744073709551616) (h : r1 * BB + r0 = U - Y * q) (h0 : 0 ≤ U - Y * q) (h1 : U - Y * q < BB + Y) :
    (r1 = 0 ∧ r0 < Y ∧ q = U / Y ∧ r0 = U % Y) ∨ (r1 = 0 ∧ Y ≤ r0 ∧ q + 1 = U / Y ∧ r0 - Y = U % Y) ∨ (r1 = 1 ∧ IntKind.u64.wrap (r0 - Y) < Y ∧ q + 1 = U / Y ∧ IntKind.u64.wrap (r0 - Y) = U % Y) ∨ (r1 = 1 ∧ Y ≤ IntKind.u64.wrap (r0 - Y) ∧ q + 1 + 1 = U / Y ∧ IntKind.u64.wrap (IntKind.u64.wrap (r0 - Y) - Y) = U % Y) := by
  have hYp : 0 < Y := by omega
  have e0 := Int.emod_add_mul_ediv U Y
  have e1 := Int.emod_nonneg U (show Y ≠ 0 by omega)
  have e2 := Int.emod_lt_of_pos U hYp
  have fit : ∀ k : Int, 0 ≤ U - Y * q - k * Y → U - Y * q - k * Y < Y → q + k = U / Y ∧ U - Y * q - k * Y = U % Y := fun k h1 h2 => by
    have e3 : U = (U - Y * q - k * Y) + Y * (q + k) := by rw [Int.mul_add, Int.mul_comm k Y]; omega
    have e4 : U / Y = q + k := by
      conv => lhs; rw [e3]
      rw [Int.add_mul_ediv_left _ _ (by omega), Int.ediv_eq_zero_of_lt h1 h2]; omega
    rw [e4] at e0
    rw [Int.mul_add, Int.mul_comm Y k] at e0
    exact ⟨e4.symm, by omega⟩
  rw [wrap_u64, wrap_u64]
  unfold BB at *
  have hr1 : r1 = 0 ∨ r1 = 1 := by omega
  rcases hr1 with rfl | rfl
  · by_cases c : r0 < Y
    · have := fit 0 (by omega) (by omega)
      exact Or.inl ⟨rfl, c, by omega, by omega⟩
    · have := fit 1 (by omega) (by omega)
      exact Or.inr (Or.inl ⟨rfl, by omega, by omega, by omega⟩)
  · have e : (r0 - Y) % 18446744073709551616 = U - Y * q - Y := by omega
    rw [e]
    by_cases c : U - Y * q - Y < Y
    · have := fit 1 (by omega) (by omega)
      exact Or.inr (Or.inr (Or.inl ⟨rfl, c, by omega, by omega⟩))
    · have := fit 2 (by omega) (by omega)
      exact Or.inr (Or.inr (Or.inr ⟨rfl, by omega, by omega, by omega⟩))
theorem guess_words {m x1 x0 t1 t0 : Int} (hx1 : U64 x1) (hx0 : U64 x0) (ht : U64 t1 ∧ U64 t0 ∧ t1 * BB + t0 = m * x1) (hq : (((m + BB) * x1 + x0) / BB) < BB) : addLo t1 x1 (addHi t0 x0 0) = ((m + BB) * x1 + x0) / BB := by
  obtain ⟨⟨a1, a2⟩, ⟨a3, a4⟩, a5⟩ := ht
  obtain ⟨b1, b2⟩ := hx1
  obtain ⟨c1, c2⟩ := hx0
  have e : (m + BB) * x1 + x0 = (t1 + x1) * BB + (t0 + x0) := by rw [Int.add_mul, ← a5]; grind
  rw [e] at hq ⊢
  unfold addLo addHi
  unfold BB at *
  omega
theorem rest_words {U Y q u2 u1 d1 d0 : Int} (hu2 : U64 u2) (hu1 : U64 u1) (hU : u2 * BB + u1 = U) (hd : U64 d1 ∧ U64 d0 ∧ d1 * BB + d0 = Y * q) (h0 : 0 ≤ U - Y * q) : subLo u2 d1 (subHi u1 d0 0) * BB + subLo u1 d0 0 = U - Y * q ∧ U64 (subLo u1 d0 0) := by
  obtain ⟨⟨a1, a2⟩, ⟨a3, a4⟩, a5⟩ := hd
  obtain ⟨b1, b2⟩ := hu2
  obtain ⟨c1, c2⟩ := hu1
  unfold subLo subHi U64
  rw [← hU, ← a5] at h0 ⊢
  unfold BB at *
  split <;> omega
def DivWWPost (x1 x0 y : Int) (w : World) (e : Ending) (w' : World) : Prop :=
  e = .returned (.tuple #[.int .u64 ((x1 * BB + x0) / y), .int .u64 ((x1 * BB + x0) % y)]) ∧ w = w'
def CutWW (w : World) (u2 u1 Y : Int) (s0 s1 s2 : Value) (wc : World) : Prop := s0 = .int .u64 u2 ∧ s1 = .int .u64 u1 ∧ s2 = .int .u64 Y ∧ w = wc
theorem scale_back {X y Y U : Int} {s : Nat} (hY : y * 2 ^ s = Y) (hU : U = X * 2 ^ s) : U / Y = X / y ∧ U % Y / 2 ^ s = X % y := by
  have hp : (0:Int) < 2 ^ s := Int.pow_pos (by omega)
  subst hU; subst hY
  have h1 := Int.mul_emod_mul_of_pos X y hp
  rw [Int.mul_comm X, Int.mul_comm y]
  refine ⟨Int.mul_ediv_mul_of_pos _ _ hp, ?_⟩
  rw [h1, Int.mul_comm]
  exact Int.mul_ediv_cancel _ (by omega)
set_option maxHeartbeats 4000000 in
theorem divWW_any (x1 x0 y m : Int) (w : World) (h1 : U64 x1) (h0 : U64 x0) (hy : U64 y) (hlt : x1 < y) (hm : IsRec y m) :
    Calls Tryz.prog 241 #[.int .u64 x1, .int .u64 x0, .int .u64 y, .int .u64 m] w (DivWWPost x1 x0 y w) := by
  obtain ⟨s, hs⟩ : ∃ s, nlzOf y = s := ⟨_, rfl⟩
  have hsp := nlz_spec (x := y) (by have := h1.1; omega) hy.2
  rw [hs] at hsp
  obtain ⟨s1, s2, s3⟩ := hsp
  have hP : (0:Int) < 2 ^ s := Int.pow_pos (by omega)
  obtain ⟨Y, hY⟩ : ∃ Y, y * 2 ^ s = Y := ⟨_, rfl⟩
  have hr := hm.2
  rw [hs] at hr
  rw [hY] at s2 s3 hr
  obtain ⟨u2, u1, e1, e2, u20, u2Y, hu1, hU⟩ := shl_two (Y := Y) s1 h1 h0 (by rw [← hY]; exact Int.mul_lt_mul_of_pos_right hlt hP) s3 ⟨y, hY.symm⟩
  have eY : IntKind.u64.wrap (y * 2 ^ s) = Y := by rw [hY, wrap_u64]; omega
  have hb := scale_back hY hU
  have hg := recip_guess (d := Y) (x1 := u2) (x0 := u1) (v := m + BB) (by unfold BB; omega) (by unfold BB; omega) u20 u2Y hu1.1 (by unfold BB; exact hu1.2) hr.1 hr.2 rfl
  obtain ⟨q, hq⟩ : ∃ q, ((m + BB) * u2 + u1) / BB = q := ⟨_, rfl⟩
  rw [hq] at hg
  have HG := Lib.hid (And.intro hg hq)
  have Hb := Lib.hid hb
  have Hin := Lib.hid (And.intro h1 (And.intro h0 (And.intro hy hm.1)))
  have Hs := Lib.hid (And.intro hs hY)
  have Hu2 := Lib.hid (show U64 u2 from ⟨u20, by omega⟩)
  have Hu1 := Lib.hid hu1
  have hs64 : (s : Int) < 64 := by omega
  have hs0 : s = 0 → u2 = x1 ∧ u1 = x0 ∧ Y = y := fun hz => by
    subst hz
    rw [Int.pow_zero] at hY hU
    have a1 := h1; have a2 := h0
    unfold U64 at a1 a2 hu1
    unfold BB at hU
    omega
  have Hs0 := Lib.hid hs0
  clear hr hU hg hq hb h1 h0 hy hm hs hY hlt hu1 hs0 hP
  go_enter Tryz.func241, Tryz.ntmps241
  go_wp2_with fail
  refine (nlz_any y _ Hin.out.2.2.1).mono ?_
  rintro e w1 ⟨rfl, rfl⟩
  rw [Hs.out.1]
  go_upto_if 26 with fail
  go_cut [0, 1, 2] (CutWW w u2 u1 Y)
  case first => as_aux_lemma =>
    by_cases hz : s = 0
    · obtain ⟨k1, k2, k3⟩ := Hs0.out hz
      subst hz
      go_wp2
      go_meet
      exact ⟨by rw [k1], by rw [k2], by rw [k3], rfl⟩
    · have hzb : ((s : Int) != 0) = true := by simp [hz]
      go_wp2
      go_meet
      exact ⟨rfl, rfl, rfl, rfl⟩
  case rest =>
    obtain ⟨rfl, rfl, rfl, rfl⟩ := hcut
    clear e1 e2 eY
    go_wp2_with fail
    refine (Mul_any m u2 _ Hin.out.2.2.2 Hu2.out).mono ?_
    rintro e w1 ⟨t1, t0, rfl, ht, rfl⟩
    have Ht := Lib.hid ht
    clear ht
    go_wp2_with fail
    refine (Add_det t0 u1 0 _ Ht.out.2.1 Hu1.out (by omega)).mono ?_
    rintro e w1 ⟨rfl, rfl⟩
    have hsp := add_spec Ht.out.2.1 Hu1.out (show (0:Int) ≤ 0 ∧ (0:Int) ≤ 1 by omega)
    have Hsp := Lib.hid hsp
    clear hsp
    go_wp2_with fail
    refine (Add_det t1 u2 (addHi t0 u1 0) _ Ht.out.1 Hu2.out Hsp.out.2.1).mono ?_
    rintro e w1 ⟨rfl, rfl⟩
    rw [guess_words Hu2.out Hu1.out Ht.out (by rw [HG.out.2]; exact HG.out.1.2.2.2), HG.out.2]
    have hqU : Hid (U64 q) := ⟨HG.out.1.2.2.1, HG.out.1.2.2.2⟩
    go_wp2_with fail
    refine (Mul_any Y q _ ⟨by omega, s3⟩ hqU.out).mono ?_
    rintro e w1 ⟨d1, d0, rfl, hd, rfl⟩
    have Hd := Lib.hid hd
    clear hd
    go_wp2_with fail
    refine (Sub_det u1 d0 0 _ Hu1.out Hd.out.2.1 (by omega)).mono ?_
    rintro e w1 ⟨rfl, rfl⟩
    have hsp := sub_spec Hu1.out Hd.out.2.1 (show (0:Int) ≤ 0 ∧ (0:Int) ≤ 1 by omega)
    have Hsp2 := Lib.hid hsp
    clear hsp
    go_wp2_with fail
    refine (Sub_det u2 d1 (subHi u1 d0 0) _ Hu2.out Hd.out.1 Hsp2.out.2.1).mono ?_
    rintro e w1 ⟨rfl, rfl⟩
    have hrw := rest_words (U := u2 * BB + u1) Hu2.out Hu1.out rfl Hd.out HG.out.1.1
    obtain ⟨r1, hr1⟩ : ∃ r, subLo u2 d1 (subHi u1 d0 0) = r := ⟨_, rfl⟩
    obtain ⟨r0, hr0⟩ : ∃ r, subLo u1 d0 0 = r := ⟨_, rfl⟩
    rw [hr1, hr0] at hrw
    rw [hr1, hr0]
    have hfix := fix_guess s2 s3 hrw.2.1 hrw.2.2 hrw.1 HG.out.1.1 HG.out.1.2.1
    have hr0a : 0 ≤ r0 := hrw.2.1
    have hr0b : r0 < 18446744073709551616 := hrw.2.2
    have hq0 : 0 ≤ q := hqU.out.1
    have HQb : Hid ((u2 * BB + u1) / Y < 18446744073709551616) := by
      unfold Hid
      rw [Int.ediv_lt_iff_lt_mul (by omega)]
      have := Hu1.out.2
      unfold BB; omega
    clear hr1 hr0 hrw
    rcases hfix with ⟨k1, k2, k3, k4⟩ | ⟨k1, k2, k3, k4⟩ | ⟨k1, k2, k3, k4⟩ | ⟨k1, k2, k3, k4⟩
    · have HF := Lib.hid (And.intro k3 k4)
      clear k3 k4
      subst k1
      go_wp2_with fail
      go_ret2
      exact ⟨by rw [← Hb.out.1, ← Hb.out.2, ← HF.out.1, ← HF.out.2]; first | done | rfl, rfl⟩
    · have HF := Lib.hid (And.intro k3 k4)
      have hqb : q + 1 < 18446744073709551616 := by rw [k3]; exact HQb.out
      clear k3 k4
      subst k1
      go_wp2_with fail
      go_ret2
      exact ⟨by rw [← Hb.out.1, ← Hb.out.2, ← HF.out.1, ← HF.out.2]; first | done | rfl, rfl⟩
    · have HF := Lib.hid (And.intro k3 k4)
      have hqb : q + 1 < 18446744073709551616 := by rw [k3]; exact HQb.out
      clear k3 k4
      subst k1
      go_wp2_with fail
      go_ret2
      exact ⟨by rw [← Hb.out.1, ← Hb.out.2, ← HF.out.1, ← HF.out.2]; first | done | rfl, rfl⟩
    · have HF := Lib.hid (And.intro k3 k4)
      have hqb : q + 1 + 1 < 18446744073709551616 := by rw [k3]; exact HQb.out
      clear k3 k4
      subst k1
      go_wp2_with fail
      go_ret2
      exact ⟨by rw [← Hb.out.1, ← Hb.out.2, ← HF.out.1, ← HF.out.2]; first | done | rfl, rfl⟩
theorem setUint64_any (az : Option Addr) (zl zc : Nat) (x : Int) (w : World) (hz : ZOK w az zc) (hx : U64 x) : Calls Tryz.prog 78 #[.slice az zl zc, .int .u64 x] w (NatRes w az zc x) := by
  have HC := Lib.hid (setWord_any az zl zc x w hz hx)
  clear hz hx
  go_enter Tryz.func78, Tryz.ntmps78
  go_wp2_with fail
  refine HC.out.mono ?_
  rintro e w1 ⟨a, n, c, X, rfl, h⟩
  have H := Lib.hid h
  clear h
  go_wp2
  go_ret
  exact ⟨a, n, c, X, rfl, H.out⟩
theorem val_snoc (X : Nat → Int) (k : Nat) : val X (k + 1) = val X k + BB ^ k * X k := by rw [val_add, val_one]; rfl
theorem norm_shift {X Z : Nat → Int} {k s : Nat} {c : Int} (hX : WF X (k + 1)) (hZ : WF Z (k + 1)) (hc : 0 ≤ c) (h1 : 9223372036854775808 ≤ X k * 2 ^ s) (h2 : X k * 2 ^ s < 18446744073709551616) (hs : s < 64) (h : val Z (k + 1) + c * BB ^ (k + 1) = val X (k + 1) * 2 ^ s) : c = 0 ∧ 9223372036854775808 ≤ Z k := by
  have hP := BBn_pos k
  have h2s : (0 : Int) < 2 ^ s := Int.pow_pos (by decide)
  have e1 := val_snoc X k
  have e2 := val_snoc Z k
  have a1 := val_nonneg (hX.le (show k ≤ k + 1 by omega))
  have a2 := val_lt (hX.le (show k ≤ k + 1 by omega))
  have a3 := val_nonneg hZ
  have a4 := val_lt (hZ.le (show k ≤ k + 1 by omega))
  have hsp : (2 : Int) ^ s * 2 ^ (64 - s) = 18446744073709551616 := by
    rw [← Int.pow_add, show s + (64 - s) = 64 by omega]; decide
  have hx1 : X k + 1 ≤ 2 ^ (64 - s) := by
    by_cases hh : X k + 1 ≤ 2 ^ (64 - s)
    · exact hh
    · exfalso
      have := Int.mul_le_mul_of_nonneg_right (show (2 : Int) ^ (64 - s) ≤ X k by omega) (Int.le_of_lt h2s)
      rw [Int.mul_comm ((2 : Int) ^ (64 - s)), hsp] at this
      omega
  have b1 : val X (k + 1) < BB ^ k * (X k + 1) := by rw [Int.mul_add]; omega
  have b2 : val X (k + 1) * 2 ^ s < BB ^ k * (X k + 1) * 2 ^ s := Int.mul_lt_mul_of_pos_right b1 h2s
  have b3 : BB ^ k * (X k + 1) * 2 ^ s ≤ BB ^ k * 2 ^ (64 - s) * 2 ^ s := Int.mul_le_mul_of_nonneg_right (Int.mul_le_mul_of_nonneg_left hx1 (Int.le_of_lt hP)) (Int.le_of_lt h2s)
  have b4 : BB ^ k * 2 ^ (64 - s) * 2 ^ s = BB ^ (k + 1) := by
    rw [Int.mul_assoc, Int.mul_comm ((2 : Int) ^ (64 - s)), hsp, BB_succ]; rfl
  have hc0 : c = 0 := by
    by_cases h0 : c = 0
    · exact h0
    · exfalso
      have := Int.mul_le_mul_of_nonneg_right (show 1 ≤ c by omega) (Int.le_of_lt (BBn_pos (k + 1)))
      omega
  refine ⟨hc0, ?_⟩
  subst hc0
  have d1 : BB ^ k * (X k * 2 ^ s) ≤ val X (k + 1) * 2 ^ s := by
    rw [← Int.mul_assoc]
    exact Int.mul_le_mul_of_nonneg_right (by omega) (Int.le_of_lt h2s)
  have d2 := Int.mul_le_mul_of_nonneg_left h1 (Int.le_of_lt hP)
  by_cases hz : 9223372036854775808 ≤ Z k
  · exact hz
  · exfalso
    have d3 := Int.mul_le_mul_of_nonneg_left (show Z k + 1 ≤ 9223372036854775808 by omega) (Int.le_of_lt hP)
    rw [Int.mul_add] at d3
    omega
end Go.Proofs.YtmgfajamanakcaaGreatDoor
namespace Go.Proofs.YtmgfajamanakcaaGreatDoor
set_option linter.unusedVariables false
set_option linter.unusedSimpArgs false
def lft (r D : Int) : Int := if r = 0 then 0 else if 2 * r < D then 1 else if 2 * r = D then 2 else 3
structure Cls (N D q l : Int) : Prop where
  hq : q = N / D
  hl : l = lft (N % D) D
theorem lft_scale {c r D : Int} (hc : 0 < c) : lft (c * r) (c * D) = lft r D := by
  unfold lft
  have e1 : (c * r = 0) ↔ r = 0 := by rw [Int.mul_eq_zero]; omega
  have e2 : (2 * (c * r) < c * D) ↔ 2 * r < D := by rw [← Int.mul_assoc, Int.mul_comm 2 c, Int.mul_assoc]; exact Int.mul_lt_mul_left hc
  have e3 : (2 * (c * r) = c * D) ↔ 2 * r = D := by
    rw [← Int.mul_assoc, Int.mul_comm 2 c, Int.mul_assoc]
    exact ⟨fun h => Int.eq_of_mul_eq_mul_left (by omega) h, fun h => by rw [h]⟩
  simp only [e1, e2, e3]
theorem Cls.scale {N D q l c : Int} (hc : 0 < c) : Cls (c * N) (c * D) q l ↔ Cls N D q l := by
  have e1 : c * N / (c * D) = N / D := Int.mul_ediv_mul_of_pos _ _ hc
  have e2 : c * N % (c * D) = c * (N % D) := Int.mul_emod_mul_of_pos _ _ hc
  constructor
  · rintro ⟨h1, h2⟩
    rw [e1] at h1; rw [e2, lft_scale hc] at h2; exact ⟨h1, h2⟩
  · rintro ⟨h1, h2⟩
    refine ⟨by rw [e1]; exact h1, by rw [e2, lft_scale hc]; exact h2⟩
def lftS (r H : Int) (sb : Bool) : Int := if r = 0 ∧ sb = false then 0 else if r < H then 1 else if r = H ∧ sb = false then 2 else 3
def Rnd (N D : Int) (p : Nat) (q t l : Int) : Prop := ∃ a b : Nat, t = (b : Int) - a ∧ Cls (N * 2 ^ a) (D * 2 ^ b) q l ∧ 2 ^ (p - 1) ≤ q ∧ q < 2 ^ p
theorem two_pos (k : Nat) : (0 : Int) < 2 ^ k := Int.pow_pos (by omega)
theorem Rnd.raise {N D q t l : Int} {p a b : Nat} (ht : t = (b : Int) - a) (h : Cls (N * 2 ^ a) (D * 2 ^ b) q l) (c : Nat) : Cls (N * 2 ^ (a + c)) (D * 2 ^ (b + c)) q l := by
  have := (Cls.scale (two_pos c)).2 h
  rw [show (2 : Int) ^ c * (N * 2 ^ a) = N * 2 ^ (a + c) by rw [Int.pow_add]; grind, show (2 : Int) ^ c * (D * 2 ^ b) = D * 2 ^ (b + c) by rw [Int.pow_add]; grind] at this
  exact this
theorem Rnd.le {N D q t l q' t' l' : Int} {p : Nat} (hD : 0 < D) (hp : 1 ≤ p) (h : Rnd N D p q t l) (h' : Rnd N D p q' t' l') : t' ≤ t := by
  by_cases hlt : t' ≤ t
  · exact hlt
  · exfalso
    obtain ⟨a, b, ht, hc, h1, h2⟩ := h
    obtain ⟨a', b', ht', hc', h1', h2'⟩ := h'
    have r1 := Rnd.raise (p := p) ht hc a'
    have r2 := Rnd.raise (p := p) ht' hc' a
    rw [Nat.add_comm a' a] at r2
    obtain ⟨d, hd⟩ : ∃ d, b' + a = (b + a') + (d + 1) := ⟨b' + a - (b + a') - 1, by omega⟩
    rw [hd] at r2
    have e1 := r1.hq
    have e2 := r2.hq
    rw [Int.pow_add _ (b + a') (d + 1), ← Int.mul_assoc, ← Int.ediv_ediv_of_nonneg (by have := Int.mul_pos hD (two_pos (b + a')); omega), ← e1] at e2
    have h3 : 2 ^ (p - 1) * 2 ^ (d + 1) ≤ q' * 2 ^ (d + 1) := Int.mul_le_mul_of_nonneg_right h1' (Int.le_of_lt (two_pos _))
    have h4 : q' * 2 ^ (d + 1) ≤ q := by rw [e2]; exact Int.ediv_mul_le _ (by have := two_pos (d + 1); omega)
    have h5 : (2 : Int) ^ (p - 1) * 2 ^ (d + 1) = 2 ^ p * 2 ^ d := by rw [← Int.pow_add, ← Int.pow_add]; congr 1; omega
    have h6 : (2 : Int) ^ p * 1 ≤ 2 ^ p * 2 ^ d := Int.mul_le_mul_of_nonneg_left (by have := two_pos d; omega) (Int.le_of_lt (two_pos p))
    omega
theorem Rnd.unique {N D q t l q' t' l' : Int} {p : Nat} (hD : 0 < D) (hp : 1 ≤ p) (h : Rnd N D p q t l) (h' : Rnd N D p q' t' l') : q = q' ∧ t = t' ∧ l = l' := by
  have e := h.le hD hp h'
  have e' := h'.le hD hp h
  obtain rfl : t = t' := by omega
  obtain ⟨a, b, ht, hc, h1, h2⟩ := h
  obtain ⟨a', b', ht', hc', h1', h2'⟩ := h'
  have r1 := Rnd.raise (p := p) ht hc a'
  have r2 := Rnd.raise (p := p) ht' hc' a
  rw [Nat.add_comm a' a, show b' + a = b + a' by omega] at r2
  exact ⟨r1.hq.trans r2.hq.symm, rfl, r1.hl.trans r2.hl.symm⟩
def incS (neg odd : Bool) (l mode : Int) : Bool :=
  if mode = 0 then l == 3 || (l == 2 && odd) else if mode = 1 then decide (2 ≤ l) else if mode = 3 then decide (0 < l) else if mode = 4 then decide (0 < l) && neg else if mode = 5 then decide (0 < l) && !neg else false
def accS (neg inc : Bool) (l : Int) : Int := if l = 0 then 0 else if inc != neg then 1 else -1
def Rounded (neg : Bool) (N D : Int) (p : Nat) (mode m t acc : Int) : Prop :=
  ∃ q l, Rnd N D p q t l ∧ m = q + (if incS neg (q % 2 == 1) l mode then 1 else 0) ∧ acc = accS neg (incS neg (q % 2 == 1) l mode) l
theorem Rounded.unique {neg : Bool} {N D mode m t acc m' t' acc' : Int} {p : Nat} (hD : 0 < D) (hp : 1 ≤ p) (h : Rounded neg N D p mode m t acc) (h' : Rounded neg N D p mode m' t' acc') : m = m' ∧ t = t' ∧ acc = acc' := by
  obtain ⟨q, l, h1, h2, h3⟩ := h
  obtain ⟨q', l', h1', h2', h3'⟩ := h'
  obtain ⟨rfl, rfl, rfl⟩ := h1.unique hD hp h1'
  exact ⟨h2.trans h2'.symm, rfl, h3.trans h3'.symm⟩
theorem BB_two : BB = 2 ^ 64 := by decide
theorem BB_pow (j : Nat) : BB ^ j = 2 ^ (64 * j) := by
  rw [BB_two, ← Int.pow_mul]
theorem add_mul_div {a b P k : Int} (h0 : 0 ≤ a) (h1 : a < P) : (a + P * b) / (P * k) = b / k := by
  have hP : 0 < P := by omega
  rw [← Int.ediv_ediv_of_nonneg (Int.le_of_lt hP), Int.add_mul_ediv_left _ _ (by omega), Int.ediv_eq_zero_of_lt h0 h1, Int.zero_add]
theorem add_mul_mod {a b P k : Int} (h0 : 0 ≤ a) (h1 : a < P) (hk : 0 < k) : (a + P * b) % (P * k) = a + P * (b % k) := by
  have hP : 0 < P := by omega
  have e1 := Int.emod_add_mul_ediv (a + P * b) (P * k)
  rw [add_mul_div h0 h1] at e1
  have e2 := Int.emod_add_mul_ediv b k
  have e3 : P * b = P * (b % k) + P * k * (b / k) := by
    rw [Int.mul_assoc, ← Int.mul_add, e2]
  omega
theorem lftS_bits {M : Int} {r : Nat} {sb : Bool} (hM : 0 ≤ M) : lftS (M % 2 ^ (r + 1)) (2 ^ r) sb = (if M / 2 ^ r % 2 = 0 then 0 else 2) + (if M % 2 ^ r = 0 ∧ sb = false then 0 else 1) := by
  have hp : (0 : Int) < 2 ^ r := Int.pow_pos (by decide)
  have e1 := Int.emod_add_mul_ediv M (2 ^ r)
  have e2 := Int.emod_add_mul_ediv (M / 2 ^ r) 2
  have e3 : M % 2 ^ (r + 1) = M % 2 ^ r + 2 ^ r * (M / 2 ^ r % 2) := by
    rw [Int.pow_succ]
    have := add_mul_mod (a := M % 2 ^ r) (b := M / 2 ^ r) (P := 2 ^ r) (k := 2) (Int.emod_nonneg _ (by omega)) (Int.emod_lt_of_pos _ hp) (by decide)
    rw [e1] at this
    exact this
  have a0 := Int.emod_nonneg M (show (2 : Int) ^ r ≠ 0 by omega)
  have a1 := Int.emod_lt_of_pos M hp
  rw [e3]
  unfold lftS
  rcases Int.emod_two_eq (M / 2 ^ r) with h | h
  · rw [h, if_pos rfl, Int.mul_zero, Int.add_zero, Int.zero_add]
    by_cases hz : M % 2 ^ r = 0 ∧ sb = false
    · rw [if_pos hz, if_pos hz]
    · rw [if_neg hz, if_neg hz, if_pos a1]
  · rw [h, if_neg (show ¬ ((1 : Int) = 0) by decide), Int.mul_one]
    rw [if_neg (show ¬ (M % 2 ^ r + 2 ^ r = 0 ∧ sb = false) from fun h => by have := h.1; omega), if_neg (show ¬ (M % 2 ^ r + 2 ^ r < 2 ^ r) by omega)]
    by_cases hz : M % 2 ^ r = 0 ∧ sb = false
    · rw [if_pos hz, if_pos ⟨by omega, hz.2⟩]; rfl
    · rw [if_neg hz, if_neg (by rintro ⟨h, h'⟩; exact hz ⟨by omega, h'⟩)]; rfl
def rq (M : Int) (L p : Nat) : Int := M / 2 ^ (L - p)
def rl (M : Int) (L p : Nat) (sb : Bool) : Int := lftS (M % 2 ^ (L - p)) (2 ^ (L - p - 1)) sb
def rinc (neg : Bool) (M : Int) (L p : Nat) (md : Int) (sb : Bool) : Bool := incS neg (rq M L p % 2 == 1) (rl M L p sb) md
def rm (neg : Bool) (M : Int) (L p : Nat) (md : Int) (sb : Bool) : Int := rq M L p + (if rinc neg M L p md sb then 1 else 0)
def racc (neg : Bool) (M : Int) (L p : Nat) (md : Int) (sb : Bool) : Int := accS neg (rinc neg M L p md sb) (rl M L p sb)
end Go.Proofs.YtmgfajamanakcaaGreatDoor
namespace Go.Proofs.YtmgfajamanakcaaGreatDoor
set_option linter.unusedVariables false
set_option linter.unusedSimpArgs false
open Go.RowKit
set_option maxRecDepth 100000
structure FNum (w : World) (b : Nat) (v : FV) (X : Nat → Int) : Prop where
  c : FltC w b v
  z : ZOK w v.a v.c
  ap : ∀ b' o, v.a = some ⟨b', o, none⟩ → b' ≠ b
  p : 1 ≤ v.p ∧ v.p < 1048576
  md : 0 ≤ v.md ∧ v.md ≤ 5
  fm : v.fm = 0 ∨ v.fm = 1 ∨ v.fm = 2
  ex : -2147483648 ≤ v.e ∧ v.e ≤ 2147483647
  fin : v.fm = 1 → 0 < v.n ∧ v.n ≤ v.c ∧ v.n < 65536 ∧ Rd w v.a v.n X ∧ WF X v.n ∧ 9223372036854775808 ≤ X (v.n - 1)
def zF (b : Nat) (v : FV) : Zone := fun b' o => zRow b 0 7 b' o ∨ zAddr v.a v.c b' o
theorem FNum.chg {Z : Zone} {w w' : World} {b : Nat} {v : FV} {X : Nat → Int} (h : FNum w b v X) (k : Chg Z w w') (hz : ∀ b' o, zF b v b' o → ¬ Z b' o) : FNum w' b v X := by
  refine ⟨h.c.chg k (fun o ho => hz b o (Or.inl ⟨rfl, by omega, by omega⟩)), h.z.chg k (fun b' o hh => hz b' o (Or.inr hh)), h.ap, h.p, h.md, h.fm, h.ex, fun e => ?_⟩
  obtain ⟨h1, h2, h3, h4, h5, h6⟩ := h.fin e
  refine ⟨h1, h2, h3, ?_, h5, h6⟩
  rcases h4 with hh | ⟨b', o, e', hw⟩
  · exact Or.inl hh
  · exact Or.inr ⟨b', o, e', hw.chg k (fun i hi => hz b' (o + i) (Or.inr ⟨o, e', by omega, by omega⟩))⟩
theorem FNum.words {w : World} {b : Nat} {v : FV} {X : Nat → Int} (h : FNum w b v X) (e : v.fm = 1) : ∃ bm om, v.a = some ⟨bm, om, none⟩ ∧ Words w bm om v.n X ∧ Room w bm om v.c ∧ PB w bm ∧ bm ≠ b := by
  obtain ⟨h1, h2, h3, h4, h5, h6⟩ := h.fin e
  rcases h4 with hh | ⟨bm, om, e', hw⟩
  · omega
  · rcases h.z with ⟨e2, _⟩ | ⟨b2, o2, e2, hp, hr, _⟩
    · rw [e2] at e'; cases e'
    · rw [e2] at e'; injection e' with e'; injection e' with e3 e4; subst e3; subst e4
      exact ⟨b2, o2, e2, hw, hr, hp, h.ap _ _ e2⟩
end Go.Proofs.YtmgfajamanakcaaGreatDoor
