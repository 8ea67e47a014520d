/- Part of the proof of FnParse: what the functions that it reaches do, as contracts. Conditions: those that each theorem names. -/
import Derived.Test.YtmgfajamanakcaaGreatDoorR11
import Derived.Outline
import Derived.Test.YtmgfajamanakcaaGreatDoorR06
import Derived.Test.YtmgfajamanakcaaGreatDoorR01
namespace Go.Proofs.YtmgfajamanakcaaGreatDoor
set_option linter.unusedVariables false
set_option linter.unusedSimpArgs false
open Go.RowKit
set_option maxRecDepth 100000
def IsRec (y m : Int) : Prop := U64 m ∧ (m + BB) * (y * 2 ^ nlzOf y) ≤ BB * BB - 1 ∧ BB * BB - 1 < (m + BB) * (y * 2 ^ nlzOf y) + y * 2 ^ nlzOf y
theorem not_u64 (u : Int) (h0 : 0 ≤ u) (h1 : u < 18446744073709551616) : bits BinOp.xor IntKind.u64 IntKind.u64.max u = 18446744073709551615 - u := by
  obtain ⟨n, rfl⟩ := Int.eq_ofNat_of_zero_le h0
  have h : BitVec.ofInt 64 IntKind.u64.max = BitVec.allOnes 64 := by decide
  have key : (BitVec.ofInt 64 IntKind.u64.max ^^^ BitVec.ofInt 64 (n : Int)).toNat = 18446744073709551615 - n := by
    rw [h, BitVec.allOnes_xor, BitVec.toNat_not, BitVec.toNat_ofInt]
    omega
  show IntKind.u64.wrap ((BitVec.ofInt 64 IntKind.u64.max ^^^ BitVec.ofInt 64 (n : Int)).toNat : Nat) = _
  rw [key, IntKind.wrap_u64]
  omega
theorem rec_of {y Y : Int} (hY : y * 2 ^ nlzOf y = Y) (h2 : 9223372036854775808 ≤ Y) (h3 : Y < 18446744073709551616) : IsRec y (((18446744073709551615 - Y) * BB + 18446744073709551615) / Y) := by
  have hYp : 0 < Y := by omega
  have e0 := Int.emod_add_mul_ediv ((18446744073709551615 - Y) * BB + 18446744073709551615) Y
  have e1 := Int.emod_nonneg ((18446744073709551615 - Y) * BB + 18446744073709551615) (show Y ≠ 0 by omega)
  have e2 := Int.emod_lt_of_pos ((18446744073709551615 - Y) * BB + 18446744073709551615) hYp
  obtain ⟨m, hm⟩ : ∃ m, ((18446744073709551615 - Y) * BB + 18446744073709551615) / Y = m := ⟨_, rfl⟩
  have hm0 : 0 ≤ m := by rw [← hm]; exact Int.ediv_nonneg (by unfold BB; omega) (by omega)
  rw [hm, Int.mul_comm Y m] at e0
  rw [hm]
  have e3 : (m + BB) * Y = m * Y + BB * Y := Int.add_mul ..
  have hm1 : m < 18446744073709551616 := by
    by_cases h : m < 18446744073709551616
    · exact h
    · have := Int.mul_le_mul_of_nonneg_right (show 18446744073709551616 ≤ m by omega) (Int.le_of_lt hYp)
      unfold BB at *; omega
  unfold IsRec
  rw [hY, e3]
  unfold BB at *
  exact ⟨⟨hm0, hm1⟩, by omega, by omega⟩
def RecPost (y : Int) (w : World) (e : Ending) (w' : World) : Prop := ∃ m, e = .returned (.int .u64 m) ∧ IsRec y m ∧ ∃ n, w' = w.drewN n
set_option maxHeartbeats 1000000 in
theorem reciprocalWord_any (y : Int) (w : World) (h0 : 0 < y) (h1 : y < 18446744073709551616) :
    Calls Tryz.prog 240 #[.int .u64 y] w (RecPost y w) := by
  obtain ⟨s1, s2, s3⟩ := nlz_spec h0 h1
  obtain ⟨s, hs⟩ : ∃ s, nlzOf y = s := ⟨_, rfl⟩
  rw [hs] at s1 s2 s3
  obtain ⟨Y, hY⟩ : ∃ Y, y * 2 ^ s = Y := ⟨_, rfl⟩
  rw [hY] at s2 s3
  have eY : IntKind.u64.wrap (y * 2 ^ s) = Y := by rw [hY, wrap_u64]; omega
  have hs64 : (s : Int) < 64 := by omega
  have Hs := Lib.hid (And.intro hs hY)
  have Hy := Lib.hid (show U64 y from ⟨by omega, h1⟩)
  clear hY hs
  go_enter Tryz.func240, Tryz.ntmps240
  go_wp2_with fail
  refine (nlz_any y _ Hy.out).mono ?_
  rintro e w1 ⟨rfl, rfl⟩
  rw [Hs.out.1]
  go_wp2_with fail
  rw [not_u64 Y (by omega) s3]
  refine (bitsDiv_any (18446744073709551615 - Y) 18446744073709551615 Y _ ⟨by omega, by omega⟩ ⟨by omega, by omega⟩ ⟨by omega, s3⟩ (by omega)).mono ?_
  rintro e w1 ⟨rfl, n, rfl⟩
  have HR := Lib.hid (rec_of (y := y) (Y := Y) (by rw [Hs.out.1]; exact Hs.out.2) s2 s3)
  go_wp2
  go_ret
  exact ⟨_, rfl, HR.out, n, rfl⟩
theorem fix_guess {U Y q r1 r0 : Int} (hY : 9223372036854775808 ≤ Y) (hY2 : Y < 18446744073709551616) (hr0 : 0 ≤ r0) (hr0' : r0 < 18446744073709551616) (h : r1 * BB + r0 = U - Y * q) (h0 : 0 ≤ U - Y * q) (h1 : U - Y * q < BB + Y) :
    (r1 = 0 ∧ r0 < Y ∧ q = U / Y ∧ r0 = U % Y) ∨ (r1 = 0 ∧ Y ≤ r0 ∧ q + 1 = U / Y ∧ r0 - Y = U % Y) ∨ (r1 = 1 ∧ IntKind.u64.wrap (r0 - Y) < Y ∧ q + 1 = U / Y ∧ IntKind.u64.wrap (r0 - Y) = U % Y) ∨ (r1 = 1 ∧ Y ≤ IntKind.u64.wrap (r0 - Y) ∧ q + 1 + 1 = U / Y ∧ IntKind.u64.wrap (IntKind.u64.wrap (r0 - Y) - Y) = U % Y) := by
  have hYp : 0 < Y := by omega
  have e0 := Int.emod_add_mul_ediv U Y
  have e1 := Int.emod_nonneg U (show Y ≠ 0 by omega)
  have e2 := Int.emod_lt_of_pos U hYp
  have fit : ∀ k : Int, 0 ≤ U - Y * q - k * Y → U - Y * q - k * Y < Y → q + k = U / Y ∧ U - Y * q - k * Y = U % Y := fun k h1 h2 => by
    have e3 : U = (U - Y * q - k * Y) + Y * (q + k) := by rw [Int.mul_add, Int.mul_comm k Y]; omega
    have e4 : U / Y = q + k := by
      conv => lhs; rw [e3]
      rw [Int.add_mul_ediv_left _ _ (by omega), Int.ediv_eq_zero_of_lt h1 h2]; omega
    rw [e4] at e0
    rw [Int.mul_add, Int.mul_comm Y k] at e0
    exact ⟨e4.symm, by omega⟩
  rw [wrap_u64, wrap_u64]
  unfold BB at *
  have hr1 : r1 = 0 ∨ r1 = 1 := by omega
  rcases hr1 with rfl | rfl
  · by_cases c : r0 < Y
    · have := fit 0 (by omega) (by omega)
      exact Or.inl ⟨rfl, c, by omega, by omega⟩
    · have := fit 1 (by omega) (by omega)
      exact Or.inr (Or.inl ⟨rfl, by omega, by omega, by omega⟩)
  · have e : (r0 - Y) % 18446744073709551616 = U - Y * q - Y := by omega
    rw [e]
    by_cases c : U - Y * q - Y < Y
    · have := fit 1 (by omega) (by omega)
      exact Or.inr (Or.inr (Or.inl ⟨rfl, c, by omega, by omega⟩))
    · have := fit 2 (by omega) (by omega)
      exact Or.inr (Or.inr (Or.inr ⟨rfl, by omega, by omega, by omega⟩))
theorem guess_words {m x1 x0 t1 t0 : Int} (hx1 : U64 x1) (hx0 : U64 x0) (ht : U64 t1 ∧ U64 t0 ∧ t1 * BB + t0 = m * x1) (hq : (((m + BB) * x1 + x0) / BB) < BB) : addLo t1 x1 (addHi t0 x0 0) = ((m + BB) * x1 + x0) / BB := by
  obtain ⟨⟨a1, a2⟩, ⟨a3, a4⟩, a5⟩ := ht
  obtain ⟨b1, b2⟩ := hx1
  obtain ⟨c1, c2⟩ := hx0
  have e : (m + BB) * x1 + x0 = (t1 + x1) * BB + (t0 + x0) := by rw [Int.add_mul, ← a5]; grind
  rw [e] at hq ⊢
  unfold addLo addHi
  unfold BB at *
  omega
theorem rest_words {U Y q u2 u1 d1 d0 : Int} (hu2 : U64 u2) (hu1 : U64 u1) (hU : u2 * BB + u1 = U) (hd : U64 d1 ∧ U64 d0 ∧ d1 * BB + d0 = Y * q) (h0 : 0 ≤ U - Y * q) : subLo u2 d1 (subHi u1 d0 0) * BB + subLo u1 d0 0 = U - Y * q ∧ U64 (subLo u1 d0 0) := by
  obtain ⟨⟨a1, a2⟩, ⟨a3, a4⟩, a5⟩ := hd
  obtain ⟨b1, b2⟩ := hu2
  obtain ⟨c1, c2⟩ := hu1
  unfold subLo subHi U64
  rw [← hU, ← a5] at h0 ⊢
  unfold BB at *
  split <;> omega
def DivWWPost (x1 x0 y : Int) (w : World) (e : Ending) (w' : World) : Prop :=
  e = .returned (.tuple #[.int .u64 ((x1 * BB + x0) / y), .int .u64 ((x1 * BB + x0) % y)]) ∧ w = w'
def CutWW (w : World) (u2 u1 Y : Int) (s0 s1 s2 : Value) (wc : World) : Prop := s0 = .int .u64 u2 ∧ s1 = .int .u64 u1 ∧ s2 = .int .u64 Y ∧ w = wc
theorem scale_back {X y Y U : Int} {s : Nat} (hY : y * 2 ^ s = Y) (hU : U = X * 2 ^ s) : U / Y = X / y ∧ U % Y / 2 ^ s = X % y := by
  have hp : (0:Int) < 2 ^ s := Int.pow_pos (by omega)
  subst hU; subst hY
  have h1 := Int.mul_emod_mul_of_pos X y hp
  rw [Int.mul_comm X, Int.mul_comm y]
  refine ⟨Int.mul_ediv_mul_of_pos _ _ hp, ?_⟩
  rw [h1, Int.mul_comm]
  exact Int.mul_ediv_cancel _ (by omega)
set_option maxHeartbeats 4000000 in
theorem divWW_any (x1 x0 y m : Int) (w : World) (h1 : U64 x1) (h0 : U64 x0) (hy : U64 y) (hlt : x1 < y) (hm : IsRec y m) :
    Calls Tryz.prog 241 #[.int .u64 x1, .int .u64 x0, .int .u64 y, .int .u64 m] w (DivWWPost x1 x0 y w) := by
  obtain ⟨s, hs⟩ : ∃ s, nlzOf y = s := ⟨_, rfl⟩
  have hsp := nlz_spec (x := y) (by have := h1.1; omega) hy.2
  rw [hs] at hsp
  obtain ⟨s1, s2, s3⟩ := hsp
  have hP : (0:Int) < 2 ^ s := Int.pow_pos (by omega)
  obtain ⟨Y, hY⟩ : ∃ Y, y * 2 ^ s = Y := ⟨_, rfl⟩
  have hr := hm.2
  rw [hs] at hr
  rw [hY] at s2 s3 hr
  obtain ⟨u2, u1, e1, e2, u20, u2Y, hu1, hU⟩ := shl_two (Y := Y) s1 h1 h0 (by rw [← hY]; exact Int.mul_lt_mul_of_pos_right hlt hP) s3 ⟨y, hY.symm⟩
  have eY : IntKind.u64.wrap (y * 2 ^ s) = Y := by rw [hY, wrap_u64]; omega
  have hb := scale_back hY hU
  have hg := recip_guess (d := Y) (x1 := u2) (x0 := u1) (v := m + BB) (by unfold BB; omega) (by unfold BB; omega) u20 u2Y hu1.1 (by unfold BB; exact hu1.2) hr.1 hr.2 rfl
  obtain ⟨q, hq⟩ : ∃ q, ((m + BB) * u2 + u1) / BB = q := ⟨_, rfl⟩
  rw [hq] at hg
  have HG := Lib.hid (And.intro hg hq)
  have Hb := Lib.hid hb
  have Hin := Lib.hid (And.intro h1 (And.intro h0 (And.intro hy hm.1)))
  have Hs := Lib.hid (And.intro hs hY)
  have Hu2 := Lib.hid (show U64 u2 from ⟨u20, by omega⟩)
  have Hu1 := Lib.hid hu1
  have hs64 : (s : Int) < 64 := by omega
  have hs0 : s = 0 → u2 = x1 ∧ u1 = x0 ∧ Y = y := fun hz => by
    subst hz
    rw [Int.pow_zero] at hY hU
    have a1 := h1; have a2 := h0
    unfold U64 at a1 a2 hu1
    unfold BB at hU
    omega
  have Hs0 := Lib.hid hs0
  clear hr hU hg hq hb h1 h0 hy hm hs hY hlt hu1 hs0 hP
  go_enter Tryz.func241, Tryz.ntmps241
  go_wp2_with fail
  refine (nlz_any y _ Hin.out.2.2.1).mono ?_
  rintro e w1 ⟨rfl, rfl⟩
  rw [Hs.out.1]
  go_upto_if 26 with fail
  go_cut [0, 1, 2] (CutWW w u2 u1 Y)
  case first => as_aux_lemma =>
    by_cases hz : s = 0
    · obtain ⟨k1, k2, k3⟩ := Hs0.out hz
      subst hz
      go_wp2
      go_meet
      exact ⟨by rw [k1], by rw [k2], by rw [k3], rfl⟩
    · have hzb : ((s : Int) != 0) = true := by simp [hz]
      go_wp2
      go_meet
      exact ⟨rfl, rfl, rfl, rfl⟩
  case rest =>
    obtain ⟨rfl, rfl, rfl, rfl⟩ := hcut
    clear e1 e2 eY
    go_wp2_with fail
    refine (Mul_any m u2 _ Hin.out.2.2.2 Hu2.out).mono ?_
    rintro e w1 ⟨t1, t0, rfl, ht, rfl⟩
    have Ht := Lib.hid ht
    clear ht
    go_wp2_with fail
    refine (Add_det t0 u1 0 _ Ht.out.2.1 Hu1.out (by omega)).mono ?_
    rintro e w1 ⟨rfl, rfl⟩
    have hsp := add_spec Ht.out.2.1 Hu1.out (show (0:Int) ≤ 0 ∧ (0:Int) ≤ 1 by omega)
    have Hsp := Lib.hid hsp
    clear hsp
    go_wp2_with fail
    refine (Add_det t1 u2 (addHi t0 u1 0) _ Ht.out.1 Hu2.out Hsp.out.2.1).mono ?_
    rintro e w1 ⟨rfl, rfl⟩
    rw [guess_words Hu2.out Hu1.out Ht.out (by rw [HG.out.2]; exact HG.out.1.2.2.2), HG.out.2]
    have hqU : Hid (U64 q) := ⟨HG.out.1.2.2.1, HG.out.1.2.2.2⟩
    go_wp2_with fail
    refine (Mul_any Y q _ ⟨by omega, s3⟩ hqU.out).mono ?_
    rintro e w1 ⟨d1, d0, rfl, hd, rfl⟩
    have Hd := Lib.hid hd
    clear hd
    go_wp2_with fail
    refine (Sub_det u1 d0 0 _ Hu1.out Hd.out.2.1 (by omega)).mono ?_
    rintro e w1 ⟨rfl, rfl⟩
    have hsp := sub_spec Hu1.out Hd.out.2.1 (show (0:Int) ≤ 0 ∧ (0:Int) ≤ 1 by omega)
    have Hsp2 := Lib.hid hsp
    clear hsp
    go_wp2_with fail
    refine (Sub_det u2 d1 (subHi u1 d0 0) _ Hu2.out Hd.out.1 Hsp2.out.2.1).mono ?_
    rintro e w1 ⟨rfl, rfl⟩
    have hrw := rest_words (U := u2 * BB + u1) Hu2.out Hu1.out rfl Hd.out HG.out.1.1
    obtain ⟨r1, hr1⟩ : ∃ r, subLo u2 d1 (subHi u1 d0 0) = r := ⟨_, rfl⟩
    obtain ⟨r0, hr0⟩ : ∃ r, subLo u1 d0 0 = r := ⟨_, rfl⟩
    rw [hr1, hr0] at hrw
    rw [hr1, hr0]
    have hfix := fix_guess s2 s3 hrw.2.1 hrw.2.2 hrw.1 HG.out.1.1 HG.out.1.2.1
    have hr0a : 0 ≤ r0 := hrw.2.1
    have hr0b : r0 < 18446744073709551616 := hrw.2.2
    have hq0 : 0 ≤ q := hqU.out.1
    have HQb : Hid ((u2 * BB + u1) / Y < 18446744073709551616) := by
      unfold Hid
      rw [Int.ediv_lt_iff_lt_mul (by omega)]
      have := Hu1.out.2
      unfold BB; omega
    clear hr1 hr0 hrw
    rcases hfix with ⟨k1, k2, k3, k4⟩ | ⟨k1, k2, k3, k4⟩ | ⟨k1, k2, k3, k4⟩ | ⟨k1, k2, k3, k4⟩
    · have HF := Lib.hid (And.intro k3 k4)
      clear k3 k4
      subst k1
      go_wp2_with fail
      go_ret2
      exact ⟨by rw [← Hb.out.1, ← Hb.out.2, ← HF.out.1, ← HF.out.2]; first | done | rfl, rfl⟩
    · have HF := Lib.hid (And.intro k3 k4)
      have hqb : q + 1 < 18446744073709551616 := by rw [k3]; exact HQb.out
      clear k3 k4
      subst k1
      go_wp2_with fail
      go_ret2
      exact ⟨by rw [← Hb.out.1, ← Hb.out.2, ← HF.out.1, ← HF.out.2]; first | done | rfl, rfl⟩
    · have HF := Lib.hid (And.intro k3 k4)
      have hqb : q + 1 < 18446744073709551616 := by rw [k3]; exact HQb.out
      clear k3 k4
      subst k1
      go_wp2_with fail
      go_ret2
      exact ⟨by rw [← Hb.out.1, ← Hb.out.2, ← HF.out.1, ← HF.out.2]; first | done | rfl, rfl⟩
    · have HF := Lib.hid (And.intro k3 k4)
      have hqb : q + 1 + 1 < 18446744073709551616 := by rw [k3]; exact HQb.out
      clear k3 k4
      subst k1
      go_wp2_with fail
      go_ret2
      exact ⟨by rw [← Hb.out.1, ← Hb.out.2, ← HF.out.1, ← HF.out.2]; first | done | rfl, rfl⟩
theorem setUint64_any (az : Option Addr) (zl zc : Nat) (x : Int) (w : World) (hz : ZOK w az zc) (hx : U64 x) : Calls Tryz.prog 78 #[.slice az zl zc, .int .u64 x] w (NatRes w az zc x) := by
  have HC := Lib.hid (setWord_any az zl zc x w hz hx)
  clear hz hx
  go_enter Tryz.func78, Tryz.ntmps78
  go_wp2_with fail
  refine HC.out.mono ?_
  rintro e w1 ⟨a, n, c, X, rfl, h⟩
  have H := Lib.hid h
  clear h
  go_wp2
  go_ret
  exact ⟨a, n, c, X, rfl, H.out⟩
theorem makeAcc_any (b : Bool) (w : World) : Calls Tryz.prog 81 #[.bool b] w fun e w' => e = .returned (.int .i8 (if b = true then 1 else -1)) ∧ w = w' := by
  cases b with
  | true =>
    go_enter Tryz.func81, Tryz.ntmps81
    go_wp2
    go_ret
    exact ⟨rfl, rfl⟩
  | false =>
    go_enter Tryz.func81, Tryz.ntmps81
    go_wp2
    go_ret
    exact ⟨rfl, rfl⟩
theorem val_snoc (X : Nat → Int) (k : Nat) : val X (k + 1) = val X k + BB ^ k * X k := by rw [val_add, val_one]; rfl
theorem norm_shift {X Z : Nat → Int} {k s : Nat} {c : Int} (hX : WF X (k + 1)) (hZ : WF Z (k + 1)) (hc : 0 ≤ c) (h1 : 9223372036854775808 ≤ X k * 2 ^ s) (h2 : X k * 2 ^ s < 18446744073709551616) (hs : s < 64) (h : val Z (k + 1) + c * BB ^ (k + 1) = val X (k + 1) * 2 ^ s) : c = 0 ∧ 9223372036854775808 ≤ Z k := by
  have hP := BBn_pos k
  have h2s : (0 : Int) < 2 ^ s := Int.pow_pos (by decide)
  have e1 := val_snoc X k
  have e2 := val_snoc Z k
  have a1 := val_nonneg (hX.le (show k ≤ k + 1 by omega))
  have a2 := val_lt (hX.le (show k ≤ k + 1 by omega))
  have a3 := val_nonneg hZ
  have a4 := val_lt (hZ.le (show k ≤ k + 1 by omega))
  have hsp : (2 : Int) ^ s * 2 ^ (64 - s) = 18446744073709551616 := by
    rw [← Int.pow_add, show s + (64 - s) = 64 by omega]; decide
  have hx1 : X k + 1 ≤ 2 ^ (64 - s) := by
    by_cases hh : X k + 1 ≤ 2 ^ (64 - s)
    · exact hh
    · exfalso
      have := Int.mul_le_mul_of_nonneg_right (show (2 : Int) ^ (64 - s) ≤ X k by omega) (Int.le_of_lt h2s)
      rw [Int.mul_comm ((2 : Int) ^ (64 - s)), hsp] at this
      omega
  have b1 : val X (k + 1) < BB ^ k * (X k + 1) := by rw [Int.mul_add]; omega
  have b2 : val X (k + 1) * 2 ^ s < BB ^ k * (X k + 1) * 2 ^ s := Int.mul_lt_mul_of_pos_right b1 h2s
  have b3 : BB ^ k * (X k + 1) * 2 ^ s ≤ BB ^ k * 2 ^ (64 - s) * 2 ^ s := Int.mul_le_mul_of_nonneg_right (Int.mul_le_mul_of_nonneg_left hx1 (Int.le_of_lt hP)) (Int.le_of_lt h2s)
  have b4 : BB ^ k * 2 ^ (64 - s) * 2 ^ s = BB ^ (k + 1) := by
    rw [Int.mul_assoc, Int.mul_comm ((2 : Int) ^ (64 - s)), hsp, BB_succ]; rfl
  have hc0 : c = 0 := by
    by_cases h0 : c = 0
    · exact h0
    · exfalso
      have := Int.mul_le_mul_of_nonneg_right (show 1 ≤ c by omega) (Int.le_of_lt (BBn_pos (k + 1)))
      omega
  refine ⟨hc0, ?_⟩
  subst hc0
  have d1 : BB ^ k * (X k * 2 ^ s) ≤ val X (k + 1) * 2 ^ s := by
    rw [← Int.mul_assoc]
    exact Int.mul_le_mul_of_nonneg_right (by omega) (Int.le_of_lt h2s)
  have d2 := Int.mul_le_mul_of_nonneg_left h1 (Int.le_of_lt hP)
  by_cases hz : 9223372036854775808 ≤ Z k
  · exact hz
  · exfalso
    have d3 := Int.mul_le_mul_of_nonneg_left (show Z k + 1 ≤ 9223372036854775808 by omega) (Int.le_of_lt hP)
    rw [Int.mul_add] at d3
    omega
def FnPost (w : World) (b o n : Nat) (X : Nat → Int) (e : Ending) (w' : World) : Prop :=
  ∃ (s : Nat) (Z : Nat → Int), e = .returned (.int .i64 (s : Int)) ∧ s = nlzOf (X (n - 1)) ∧ s < 64 ∧ Chg (zRow b o n) w w' ∧ Words w' b o n Z ∧ WF Z n ∧ val Z n = val X n * 2 ^ s ∧ 9223372036854775808 ≤ Z (n - 1)
set_option maxHeartbeats 4000000 in
theorem fnorm_any (b o n c : Nat) (X : Nat → Int) (w : World) (hn : 0 < n) (hn2 : n < 1099511627776) (hX : Words w b o n X) (hXw : WF X n) (hr : Room w b o n) (ht : X (n - 1) ≠ 0) :
    Calls Tryz.prog 133 #[.slice (some ⟨b, o, none⟩) n c] w (FnPost w b o n X) := by
  have hxw := hXw (n - 1) (by omega)
  have hsp := nlz_spec (x := X (n - 1)) (by have := hxw.1; omega) hxw.2
  have HN := Lib.hid (nlz_any (X (n - 1)) w hxw)
  obtain ⟨s, hs⟩ : ∃ s, nlzOf (X (n - 1)) = s := ⟨_, rfl⟩
  rw [hs] at hsp HN
  have Hs := Lib.hid hs
  have hc := hX (n - 1) (by omega)
  obtain ⟨x, hx⟩ : ∃ x, X (n - 1) = x := ⟨_, rfl⟩
  rw [hx] at HN hc
  have H := Lib.hid (And.intro hX (And.intro hXw (And.intro hr hsp)))
  have hs64 : s < 64 := hsp.1
  have f1 : (0 : Int) ≤ (n : Int) - 1 := by omega
  have f2 : (n : Int) - 1 < (n : Int) := by omega
  have f3 : ((n : Int) - 1).toNat = n - 1 := by omega
  have f4 : IntKind.i64.wrap (s : Int) = (s : Int) := IntWalk.i64_in _ (by omega)
  clear hX hXw hr ht hxw hsp hs hx
  by_cases h0 : s = 0
  · have d1 : decide (0 < s) = false := by simp; omega
    have Hz := Lib.hid h0
    clear h0
    go_enter Tryz.func133, Tryz.ntmps133
    go_wp2_with fail
    refine HN.out.mono ?_
    rintro e w1 ⟨rfl, rfl⟩
    go_wp2_with fail
    go_ret
    refine ⟨s, X, rfl, Hs.out.symm, hs64, Chg.refl _ _, H.out.1, H.out.2.1, ?_, ?_⟩
    · rw [Hz.out]; simp
    · have := H.out.2.2.2.2.1
      rw [Hz.out] at this
      simpa using this
  · have d1 : decide (0 < s) = true := by simp; omega
    have HL := Lib.hid (lshVU_any b o b o n c c X s w (by omega) hn H.out.1 H.out.2.1 H.out.2.2.1 (Or.inr (Or.inl (Nat.le_refl _))) (by omega) hs64)
    clear h0
    go_enter Tryz.func133, Tryz.ntmps133
    go_wp2_with fail
    refine HN.out.mono ?_
    rintro e w1 ⟨rfl, rfl⟩
    go_wp2_with fail
    refine HL.out.mono ?_
    rintro e w2 ⟨c2, rfl, Z, h1, h2, h3, h4, h5⟩
    have HQ := Lib.hid (And.intro h1 (And.intro h2 (And.intro h3 (And.intro h4 h5))))
    clear h1 h2 h3 h4 h5
    go_wp2_with fail
    go_ret
    obtain ⟨h1, h2, h3, h4, h5⟩ := HQ.out
    obtain ⟨k, rfl⟩ : ∃ k, n = k + 1 := ⟨n - 1, by omega⟩
    obtain ⟨g1, g2⟩ := norm_shift (k := k) H.out.2.1 h3 h4.1 (by have := H.out.2.2.2.2.1; simpa using this) (by have := H.out.2.2.2.2.2; simpa using this) hs64 h5
    subst g1
    exact ⟨s, Z, rfl, Hs.out.symm, hs64, h1, h2, h3, by omega, by simpa using g2⟩
theorem Prec_any (b : Nat) (v : FV) (w : World) (h : FltC w b v) (hp : 0 ≤ v.p ∧ v.p < 4294967296) : Calls Tryz.prog 115 #[.pointer (some ⟨b, 0, none⟩)] w fun e w' => e = .returned (.int .u64 v.p) ∧ w = w' := by
  obtain ⟨p, md, ac, fm, ng, a, n, c, ex⟩ := v
  obtain ⟨h0, h1, h2, h3, h4, h5, h6, hb⟩ := h
  simp only at h0 hp
  have hw : IntKind.u64.wrap p = p := by rw [wrap_u64]; omega
  clear h1 h2 h3 h4 h5 h6
  go_enter Tryz.func115, Tryz.ntmps115
  go_wp2
  go_ret
  exact ⟨by first | rfl | rw [hw], rfl⟩
theorem Mode_any (b : Nat) (v : FV) (w : World) (h : FltC w b v) : Calls Tryz.prog 116 #[.pointer (some ⟨b, 0, none⟩)] w fun e w' => e = .returned (.int .u8 v.md) ∧ w = w' := by
  obtain ⟨p, md, ac, fm, ng, a, n, c, ex⟩ := v
  obtain ⟨h0, h1, h2, h3, h4, h5, h6, hb⟩ := h
  simp only at h1
  clear h0 h2 h3 h4 h5 h6
  go_enter Tryz.func116, Tryz.ntmps116
  go_wp2
  go_ret
  exact ⟨rfl, rfl⟩
theorem Acc_any (b : Nat) (v : FV) (w : World) (h : FltC w b v) : Calls Tryz.prog 65 #[.pointer (some ⟨b, 0, none⟩)] w fun e w' => e = .returned (.int .i8 v.ac) ∧ w = w' := by
  obtain ⟨p, md, ac, fm, ng, a, n, c, ex⟩ := v
  obtain ⟨h0, h1, h2, h3, h4, h5, h6, hb⟩ := h
  simp only at h2
  clear h0 h1 h3 h4 h5 h6
  go_enter Tryz.func65, Tryz.ntmps65
  go_wp2
  go_ret
  exact ⟨rfl, rfl⟩
theorem Signbit_any (b : Nat) (v : FV) (w : World) (h : FltC w b v) : Calls Tryz.prog 117 #[.pointer (some ⟨b, 0, none⟩)] w fun e w' => e = .returned (.bool v.ng) ∧ w = w' := by
  obtain ⟨p, md, ac, fm, ng, a, n, c, ex⟩ := v
  obtain ⟨h0, h1, h2, h3, h4, h5, h6, hb⟩ := h
  simp only at h4
  clear h0 h1 h2 h3 h5 h6
  go_enter Tryz.func117, Tryz.ntmps117
  go_wp2
  go_ret
  exact ⟨rfl, rfl⟩
theorem IsInf_any (b : Nat) (v : FV) (w : World) (h : FltC w b v) : Calls Tryz.prog 118 #[.pointer (some ⟨b, 0, none⟩)] w fun e w' => e = .returned (.bool (v.fm == 2)) ∧ w = w' := by
  obtain ⟨p, md, ac, fm, ng, a, n, c, ex⟩ := v
  obtain ⟨h0, h1, h2, h3, h4, h5, h6, hb⟩ := h
  simp only at h3
  clear h0 h1 h2 h4 h5 h6
  go_enter Tryz.func118, Tryz.ntmps118
  go_wp2
  go_ret
  exact ⟨rfl, rfl⟩
theorem FSign_any (b : Nat) (v : FV) (w : World) (h : FltC w b v) : Calls Tryz.prog 119 #[.pointer (some ⟨b, 0, none⟩)] w fun e w' => e = .returned (.int .i64 (if v.fm = 0 then 0 else if v.ng = true then -1 else 1)) ∧ w = w' := by
  obtain ⟨p, md, ac, fm, ng, a, n, c, ex⟩ := v
  obtain ⟨h0, h1, h2, h3, h4, h5, h6, hb⟩ := h
  simp only at h3 h4 ⊢
  clear h0 h1 h2 h5 h6
  by_cases hf : fm = 0
  · have hd : (fm == 0) = true := by simp [hf]
    rw [if_pos hf]
    clear hf
    go_enter Tryz.func119, Tryz.ntmps119
    go_wp2
    go_ret
    exact ⟨rfl, rfl⟩
  · have hd : (fm == 0) = false := by simp [hf]
    rw [if_neg hf]
    clear hf
    cases ng with
    | true =>
      go_enter Tryz.func119, Tryz.ntmps119
      go_wp2
      go_ret
      exact ⟨rfl, rfl⟩
    | false =>
      go_enter Tryz.func119, Tryz.ntmps119
      go_wp2
      go_ret
      exact ⟨rfl, rfl⟩
theorem SetMode_any (b : Nat) (v : FV) (m : Int) (w : World) (h : FltC w b v) : Calls Tryz.prog 87 #[.pointer (some ⟨b, 0, none⟩), .int .u8 m] w fun e w' => e = .returned (.pointer (some ⟨b, 0, none⟩)) ∧ FltC w' b { v with md := m, ac := 0 } ∧ Chg (zRow b 0 7) w w' := by
  have H := Lib.hid h
  obtain ⟨p, md, ac, fm, ng, a, n, c, ex⟩ := v
  obtain ⟨h0, h1, h2, h3, h4, h5, h6, hb⟩ := h
  have f1 := hb.fz 1
  have f2 := hb.fz 2
  simp only at h1 h2
  clear h0 h3 h4 h5 h6 hb
  go_enter Tryz.func87, Tryz.ntmps87
  go_wp2
  go_ret
  exact ⟨rfl, (H.out.setMd m).setAc 0, ((Chg.refl _ _).setCell _ _ _ (fun _ => ⟨rfl, by omega, by omega⟩)).setCell _ _ _ (fun _ => ⟨rfl, by omega, by omega⟩)⟩
theorem SetPrec_new (b : Nat) (v : FV) (q : Int) (w : World) (h : FltC w b v) (h0 : v.p = 0) (hf : v.fm = 0) (hq : 0 ≤ q ∧ q < 4294967296) : Calls Tryz.prog 86 #[.pointer (some ⟨b, 0, none⟩), .int .u64 q] w fun e w' => e = .returned (.pointer (some ⟨b, 0, none⟩)) ∧ FltC w' b { v with p := q, ac := 0 } ∧ Chg (zRow b 0 7) w w' := by
  have H := Lib.hid h
  obtain ⟨p, md, ac, fm, ng, a, n, c, ex⟩ := v
  simp only at h0 hf
  subst h0
  subst hf
  obtain ⟨h0, h1, h2, h3, h4, h5, h6, hb⟩ := h
  have f0 := hb.fz 0
  have f2 := hb.fz 2
  simp only at h0 h2 h3
  clear h1 h4 h5 h6 hb
  by_cases hz : q = 0
  · subst hz
    go_enter Tryz.func86, Tryz.ntmps86
    go_wp2
    go_ret
    refine ⟨rfl, ?_, ((Chg.refl _ _).setCell _ _ _ (fun _ => ⟨rfl, by omega, by omega⟩)).setCell _ _ _ (fun _ => ⟨rfl, by omega, by omega⟩)⟩
    exact (H.out.setAc 0).setP 0
  · have hd : (q == 0) = false := by simp [hz]
    have hd2 : decide (4294967295 < q) = false := by simp; omega
    have hw : IntKind.u32.wrap q = q := by rw [show IntKind.u32.wrap q = q % 4294967296 from rfl]; omega
    have hd3 : decide (q < 0) = false := by simp; omega
    clear hz
    go_enter Tryz.func86, Tryz.ntmps86
    go_wp2
    go_ret
    refine ⟨rfl, ?_, ((Chg.refl _ _).setCell _ _ _ (fun _ => ⟨rfl, by omega, by omega⟩)).setCell _ _ _ (fun _ => ⟨rfl, by omega, by omega⟩)⟩
    exact (H.out.setAc 0).setP q
theorem newFlt (w : World) (t : TypeId) : FltC (w.alloc (.cells #[.int .u32 0, .int .u8 0, .int .i8 0, .int .u8 0, .bool false, .slice none 0 0, .int .i32 0] t)) w.heap.size ⟨0, 0, 0, 0, false, none, 0, 0, 0⟩ :=
  ⟨cell?_alloc_new w _ _ _ _ rfl, cell?_alloc_new w _ _ _ _ rfl, cell?_alloc_new w _ _ _ _ rfl, cell?_alloc_new w _ _ _ _ rfl, cell?_alloc_new w _ _ _ _ rfl, cell?_alloc_new w _ _ _ _ rfl, cell?_alloc_new w _ _ _ _ rfl, PB.new w _ _⟩
theorem fresh_any (q m : Int) (w : World) (hq : 0 ≤ q ∧ q < 4294967296) (hm : 0 ≤ m ∧ m < 256) : Calls Tryz.prog 45 #[.int .u64 q, .int .i64 m] w fun e w' => ∃ b, w.heap.size ≤ b ∧ e = .returned (.pointer (some ⟨b, 0, none⟩)) ∧ FltC w' b ⟨q, m, 0, 0, false, none, 0, 0, 0⟩ ∧ Chg zNone w w' := by
  have h0 := newFlt w 136
  have kal : Chg zNone w (w.alloc (.cells #[.int .u32 0, .int .u8 0, .int .i8 0, .int .u8 0, .bool false, .slice none 0 0, .int .i32 0] 136)) := (Chg.refl _ _).alloc _
  have HP := Lib.hid (SetPrec_new _ _ q _ h0 rfl rfl hq)
  have HK := Lib.hid kal
  have hw : IntKind.u8.wrap m = m := by rw [show IntKind.u8.wrap m = m % 256 from rfl]; omega
  clear h0 kal
  go_enter Tryz.func45, Tryz.ntmps45
  go_wp2_with fail
  refine HP.out.mono ?_
  rintro e w1 ⟨rfl, h1, k1⟩
  have HM := Lib.hid (SetMode_any _ _ m _ h1)
  have HK1 := Lib.hid k1
  clear h1 k1
  go_wp2_with fail
  refine HM.out.mono ?_
  rintro e w2 ⟨rfl, h2, k2⟩
  have H2 := Lib.hid (And.intro h2 k2)
  clear h2 k2
  go_wp2
  go_ret
  refine ⟨w.heap.size, Nat.le_refl _, rfl, H2.out.1, (HK.out.trans HK1.out ?_).trans H2.out.2 ?_⟩
  · intro b o hb hh; have := hh.1; omega
  · intro b o hb hh; have := hh.1; omega
end Go.Proofs.YtmgfajamanakcaaGreatDoor
namespace Go.Proofs.YtmgfajamanakcaaGreatDoor
set_option linter.unusedVariables false
set_option linter.unusedSimpArgs false
def lft (r D : Int) : Int := if r = 0 then 0 else if 2 * r < D then 1 else if 2 * r = D then 2 else 3
structure Cls (N D q l : Int) : Prop where
  hq : q = N / D
  hl : l = lft (N % D) D
theorem lft_scale {c r D : Int} (hc : 0 < c) : lft (c * r) (c * D) = lft r D := by
  unfold lft
  have e1 : (c * r = 0) ↔ r = 0 := by rw [Int.mul_eq_zero]; omega
  have e2 : (2 * (c * r) < c * D) ↔ 2 * r < D := by rw [← Int.mul_assoc, Int.mul_comm 2 c, Int.mul_assoc]; exact Int.mul_lt_mul_left hc
  have e3 : (2 * (c * r) = c * D) ↔ 2 * r = D := by
    rw [← Int.mul_assoc, Int.mul_comm 2 c, Int.mul_assoc]
    exact ⟨fun h => Int.eq_of_mul_eq_mul_left (by omega) h, fun h => by rw [h]⟩
  simp only [e1, e2, e3]
theorem Cls.scale {N D q l c : Int} (hc : 0 < c) : Cls (c * N) (c * D) q l ↔ Cls N D q l := by
  have e1 : c * N / (c * D) = N / D := Int.mul_ediv_mul_of_pos _ _ hc
  have e2 : c * N % (c * D) = c * (N % D) := Int.mul_emod_mul_of_pos _ _ hc
  constructor
  · rintro ⟨h1, h2⟩
    rw [e1] at h1; rw [e2, lft_scale hc] at h2; exact ⟨h1, h2⟩
  · rintro ⟨h1, h2⟩
    refine ⟨by rw [e1]; exact h1, by rw [e2, lft_scale hc]; exact h2⟩
def lftS (r H : Int) (sb : Bool) : Int := if r = 0 ∧ sb = false then 0 else if r < H then 1 else if r = H ∧ sb = false then 2 else 3
theorem cls_nested {N D M : Int} {k : Nat} (hD : 0 < D) (hM : M = N / D) {sb : Bool} (hsb : sb = true ↔ N % D ≠ 0) :
    Cls N (D * 2 ^ (k + 1)) (M / 2 ^ (k + 1)) (lftS (M % 2 ^ (k + 1)) (2 ^ k) sb) := by
  have hp : (0 : Int) < 2 ^ k := Int.pow_pos (by omega)
  have hp1 : (0 : Int) < 2 ^ (k + 1) := Int.pow_pos (by omega)
  have hps : (2 : Int) ^ (k + 1) = 2 * 2 ^ k := by rw [Int.pow_succ]; omega
  have eN := Int.emod_add_mul_ediv N D
  have eM := Int.emod_add_mul_ediv M (2 ^ (k + 1))
  have r0 := Int.emod_nonneg N (show D ≠ 0 by omega)
  have r1 := Int.emod_lt_of_pos N hD
  have m0 := Int.emod_nonneg M (show (2 : Int) ^ (k + 1) ≠ 0 by omega)
  have m1 := Int.emod_lt_of_pos M hp1
  rw [← hM] at eN
  obtain ⟨ρ, hρ⟩ : ∃ ρ, ρ = N % D := ⟨_, rfl⟩
  obtain ⟨r, hr⟩ : ∃ r, r = M % 2 ^ (k + 1) := ⟨_, rfl⟩
  obtain ⟨q, hq⟩ : ∃ q, q = M / 2 ^ (k + 1) := ⟨_, rfl⟩
  rw [← hρ] at eN r0 r1 hsb
  rw [← hr] at eM m0 m1
  rw [← hq] at eM
  have hDr : 0 ≤ D * r := Int.mul_nonneg (by omega) m0
  have hDr1 : D * r + D ≤ D * 2 ^ (k + 1) := by
    have := Int.mul_le_mul_of_nonneg_left (show r + 1 ≤ 2 ^ (k + 1) by omega) (show 0 ≤ D by omega)
    rw [Int.mul_add] at this; omega
  have e : N = (D * r + ρ) + D * 2 ^ (k + 1) * q := by rw [← eN, ← eM]; grind
  have hDp : 0 < D * 2 ^ (k + 1) := Int.mul_pos hD hp1
  have h1 : N / (D * 2 ^ (k + 1)) = q := by
    rw [e, Int.add_mul_ediv_left _ _ (by omega), Int.ediv_eq_zero_of_lt (by omega) (by omega)]; omega
  have h2 : N % (D * 2 ^ (k + 1)) = D * r + ρ := by
    rw [e, Int.add_mul_emod_self_left, Int.emod_eq_of_lt (by omega) (by omega)]
  refine ⟨by rw [h1, hq], ?_⟩
  rw [h2, ← hr]
  unfold lftS lft
  have hDp2 : D * 2 ^ (k + 1) = 2 * (D * 2 ^ k) := by rw [hps]; grind
  have z : (D * r + ρ = 0) ↔ (r = 0 ∧ sb = false) := by
    constructor
    · intro h
      have h3 : ρ = 0 := by omega
      have h4 : D * r = 0 := by omega
      rw [Int.mul_eq_zero] at h4
      refine ⟨by omega, ?_⟩
      cases sb with
      | false => rfl
      | true => exact absurd h3 (hsb.1 rfl)
    · rintro ⟨h3, h4⟩
      subst h3
      have h5 : ρ = 0 := by
        by_cases h : ρ = 0
        · exact h
        · rw [hsb.2 h] at h4; cases h4
      rw [h5]; simp
  by_cases hz : r = 0 ∧ sb = false
  · rw [if_pos hz, if_pos (z.2 hz)]
  · rw [if_neg hz, if_neg (fun h => hz (z.1 h))]
    by_cases hlt : r < 2 ^ k
    · rw [if_pos hlt, if_pos]
      have := Int.mul_le_mul_of_nonneg_left (show r + 1 ≤ 2 ^ k by omega) (show 0 ≤ D by omega)
      rw [Int.mul_add] at this; omega
    · rw [if_neg hlt]
      have hge := Int.mul_le_mul_of_nonneg_left (show 2 ^ k ≤ r by omega) (show 0 ≤ D by omega)
      have hn : ¬ 2 * (D * r + ρ) < D * 2 ^ (k + 1) := by omega
      by_cases heq : r = 2 ^ k ∧ sb = false
      · rw [if_pos heq, if_neg hn, if_pos]
        have h5 : ρ = 0 := by
          by_cases h : ρ = 0
          · exact h
          · have := heq.2; rw [hsb.2 h] at this; cases this
        rw [heq.1, h5]; omega
      · rw [if_neg heq, if_neg hn, if_neg]
        intro h
        by_cases hre : r = 2 ^ k
        · apply heq
          refine ⟨hre, ?_⟩
          cases sb with
          | false => rfl
          | true => exact absurd (show ρ = 0 by rw [hre] at h; omega) (hsb.1 rfl)
        · have := Int.mul_le_mul_of_nonneg_left (show 2 ^ k + 1 ≤ r by omega) (show 0 ≤ D by omega)
          rw [Int.mul_add] at this; omega
def Rnd (N D : Int) (p : Nat) (q t l : Int) : Prop := ∃ a b : Nat, t = (b : Int) - a ∧ Cls (N * 2 ^ a) (D * 2 ^ b) q l ∧ 2 ^ (p - 1) ≤ q ∧ q < 2 ^ p
theorem two_pos (k : Nat) : (0 : Int) < 2 ^ k := Int.pow_pos (by omega)
theorem Rnd.raise {N D q t l : Int} {p a b : Nat} (ht : t = (b : Int) - a) (h : Cls (N * 2 ^ a) (D * 2 ^ b) q l) (c : Nat) : Cls (N * 2 ^ (a + c)) (D * 2 ^ (b + c)) q l := by
  have := (Cls.scale (two_pos c)).2 h
  rw [show (2 : Int) ^ c * (N * 2 ^ a) = N * 2 ^ (a + c) by rw [Int.pow_add]; grind, show (2 : Int) ^ c * (D * 2 ^ b) = D * 2 ^ (b + c) by rw [Int.pow_add]; grind] at this
  exact this
theorem Rnd.le {N D q t l q' t' l' : Int} {p : Nat} (hD : 0 < D) (hp : 1 ≤ p) (h : Rnd N D p q t l) (h' : Rnd N D p q' t' l') : t' ≤ t := by
  by_cases hlt : t' ≤ t
  · exact hlt
  · exfalso
    obtain ⟨a, b, ht, hc, h1, h2⟩ := h
    obtain ⟨a', b', ht', hc', h1', h2'⟩ := h'
    have r1 := Rnd.raise (p := p) ht hc a'
    have r2 := Rnd.raise (p := p) ht' hc' a
    rw [Nat.add_comm a' a] at r2
    obtain ⟨d, hd⟩ : ∃ d, b' + a = (b + a') + (d + 1) := ⟨b' + a - (b + a') - 1, by omega⟩
    rw [hd] at r2
    have e1 := r1.hq
    have e2 := r2.hq
    rw [Int.pow_add _ (b + a') (d + 1), ← Int.mul_assoc, ← Int.ediv_ediv_of_nonneg (by have := Int.mul_pos hD (two_pos (b + a')); omega), ← e1] at e2
    have h3 : 2 ^ (p - 1) * 2 ^ (d + 1) ≤ q' * 2 ^ (d + 1) := Int.mul_le_mul_of_nonneg_right h1' (Int.le_of_lt (two_pos _))
    have h4 : q' * 2 ^ (d + 1) ≤ q := by rw [e2]; exact Int.ediv_mul_le _ (by have := two_pos (d + 1); omega)
    have h5 : (2 : Int) ^ (p - 1) * 2 ^ (d + 1) = 2 ^ p * 2 ^ d := by rw [← Int.pow_add, ← Int.pow_add]; congr 1; omega
    have h6 : (2 : Int) ^ p * 1 ≤ 2 ^ p * 2 ^ d := Int.mul_le_mul_of_nonneg_left (by have := two_pos d; omega) (Int.le_of_lt (two_pos p))
    omega
theorem Rnd.unique {N D q t l q' t' l' : Int} {p : Nat} (hD : 0 < D) (hp : 1 ≤ p) (h : Rnd N D p q t l) (h' : Rnd N D p q' t' l') : q = q' ∧ t = t' ∧ l = l' := by
  have e := h.le hD hp h'
  have e' := h'.le hD hp h
  obtain rfl : t = t' := by omega
  obtain ⟨a, b, ht, hc, h1, h2⟩ := h
  obtain ⟨a', b', ht', hc', h1', h2'⟩ := h'
  have r1 := Rnd.raise (p := p) ht hc a'
  have r2 := Rnd.raise (p := p) ht' hc' a
  rw [Nat.add_comm a' a, show b' + a = b + a' by omega] at r2
  exact ⟨r1.hq.trans r2.hq.symm, rfl, r1.hl.trans r2.hl.symm⟩
def incS (neg odd : Bool) (l mode : Int) : Bool :=
  if mode = 0 then l == 3 || (l == 2 && odd) else if mode = 1 then decide (2 ≤ l) else if mode = 3 then decide (0 < l) else if mode = 4 then decide (0 < l) && neg else if mode = 5 then decide (0 < l) && !neg else false
def accS (neg inc : Bool) (l : Int) : Int := if l = 0 then 0 else if inc != neg then 1 else -1
def Rounded (neg : Bool) (N D : Int) (p : Nat) (mode m t acc : Int) : Prop :=
  ∃ q l, Rnd N D p q t l ∧ m = q + (if incS neg (q % 2 == 1) l mode then 1 else 0) ∧ acc = accS neg (incS neg (q % 2 == 1) l mode) l
theorem Rounded.unique {neg : Bool} {N D mode m t acc m' t' acc' : Int} {p : Nat} (hD : 0 < D) (hp : 1 ≤ p) (h : Rounded neg N D p mode m t acc) (h' : Rounded neg N D p mode m' t' acc') : m = m' ∧ t = t' ∧ acc = acc' := by
  obtain ⟨q, l, h1, h2, h3⟩ := h
  obtain ⟨q', l', h1', h2', h3'⟩ := h'
  obtain ⟨rfl, rfl, rfl⟩ := h1.unique hD hp h1'
  exact ⟨h2.trans h2'.symm, rfl, h3.trans h3'.symm⟩
end Go.Proofs.YtmgfajamanakcaaGreatDoor
