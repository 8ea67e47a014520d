/- Part of the proof of FnParse: what the functions that it reaches do, as contracts. Conditions: those that each theorem names. -/
import Derived.Test.YtmgfajamanakcaaGreatDoorD13
import Derived.Deep.CutBlock
import Derived.Deep.DeepCutAuto
import Derived.Deep.LoopGhost
import Derived.Outline
namespace Go.Proofs.YtmgfajamanakcaaGreatDoor
set_option linter.unusedVariables false
set_option linter.unusedSimpArgs false
open Go.RowKit
set_option maxRecDepth 100000
theorem half_exit {y1 y0 u2 u1 q r : Int} (hy1 : 2147483648 ≤ y1) (hy1' : y1 < 4294967296) (hy0 : 0 ≤ y0) (hy0' : y0 < 4294967296) (hu2 : u2 < y1 * 4294967296 + y0) (hu1 : 0 ≤ u1) (hu1' : u1 < 4294967296)
    (hq : 0 ≤ q) (hr : q * y1 + r = u2) (hge : (u2 * 4294967296 + u1) / (y1 * 4294967296 + y0) ≤ q) (hx : (q < 4294967296 ∧ q * y0 ≤ 4294967296 * r + u1) ∨ 4294967296 ≤ r) :
    q = (u2 * 4294967296 + u1) / (y1 * 4294967296 + y0) ∧ 0 ≤ u2 * 4294967296 + u1 - q * (y1 * 4294967296 + y0) ∧ u2 * 4294967296 + u1 - q * (y1 * 4294967296 + y0) < y1 * 4294967296 + y0 ∧ q < 4294967296 := by
  have hle : q * (y1 * 4294967296 + y0) ≤ u2 * 4294967296 + u1 := by
    have e : q * (y1 * 4294967296 + y0) = (q * y1) * 4294967296 + q * y0 := by grind
    rcases hx with ⟨h1, h2⟩ | h
    · rw [e]; omega
    · have h3 : q * y1 ≤ 4294967295 * y1 + (y1 - 1) := by omega
      have h4 : q ≤ 4294967295 := by
        by_cases hh : q ≤ 4294967295
        · exact hh
        · have := Int.mul_le_mul_of_nonneg_right (show 4294967296 ≤ q by omega) (show 0 ≤ y1 by omega); omega
      have h5 := Int.mul_le_mul_of_nonneg_right h4 hy0
      rw [e]; omega
  have hy : 0 < y1 * 4294967296 + y0 := by omega
  have h1 : q ≤ (u2 * 4294967296 + u1) / (y1 * 4294967296 + y0) := (Int.le_ediv_iff_mul_le hy).2 hle
  have heq : q = (u2 * 4294967296 + u1) / (y1 * 4294967296 + y0) := by omega
  have hlt := Int.lt_ediv_add_one_mul_self (u2 * 4294967296 + u1) hy
  rw [← heq, Int.add_mul] at hlt
  refine ⟨heq, by omega, by omega, ?_⟩
  have : q < 4294967296 := by
    by_cases hh : q < 4294967296
    · exact hh
    · have := Int.mul_le_mul_of_nonneg_right (show 4294967296 ≤ q by omega) (Int.le_of_lt hy); omega
  exact this
theorem half_down {y1 y0 u2 u1 q r : Int} (hy1 : 2147483648 ≤ y1) (hy0 : 0 ≤ y0) (hy0' : y0 < 4294967296) (hu2 : u2 < y1 * 4294967296 + y0) (hu1 : 0 ≤ u1) (hu1' : u1 < 4294967296)
    (hr : q * y1 + r = u2) (hge : (u2 * 4294967296 + u1) / (y1 * 4294967296 + y0) ≤ q) (hx : 4294967296 ≤ q ∨ 4294967296 * r + u1 < q * y0) : (u2 * 4294967296 + u1) / (y1 * 4294967296 + y0) ≤ q - 1 := by
  have hy : 0 < y1 * 4294967296 + y0 := by omega
  have : (u2 * 4294967296 + u1) / (y1 * 4294967296 + y0) < q := by
    rw [Int.ediv_lt_iff_lt_mul hy]
    have e : q * (y1 * 4294967296 + y0) = (q * y1) * 4294967296 + q * y0 := by grind
    rcases hx with h | h
    · have := Int.mul_le_mul_of_nonneg_right h (Int.le_of_lt hy); omega
    · rw [e]; omega
  omega
theorem half_guess {y1 y0 u2 u1 : Int} (hy1 : 2147483648 ≤ y1) (hy0 : 0 ≤ y0) (hu2 : 0 ≤ u2) (hu1' : u1 < 4294967296) : (u2 * 4294967296 + u1) / (y1 * 4294967296 + y0) ≤ u2 / y1 := by
  have hy : 0 < y1 * 4294967296 + y0 := by omega
  have : (u2 * 4294967296 + u1) / (y1 * 4294967296 + y0) < u2 / y1 + 1 := by
    rw [Int.ediv_lt_iff_lt_mul hy]
    have h1 := Int.lt_ediv_add_one_mul_self u2 (show 0 < y1 by omega)
    have h0 := Int.ediv_nonneg hu2 (show 0 ≤ y1 by omega)
    have e : (u2 / y1 + 1) * (y1 * 4294967296 + y0) = ((u2 / y1 + 1) * y1) * 4294967296 + (u2 / y1 + 1) * y0 := by grind
    have h2 := Int.mul_nonneg (show 0 ≤ u2 / y1 + 1 by omega) hy0
    rw [e]; omega
  omega
theorem lz64_any (x : Int) (w : World) (hx : U64 x) : Calls Tryz.prog 269 #[.int .u64 x] w fun e w' => e = .returned (.int .i64 (nlzOf x : Nat)) ∧ w = w' := by
  obtain ⟨h0, h1⟩ := hx
  have hle := Lib.bitLen_le x.toNat 64 (Nat.le_refl _) (by omega)
  have hv := Lib.hid (show ((64 : Int) - (Lib.bitLen x.toNat : Int)) = ((nlzOf x : Nat) : Int) by unfold nlzOf; omega)
  generalize hbl : Lib.bitLen x.toNat = bl at *
  have HBL := Lib.hid hbl
  clear hbl
  go_enter Tryz.func269, Tryz.ntmps269
  go_wp2_with fail
  refine (Len64_any x _ h0 (by omega)).mono ?_
  rintro e w1 ⟨rfl, rfl⟩
  rw [HBL.out]
  go_wp2
  go_ret
  exact ⟨by rw [← hv.out]; first | done | rfl, rfl⟩
theorem nlz_spec {x : Int} (h0 : 0 < x) (h1 : x < 18446744073709551616) : nlzOf x < 64 ∧ 9223372036854775808 ≤ x * 2 ^ nlzOf x ∧ x * 2 ^ nlzOf x < 18446744073709551616 := by
  obtain ⟨n, rfl⟩ := Int.eq_ofNat_of_zero_le (Int.le_of_lt h0)
  obtain ⟨i1, i2, i3, i4⟩ := bitLen_spec n (by omega) (by omega)
  unfold nlzOf
  simp only [Int.toNat_natCast] at *
  obtain ⟨k, hk⟩ : ∃ k, Lib.bitLen n = k + 1 := ⟨Lib.bitLen n - 1, by omega⟩
  rw [hk] at i3 i4 i2 ⊢
  simp only [Nat.add_sub_cancel] at i3
  have e1 : 2 ^ k * 2 ^ (64 - (k + 1)) = 9223372036854775808 := by rw [← Nat.pow_add, show k + (64 - (k + 1)) = 63 by omega]
  have e2 : 2 ^ (k + 1) * 2 ^ (64 - (k + 1)) = 18446744073709551616 := by rw [← Nat.pow_add, show k + 1 + (64 - (k + 1)) = 64 by omega]
  have m1 := Nat.mul_le_mul_right (2 ^ (64 - (k + 1))) i3
  have m2 := Nat.mul_lt_mul_of_pos_right i4 (show 0 < 2 ^ (64 - (k + 1)) from Nat.pow_pos (by omega))
  have c : ((n : Int) * 2 ^ (64 - (k + 1))) = ((n * 2 ^ (64 - (k + 1)) : Nat) : Int) := by push_cast; rfl
  rw [c]
  refine ⟨by omega, by omega, by omega⟩
theorem shl_two {hi lo Y : Int} {s : Nat} (hs : s < 64) (hh : U64 hi) (hl : U64 lo) (hlt : hi * 2 ^ s < Y) (hY : Y < 18446744073709551616) (hYm : ∃ y, Y = y * 2 ^ s) :
    ∃ u2 u1 : Int, bits BinOp.or IntKind.u64 (IntKind.u64.wrap (hi * 2 ^ s)) (lo / 2 ^ (64 - s)) = u2 ∧ IntKind.u64.wrap (lo * 2 ^ s) = u1 ∧ 0 ≤ u2 ∧ u2 < Y ∧ U64 u1 ∧ u2 * BB + u1 = (hi * BB + lo) * 2 ^ s := by
  have hp : (0:Int) < 2 ^ s := Int.pow_pos (by omega)
  have hps : (2:Int) ^ (64 - s) * 2 ^ s = 18446744073709551616 := by rw [← Int.pow_add, show 64 - s + s = 64 by omega]; rfl
  have h0 : 0 ≤ hi * 2 ^ s := Int.mul_nonneg hh.1 (Int.le_of_lt hp)
  have hw : IntKind.u64.wrap (hi * 2 ^ s) = hi * 2 ^ s := by rw [wrap_u64]; omega
  have hlo := shl_low hl hs
  have hd := Int.emod_add_mul_ediv lo (2 ^ (64 - s))
  have hp2 : (0:Int) < 2 ^ (64 - s) := Int.pow_pos (by omega)
  have hd1 := Int.emod_nonneg lo (show (2:Int) ^ (64 - s) ≠ 0 by omega)
  have hd2 := Int.emod_lt_of_pos lo hp2
  have hd3 := Int.ediv_nonneg hl.1 (Int.le_of_lt hp2)
  have hval : bits BinOp.or IntKind.u64 (IntKind.u64.wrap (hi * 2 ^ s)) (lo / 2 ^ (64 - s)) = hi * 2 ^ s + lo / 2 ^ (64 - s) := by
    by_cases h : s = 0
    · subst h
      have e1 : lo / 2 ^ (64 - 0) = 0 := Int.ediv_eq_zero_of_lt hl.1 hl.2
      rw [e1, hw]
      have hor := or_nat (hi * 2 ^ 0).toNat 0 0 (by have := hh.2; simp; omega) (by omega) (by simp)
      have ht : ((hi * 2 ^ 0).toNat : Int) = hi * 2 ^ 0 := Int.toNat_of_nonneg h0
      simp only [Nat.zero_mul, Nat.add_zero] at hor
      rw [ht] at hor
      simpa using hor
    · rw [shl_or hh hl (by omega) hs]
      have e1 : hi % 2 ^ (64 - s) * 2 ^ s = hi * 2 ^ s := by
        rw [← shl_low hh hs, hw]
      rw [e1]; omega
  have e4 : (hi * BB + lo) * 2 ^ s = (hi * 2 ^ s + lo / 2 ^ (64 - s)) * BB + lo % 2 ^ (64 - s) * 2 ^ s := by
    have : lo * 2 ^ s = (lo % 2 ^ (64 - s) + 2 ^ (64 - s) * (lo / 2 ^ (64 - s))) * 2 ^ s := by rw [hd]
    have e5 : (2 ^ (64 - s) * (lo / 2 ^ (64 - s))) * 2 ^ s = lo / 2 ^ (64 - s) * BB := by
      rw [Int.mul_assoc, Int.mul_comm (lo / 2 ^ (64 - s)) (2 ^ s), ← Int.mul_assoc, hps, Int.mul_comm]; rfl
    rw [Int.add_mul] at this
    rw [Int.add_mul, this, e5]
    grind
  have hlt2 : lo / 2 ^ (64 - s) < 2 ^ s := by
    rw [Int.ediv_lt_iff_lt_mul hp2, Int.mul_comm, hps]; exact hl.2
  refine ⟨_, _, hval, hlo, by omega, ?_, by rw [← hlo]; exact ⟨by rw [wrap_u64]; omega, by rw [wrap_u64]; omega⟩, e4.symm⟩
  obtain ⟨y, rfl⟩ := hYm
  have h5 := Int.mul_le_mul_of_nonneg_right (show hi + 1 ≤ y by
    by_cases h : hi + 1 ≤ y
    · exact h
    · have := Int.mul_le_mul_of_nonneg_right (show y ≤ hi by omega) (Int.le_of_lt hp); omega) (Int.le_of_lt hp)
  rw [Int.add_mul] at h5
  omega
theorem div_two {hi lo y Y u2 u1 a1 a0 qt t qv : Int} {s : Nat} (hU : u2 * BB + u1 = (hi * BB + lo) * 2 ^ s) (hY : y * 2 ^ s = Y) (hY1 : 9223372036854775808 ≤ Y) (hY2 : Y < 18446744073709551616) (hu2 : u2 < Y) (hu1 : U64 u1) (ha : a1 * 4294967296 + a0 = u1)
    (ht : u2 * 4294967296 + a1 - qt * Y = t) (hqt : 0 ≤ qt) (hqv : (t * 4294967296 + a0) / Y = qv) (hqv0 : 0 ≤ qv) :
    IntKind.u64.wrap (IntKind.u64.wrap (qt * 4294967296) + qv) = (hi * BB + lo) / y ∧ IntKind.u64.wrap (IntKind.u64.wrap (IntKind.u64.wrap (t * 4294967296) + a0) - IntKind.u64.wrap (qv * Y)) / 2 ^ s = (hi * BB + lo) % y := by
  have hp : (0:Int) < 2 ^ s := Int.pow_pos (by omega)
  have hYp : 0 < Y := by omega
  have e0 := Int.emod_add_mul_ediv (t * 4294967296 + a0) Y
  have e1 := Int.emod_nonneg (t * 4294967296 + a0) (show Y ≠ 0 by omega)
  have e2 := Int.emod_lt_of_pos (t * 4294967296 + a0) hYp
  rw [hqv, Int.mul_comm Y qv] at e0
  obtain ⟨R, hR⟩ : ∃ R, (t * 4294967296 + a0) % Y = R := ⟨_, rfl⟩
  rw [hR] at e0 e1 e2
  have eU : (hi * BB + lo) * 2 ^ s = R + Y * (qt * 4294967296 + qv) := by
    rw [← hU]
    have : Y * (qt * 4294967296 + qv) = (qt * Y) * 4294967296 + qv * Y := by grind
    unfold BB; omega
  have q1 : (hi * BB + lo) / y = qt * 4294967296 + qv := by
    have h1 := Int.mul_ediv_mul_of_pos_left (hi * BB + lo) y hp
    rw [← h1, eU, hY, Int.add_mul_ediv_left _ _ (by omega), Int.ediv_eq_zero_of_lt e1 e2]; omega
  have q2 : ((hi * BB + lo) % y) * 2 ^ s = R := by
    have h1 := Int.mul_emod_mul_of_pos (hi * BB + lo) y hp
    have h2 : 2 ^ s * (hi * BB + lo) = R + Y * (qt * 4294967296 + qv) := by rw [Int.mul_comm]; exact eU
    have h3 : 2 ^ s * y = Y := by rw [Int.mul_comm]; exact hY
    rw [h2, h3, Int.add_mul_emod_self_left, Int.emod_eq_of_lt e1 e2] at h1
    rw [Int.mul_comm]; exact h1.symm
  have hQ : qt * 4294967296 + qv < 18446744073709551616 := by
    by_cases h : qt * 4294967296 + qv < 18446744073709551616
    · exact h
    · have h1 := Int.mul_le_mul_of_nonneg_left (show 18446744073709551616 ≤ qt * 4294967296 + qv by omega) (Int.le_of_lt hYp)
      rw [← hU] at eU
      have := hu1.2
      unfold BB at eU
      omega
  refine ⟨?_, ?_⟩
  · rw [q1, wrap_u64, wrap_u64]; omega
  · have e3 : IntKind.u64.wrap (IntKind.u64.wrap (IntKind.u64.wrap (t * 4294967296) + a0) - IntKind.u64.wrap (qv * Y)) = R := by
      simp only [wrap_u64]; omega
    rw [e3, ← q2]
    exact Int.mul_ediv_cancel _ (by omega)
def DivPost (hi lo y : Int) (w : World) (e : Ending) (w' : World) : Prop :=
  e = .returned (.tuple #[.int .u64 ((hi * BB + lo) / y), .int .u64 ((hi * BB + lo) % y)]) ∧ ∃ n, w' = w.drewN n
set_option maxHeartbeats 4000000 in
theorem bitsDiv64_any (hi lo y : Int) (w : World) (hh : U64 hi) (hl : U64 lo) (hy : U64 y) (hlt : hi < y) :
    Calls Tryz.prog 263 #[.int .u64 hi, .int .u64 lo, .int .u64 y] w (DivPost hi lo y w) := by
  have hy0 : (y == 0) = false := by have := hh.1; simp; omega
  have hle : ¬ y ≤ hi := by omega
  by_cases h0 : hi = 0
  · subst h0
    have hb : ((0 : Int) == 0) = true := rfl
    obtain ⟨l0, l1⟩ := hl
    have hy1 : 1 ≤ y := by have := hlt; omega
    have hv := Lib.hid (show lo / y = (0 * BB + lo) / y ∧ lo % y = (0 * BB + lo) % y by simp)
    go_enter Tryz.func263, Tryz.ntmps263
    go_wp2_with fail
    go_quiet (fail)
    go_wp2
    go_ret2
    exact ⟨by rw [← hv.out.1, ← hv.out.2]; first | done | rfl, _, rfl⟩
  · have hi0 : (hi == 0) = false := by simp [h0]
    obtain ⟨s, hs⟩ : ∃ s, nlzOf y = s := ⟨_, rfl⟩
    have hsp := nlz_spec (x := y) (by have := hh.1; omega) hy.2
    rw [hs] at hsp
    obtain ⟨s1, s2, s3⟩ := hsp
    have hP : (0:Int) < 2 ^ s := Int.pow_pos (by omega)
    obtain ⟨Y, hY⟩ : ∃ Y, y * 2 ^ s = Y := ⟨_, rfl⟩
    rw [hY] at s2 s3
    obtain ⟨u2, u1, e1, e2, u20, u2Y, hu1, hU⟩ := shl_two (Y := Y) s1 hh hl (by rw [← hY]; exact Int.mul_lt_mul_of_pos_right hlt hP) s3 ⟨y, hY.symm⟩
    have eY : IntKind.u64.wrap (y * 2 ^ s) = Y := by rw [hY, wrap_u64]; omega
    have HU := Lib.hid (And.intro hU (And.intro hY hs))
    have Hin := Lib.hid (And.intro hh (And.intro hl hy))
    have hs64 : (s : Int) < 64 := by omega
    have es : IntKind.u64.wrap (s : Int) = s := by rw [wrap_u64]; omega
    clear hU hY hh hl hlt h0 hP
    have Hs := Lib.hid hs
    go_enter Tryz.func263, Tryz.ntmps263
    go_wp2_with fail
    refine (lz64_any y _ Hin.out.2.2).mono ?_
    rintro e w1 ⟨rfl, rfl⟩
    rw [Hs.out]
    clear hs
    obtain ⟨y1, e3⟩ : ∃ v, Y / 4294967296 = v := ⟨_, rfl⟩
    obtain ⟨y0, e4⟩ : ∃ v, bits BinOp.and IntKind.u64 Y 4294967295 = v := ⟨_, rfl⟩
    obtain ⟨a1, e5⟩ : ∃ v, u1 / 4294967296 = v := ⟨_, rfl⟩
    obtain ⟨a0, e6⟩ : ∃ v, bits BinOp.and IntKind.u64 u1 4294967295 = v := ⟨_, rfl⟩
    have m1 := and_low32 Y (by omega) (by omega)
    have m2 := and_low32 u1 hu1.1 hu1.2
    have hyb : 2147483648 ≤ y1 ∧ y1 < 4294967296 ∧ 0 ≤ y0 ∧ y0 < 4294967296 ∧ y1 * 4294967296 + y0 = Y := by rw [e4] at m1; omega
    have hab : 0 ≤ a1 ∧ a1 < 4294967296 ∧ 0 ≤ a0 ∧ a0 < 4294967296 ∧ a1 * 4294967296 + a0 = u1 := by have := hu1.1; have := hu1.2; rw [e6] at m2; omega
    obtain ⟨y11, y12, y01, y02, hyy⟩ := hyb
    obtain ⟨a11, a12, a01, a02, haa⟩ := hab
    clear m1 m2
    have hd0 := Int.emod_add_mul_ediv u2 y1
    have hd1 := Int.emod_nonneg u2 (show y1 ≠ 0 by omega)
    have hd2 := Int.emod_lt_of_pos u2 (show 0 < y1 by omega)
    have hq0n := Int.ediv_nonneg u20 (show 0 ≤ y1 by omega)
    have hq0l : u2 / y1 ≤ u2 := Int.ediv_le_self _ u20
    have hg1 := half_guess (y1 := y1) (y0 := y0) (u2 := u2) (u1 := a1) y11 y01 u20 a12
    clear hd0 hd1 hd2 hq0n hq0l hg1
    have hu2b : u2 < 18446744073709551616 := by omega
    obtain ⟨qt, hqt⟩ : ∃ v, (u2 * 4294967296 + a1) / (y1 * 4294967296 + y0) = v := ⟨_, rfl⟩
    have Hqt := Lib.hid hqt
    have HLT := Lib.hid (show u2 < y1 * 4294967296 + y0 by rw [hyy]; exact u2Y)
    obtain ⟨t, ht⟩ : ∃ t, u2 * 4294967296 + a1 - qt * (y1 * 4294967296 + y0) = t := ⟨_, rfl⟩
    have hy : 0 < y1 * 4294967296 + y0 := by omega
    have ht0 := Int.emod_add_mul_ediv (u2 * 4294967296 + a1) (y1 * 4294967296 + y0)
    have ht1 := Int.emod_nonneg (u2 * 4294967296 + a1) (show y1 * 4294967296 + y0 ≠ 0 by omega)
    have ht2 := Int.emod_lt_of_pos (u2 * 4294967296 + a1) hy
    rw [hqt, Int.mul_comm (y1 * 4294967296 + y0) qt] at ht0
    have t0 : 0 ≤ t := by omega
    have tY : t < Y := by omega
    have e10 : IntKind.u64.wrap (IntKind.u64.wrap (IntKind.u64.wrap (u2 * 4294967296) + a1) - IntKind.u64.wrap (qt * Y)) = t := by
      rw [hyy] at ht
      simp only [wrap_u64]; omega
    have tb : t < 18446744073709551616 := by omega
    have Ht := Lib.hid ht
    have Hyy := Lib.hid (And.intro hyy haa)
    have hqt0 : 0 ≤ qt := by rw [← hqt]; exact Int.ediv_nonneg (by omega) (by omega)
    clear ht0 ht1 ht2 hqt ht hy
    have HT := Lib.hid (show u2 < y1 * 4294967296 + y0 ∧ (u2 * 4294967296 + a1) / (y1 * 4294967296 + y0) = qt from ⟨HLT.out, Hqt.out⟩)
    have HS : Hid (0 ≤ u2 / y1 ∧ u2 / y1 < 18446744073709551616 ∧ 0 ≤ u2 % y1 ∧ u2 % y1 < 4294967296 ∧ u2 / y1 * y1 + u2 % y1 = u2 ∧ qt ≤ u2 / y1) := by
      have g1 := Int.emod_add_mul_ediv u2 y1
      have g2 := Int.emod_nonneg u2 (show y1 ≠ 0 by omega)
      have g3 := Int.emod_lt_of_pos u2 (show 0 < y1 by omega)
      have g4 := Int.ediv_nonneg u20 (show 0 ≤ y1 by omega)
      have g5 : u2 / y1 ≤ u2 := Int.ediv_le_self _ u20
      have g6 := half_guess (y1 := y1) (y0 := y0) (u2 := u2) (u1 := a1) y11 y01 u20 a12
      rw [Hqt.out] at g6
      rw [Int.mul_comm] at g1
      exact ⟨g4, by omega, g2, by omega, by omega, g6⟩
    have eru2 : IntKind.u64.wrap (u2 - IntKind.u64.wrap (u2 / y1 * y1)) = u2 % y1 := by
      have h1 := Int.mul_nonneg HS.out.1 (show 0 ≤ y1 by omega)
      have h2 := HS.out.2.2.2.2.1
      have h3 := HS.out.2.2.1
      rw [wrap_u64, wrap_u64]; omega
    go_upto_block 0 with fail
    go_cut [15] (fun s15 wc => s15 = .int .u64 qt ∧ w = wc)
    case first =>
      go_wp2_with fail
      go_loopg [15, 16] ((u2 / y1).toNat + 1) (fun g s15 s16 wc => ∃ q r : Int, s15 = .int .u64 q ∧ s16 = .int .u64 r ∧ 0 ≤ q ∧ q < 18446744073709551616 ∧ 0 ≤ r ∧ r < 4294967296 ∧ q.toNat < g ∧ w = wc ∧ Hid (q * y1 + r = u2 ∧ qt ≤ q))
      case atStart => exact ⟨u2 / y1, _, rfl, rfl, HS.out.1, HS.out.2.1, HS.out.2.2.1, HS.out.2.2.2.1, by omega, rfl, HS.out.2.2.2.2.1, HS.out.2.2.2.2.2⟩
      case round =>
        obtain ⟨q, r, rfl, rfl, q1, q2, r1, r2, hg, rfl, H⟩ := hrel
        by_cases hbig : 4294967296 ≤ q
        · have hdown := half_down (u1 := a1) y11 y01 y02 HT.out.1 a11 a12 H.out.1 (by rw [HT.out.2]; exact H.out.2) (Or.inl hbig)
          rw [HT.out.2] at hdown
          by_cases hbr : 4294967296 ≤ r + y1
          · have hex := half_exit (u1 := a1) (q := q - 1) (r := r + y1) y11 y12 y01 y02 HT.out.1 a11 a12 (by omega) (by rw [Int.sub_mul]; have := H.out.1; omega) (by rw [HT.out.2]; exact hdown) (Or.inr hbr)
            have hq := Lib.hid (hex.1.trans HT.out.2)
            clear hex hdown
            go_wp2_with fail
            go_meet
            exact ⟨by rw [hq.out], rfl⟩
          · have Hdn := Lib.hid hdown
            have hq0 : 1 ≤ q := by omega
            clear hdown
            go_wp2_with fail
            go_roundg (gk - 1)
            case measure => omega
            case rel => exact ⟨q - 1, r + y1, rfl, rfl, by omega, by omega, by omega, by omega, by omega, rfl, by rw [Int.sub_mul]; have := H.out.1; omega, Hdn.out⟩
        · obtain ⟨p, hp⟩ : ∃ p, q * y0 = p := ⟨_, rfl⟩
          have hp0 : 0 ≤ p := by rw [← hp]; exact Int.mul_nonneg q1 y01
          have hp1 : p ≤ 4294967295 * 4294967295 := by
            rw [← hp]; exact Int.mul_le_mul (by omega) (by omega) y01 (by omega)
          have ep : IntKind.u64.wrap (q * y0) = p := by rw [hp, wrap_u64]; omega
          have Hp := Lib.hid hp
          clear hp
          by_cases hgt : 4294967296 * r + a1 < p
          · have hdown := half_down (u1 := a1) y11 y01 y02 HT.out.1 a11 a12 H.out.1 (by rw [HT.out.2]; exact H.out.2) (Or.inr (by rw [Hp.out]; exact hgt))
            rw [HT.out.2] at hdown
            by_cases hbr : 4294967296 ≤ r + y1
            · have hex := half_exit (u1 := a1) (q := q - 1) (r := r + y1) y11 y12 y01 y02 HT.out.1 a11 a12 (by omega) (by rw [Int.sub_mul]; have := H.out.1; omega) (by rw [HT.out.2]; exact hdown) (Or.inr hbr)
              have hq := Lib.hid (hex.1.trans HT.out.2)
              have hq0 : 1 ≤ q := by omega
              clear hex hdown
              go_wp2_with fail
              go_meet
              exact ⟨by rw [hq.out], rfl⟩
            · have Hdn := Lib.hid hdown
              have hq0 : 1 ≤ q := by omega
              clear hdown
              go_wp2_with fail
              go_roundg (gk - 1)
              case measure => omega
              case rel => exact ⟨q - 1, r + y1, rfl, rfl, by omega, by omega, by omega, by omega, by omega, rfl, by rw [Int.sub_mul]; have := H.out.1; omega, Hdn.out⟩
          · have hex := half_exit (u1 := a1) (q := q) (r := r) y11 y12 y01 y02 HT.out.1 a11 a12 q1 H.out.1 (by rw [HT.out.2]; exact H.out.2) (Or.inl ⟨by omega, by rw [Hp.out]; omega⟩)
            have hq := Lib.hid (hex.1.trans HT.out.2)
            clear hex
            go_wp2_with fail
            go_meet
            exact ⟨by rw [hq.out], rfl⟩
    case rest =>
      obtain ⟨rfl, rfl⟩ := hcut
      clear HT HS eru2 HLT
      obtain ⟨qv, hqv⟩ : ∃ v, (t * 4294967296 + a0) / (y1 * 4294967296 + y0) = v := ⟨_, rfl⟩
      have Hqv := Lib.hid hqv
      have hqv0 : 0 ≤ qv := by rw [← hqv]; exact Int.ediv_nonneg (by omega) (by omega)
      have HLT := Lib.hid (show t < y1 * 4294967296 + y0 by rw [Hyy.out.1]; exact tY)
      clear hqv
      have HT := Lib.hid (show t < y1 * 4294967296 + y0 ∧ (t * 4294967296 + a0) / (y1 * 4294967296 + y0) = qv from ⟨HLT.out, Hqv.out⟩)
      have HS : Hid (0 ≤ t / y1 ∧ t / y1 < 18446744073709551616 ∧ 0 ≤ t % y1 ∧ t % y1 < 4294967296 ∧ t / y1 * y1 + t % y1 = t ∧ qv ≤ t / y1) := by
        have g1 := Int.emod_add_mul_ediv t y1
        have g2 := Int.emod_nonneg t (show y1 ≠ 0 by omega)
        have g3 := Int.emod_lt_of_pos t (show 0 < y1 by omega)
        have g4 := Int.ediv_nonneg t0 (show 0 ≤ y1 by omega)
        have g5 : t / y1 ≤ t := Int.ediv_le_self _ t0
        have g6 := half_guess (y1 := y1) (y0 := y0) (u2 := t) (u1 := a0) y11 y01 t0 a02
        rw [Hqv.out] at g6
        rw [Int.mul_comm] at g1
        exact ⟨g4, by omega, g2, by omega, by omega, g6⟩
      have ert : IntKind.u64.wrap (t - IntKind.u64.wrap (t / y1 * y1)) = t % y1 := by
        have h1 := Int.mul_nonneg HS.out.1 (show 0 ≤ y1 by omega)
        have h2 := HS.out.2.2.2.2.1
        have h3 := HS.out.2.2.1
        rw [wrap_u64, wrap_u64]; omega
      go_upto_block 2 with fail
      go_cut [18] (fun s15 wc => s15 = .int .u64 qv ∧ w = wc)
      case first =>
        go_wp2_with fail
        go_loopg [18, 16] ((t / y1).toNat + 1) (fun g s15 s16 wc => ∃ q r : Int, s15 = .int .u64 q ∧ s16 = .int .u64 r ∧ 0 ≤ q ∧ q < 18446744073709551616 ∧ 0 ≤ r ∧ r < 4294967296 ∧ q.toNat < g ∧ w = wc ∧ Hid (q * y1 + r = t ∧ qv ≤ q))
        case atStart => exact ⟨t / y1, _, rfl, rfl, HS.out.1, HS.out.2.1, HS.out.2.2.1, HS.out.2.2.2.1, by omega, rfl, HS.out.2.2.2.2.1, HS.out.2.2.2.2.2⟩
        case round =>
          obtain ⟨q, r, rfl, rfl, q1, q2, r1, r2, hg, rfl, H⟩ := hrel
          by_cases hbig : 4294967296 ≤ q
          · have hdown := half_down (u1 := a0) y11 y01 y02 HT.out.1 a01 a02 H.out.1 (by rw [HT.out.2]; exact H.out.2) (Or.inl hbig)
            rw [HT.out.2] at hdown
            by_cases hbr : 4294967296 ≤ r + y1
            · have hex := half_exit (u1 := a0) (q := q - 1) (r := r + y1) y11 y12 y01 y02 HT.out.1 a01 a02 (by omega) (by rw [Int.sub_mul]; have := H.out.1; omega) (by rw [HT.out.2]; exact hdown) (Or.inr hbr)
              have hq := Lib.hid (hex.1.trans HT.out.2)
              clear hex hdown
              go_wp2_with fail
              go_meet
              exact ⟨by rw [hq.out], rfl⟩
            · have Hdn := Lib.hid hdown
              have hq0 : 1 ≤ q := by omega
              clear hdown
              go_wp2_with fail
              go_roundg (gk - 1)
              case measure => omega
              case rel => exact ⟨q - 1, r + y1, rfl, rfl, by omega, by omega, by omega, by omega, by omega, rfl, by rw [Int.sub_mul]; have := H.out.1; omega, Hdn.out⟩
          · obtain ⟨p, hp⟩ : ∃ p, q * y0 = p := ⟨_, rfl⟩
            have hp0 : 0 ≤ p := by rw [← hp]; exact Int.mul_nonneg q1 y01
            have hp1 : p ≤ 4294967295 * 4294967295 := by
              rw [← hp]; exact Int.mul_le_mul (by omega) (by omega) y01 (by omega)
            have ep : IntKind.u64.wrap (q * y0) = p := by rw [hp, wrap_u64]; omega
            have Hp := Lib.hid hp
            clear hp
            by_cases hgt : 4294967296 * r + a0 < p
            · have hdown := half_down (u1 := a0) y11 y01 y02 HT.out.1 a01 a02 H.out.1 (by rw [HT.out.2]; exact H.out.2) (Or.inr (by rw [Hp.out]; exact hgt))
              rw [HT.out.2] at hdown
              by_cases hbr : 4294967296 ≤ r + y1
              · have hex := half_exit (u1 := a0) (q := q - 1) (r := r + y1) y11 y12 y01 y02 HT.out.1 a01 a02 (by omega) (by rw [Int.sub_mul]; have := H.out.1; omega) (by rw [HT.out.2]; exact hdown) (Or.inr hbr)
                have hq := Lib.hid (hex.1.trans HT.out.2)
                have hq0 : 1 ≤ q := by omega
                clear hex hdown
                go_wp2_with fail
                go_meet
                exact ⟨by rw [hq.out], rfl⟩
              · have Hdn := Lib.hid hdown
                have hq0 : 1 ≤ q := by omega
                clear hdown
                go_wp2_with fail
                go_roundg (gk - 1)
                case measure => omega
                case rel => exact ⟨q - 1, r + y1, rfl, rfl, by omega, by omega, by omega, by omega, by omega, rfl, by rw [Int.sub_mul]; have := H.out.1; omega, Hdn.out⟩
            · have hex := half_exit (u1 := a0) (q := q) (r := r) y11 y12 y01 y02 HT.out.1 a01 a02 q1 H.out.1 (by rw [HT.out.2]; exact H.out.2) (Or.inl ⟨by omega, by rw [Hp.out]; omega⟩)
              have hq := Lib.hid (hex.1.trans HT.out.2)
              clear hex
              go_wp2_with fail
              go_meet
              exact ⟨by rw [hq.out], rfl⟩
      case rest =>
        obtain ⟨rfl, rfl⟩ := hcut
        go_wp2_with fail
        go_ret2
        have k1 : u2 * 4294967296 + a1 - qt * Y = t := by have := Ht.out; rw [Hyy.out.1] at this; exact this
        have k2 : (t * 4294967296 + a0) / Y = qv := by have := Hqv.out; rw [Hyy.out.1] at this; exact this
        have hf := div_two (t := t) (qv := qv) HU.out.1 HU.out.2.1 s2 s3 u2Y hu1 Hyy.out.2 k1 hqt0 k2 hqv0
        exact ⟨by rw [← hf.1, ← hf.2]; first | done | rfl, 0, rfl⟩
theorem bitsDiv_any (hi lo y : Int) (w : World) (hh : U64 hi) (hl : U64 lo) (hy : U64 y) (hlt : hi < y) :
    Calls Tryz.prog 239 #[.int .u64 hi, .int .u64 lo, .int .u64 y] w (DivPost hi lo y w) := by
  have H := Lib.hid (bitsDiv64_any hi lo y w hh hl hy hlt)
  clear hh hl hy hlt
  go_enter Tryz.func239, Tryz.ntmps239
  go_wp2_with fail
  refine H.out.mono ?_
  rintro e w1 ⟨rfl, n, rfl⟩
  go_wp2
  go_ret2
  exact ⟨rfl, n, rfl⟩
end Go.Proofs.YtmgfajamanakcaaGreatDoor
