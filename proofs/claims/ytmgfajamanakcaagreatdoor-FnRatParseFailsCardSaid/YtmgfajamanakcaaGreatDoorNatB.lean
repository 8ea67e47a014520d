/-
  maxPow and pow of words. Conditions: bases from 2 to 36; powers that are words.
-/
import Derived.Test.YtmgfajamanakcaaGreatDoorNatA
namespace Go.Proofs.YtmgfajamanakcaaGreatDoor
open Go.RowKit
set_option maxRecDepth 100000
set_option linter.unusedVariables false
def MaxPowPost (b : Int) (w : World) (e : Ending) (w' : World) : Prop := ∃ n : Nat, e = .returned (.tuple #[.int .u64 (b ^ n), .int .i64 n]) ∧ 1 ≤ n ∧ n ≤ 63 ∧ b ^ n < 18446744073709551616 ∧ w = w'
theorem pow_ge_two (b : Int) (hb : 2 ≤ b) (n : Nat) : (2 : Int) ^ n ≤ b ^ n := by
  induction n with
  | zero => simp
  | succ n ih =>
    rw [Int.pow_succ, Int.pow_succ]
    exact Int.mul_le_mul ih hb (by omega) (Int.le_trans (Int.pow_nonneg (by omega)) ih)
theorem n_le_63 (b : Int) (hb : 2 ≤ b) (n : Nat) (h : b ^ n < 18446744073709551616) : n ≤ 63 := by
  by_cases hn : n ≤ 63
  · exact hn
  · exfalso
    have h1 := pow_ge_two b hb n
    have h2 : (2 : Int) ^ 64 ≤ 2 ^ n := by
      obtain ⟨k, rfl⟩ : ∃ k, n = 64 + k := ⟨n - 64, by omega⟩
      rw [Int.pow_add]
      have : (1 : Int) ≤ 2 ^ k := Int.pow_pos (by omega)
      have := Int.mul_le_mul_of_nonneg_left this (show (0 : Int) ≤ 2 ^ 64 by decide)
      simpa using this
    have : (2 : Int) ^ 64 = 18446744073709551616 := by decide
    omega
theorem pow_next (b p : Int) (n : Nat) (hb : 2 ≤ b) (hp : p = b ^ n) (hp0 : 0 ≤ p) (h : p ≤ 18446744073709551615 / b) : IntKind.u64.wrap (p * b) = b ^ (n + 1) ∧ b ^ (n + 1) < 18446744073709551616 ∧ 0 ≤ b ^ (n + 1) := by
  have h1 : p * b ≤ 18446744073709551615 := Int.le_trans (Int.mul_le_mul_of_nonneg_right h (by omega)) (Int.ediv_mul_le _ (by omega))
  have h0 : 0 ≤ p * b := Int.mul_nonneg hp0 (by omega)
  rw [wrap_u64, Int.pow_succ, ← hp]
  omega
set_option maxHeartbeats 1000000 in
theorem maxPow_any (b : Int) (w : World) (hb : 2 ≤ b) (hb2 : b ≤ 36) :
    Calls Tryz.prog 182 #[.int .u64 b] w (MaxPowPost b w) := by
  have hb0 : (b == 0) = false := by simp; omega
  obtain ⟨q, hq⟩ : ∃ q, (18446744073709551615 : Int) / b = q := ⟨_, rfl⟩
  have hq1 : (18446744073709551615 : Int).tdiv b = q := by rw [← hq]; exact Int.tdiv_eq_ediv_of_nonneg (by omega)
  have Hq := Lib.hid hq
  have hq2 : 0 ≤ q ∧ q ≤ 18446744073709551615 := by
    rw [← hq]; exact ⟨Int.ediv_nonneg (by omega) (by omega), Int.ediv_le_self _ (by omega)⟩
  obtain ⟨hq3, hq4⟩ := hq2
  go_enter Tryz.func182, Tryz.ntmps182
  go_wp2_with fail
  go_loop [2, 3] (fun sp sn => ∃ (n : Nat) (p : Int), sp = .int .u64 p ∧ sn = .int .i64 n ∧ 1 ≤ n ∧ n ≤ 63 ∧ 0 ≤ p ∧ p ≤ 18446744073709551615 ∧ Hid (p = b ^ n)) (fun sp sn => 64 - (intOf sn).toNat)
  case atStart => exact ⟨1, b, rfl, rfl, by omega, by omega, by omega, by omega, (show b = b ^ (0 + 1) by rw [Int.pow_succ, Int.pow_zero, Int.one_mul])⟩
  case round =>
    obtain ⟨n, p, rfl, rfl, hn1, hn2, hp0, hp1, H⟩ := hrel
    by_cases hle : p ≤ q
    · have hx := pow_next b p n hb H.out hp0 (by rw [Hq.out]; exact hle)
      have HX := Lib.hid hx
      clear hx
      go_wp2
      go_round
      case rel => exact ⟨n + 1, _, rfl, by go_num, by omega, n_le_63 b hb _ HX.out.2.1, by rw [HX.out.1]; exact HX.out.2.2, by rw [HX.out.1]; have := HX.out.2.1; omega, HX.out.1⟩
      case measure => simp [intOf]; have := n_le_63 b hb _ HX.out.2.1; omega
    · go_wp2
      go_ret2
      exact ⟨n, by rw [← H.out]; rfl, hn1, hn2, by rw [← H.out]; omega, rfl⟩
theorem pow_emod (a m : Int) (k : Nat) : (a % m) ^ k % m = a ^ k % m := by
  induction k with
  | zero => simp
  | succ k ih => rw [Int.pow_succ, Int.pow_succ, Int.mul_emod, ih, Int.emod_emod, ← Int.mul_emod]
theorem pow_step_odd (p x : Int) (k : Nat) (hk : k % 2 = 1) : ((p * x) % 18446744073709551616) * ((x * x) % 18446744073709551616) ^ (k / 2) % 18446744073709551616 = p * x ^ k % 18446744073709551616 := by
  have hk2 : k = 2 * (k / 2) + 1 := by omega
  generalize k / 2 = j at *
  subst hk2
  rw [Int.mul_emod, pow_emod, Int.emod_emod, ← Int.mul_emod]
  congr 1
  rw [Int.pow_succ, Int.pow_mul]
  have : x ^ 2 = x * x := by rw [Int.pow_succ, Int.pow_succ, Int.pow_zero, Int.one_mul]
  rw [this]
  grind
theorem pow_step_even (p x : Int) (k : Nat) (hk : k % 2 = 0) : p * ((x * x) % 18446744073709551616) ^ (k / 2) % 18446744073709551616 = p * x ^ k % 18446744073709551616 := by
  have hk2 : k = 2 * (k / 2) := by omega
  generalize k / 2 = j at *
  subst hk2
  rw [Int.mul_emod, pow_emod, ← Int.mul_emod]
  congr 1
  rw [Int.pow_mul]
  have : x ^ 2 = x * x := by rw [Int.pow_succ, Int.pow_succ, Int.pow_zero, Int.one_mul]
  rw [this]
theorem and_one (k : Nat) (h : k < 9223372036854775808) : bits BinOp.and IntKind.i64 (k : Int) 1 = ((k % 2 : Nat) : Int) := by
  have h1 : (BitVec.ofInt 64 1).toNat = 2 ^ 1 - 1 := by decide
  have key : (BitVec.ofInt 64 (k : Int) &&& BitVec.ofInt 64 1).toNat = ((k : Int) % ((2 ^ 64 : Nat) : Int)).toNat % 2 ^ 1 := by
    rw [BitVec.toNat_and, BitVec.toNat_ofInt, h1, Nat.and_two_pow_sub_one_eq_mod]
  show IntKind.i64.wrap ((BitVec.ofInt 64 (k : Int) &&& BitVec.ofInt 64 1).toNat : Nat) = _
  rw [key, IntKind.wrap_i64]
  omega
set_option maxHeartbeats 1000000 in
theorem pow_any (b : Int) (n : Nat) (w : World) (hb : U64 b) (hn : n ≤ 1000) (hlt : b ^ n < 18446744073709551616) :
    Calls Tryz.prog 183 #[.int .u64 b, .int .i64 n] w fun e w' => e = .returned (.int .u64 (b ^ n)) ∧ w = w' := by
  obtain ⟨hb0, hb1⟩ := hb
  have Hlt := Lib.hid hlt
  clear hlt
  go_enter Tryz.func183, Tryz.ntmps183
  go_wp2_with fail
  go_loop [0, 1, 4] (fun sx sk sp => ∃ (x p : Int) (k : Nat), sx = .int .u64 x ∧ sk = .int .i64 k ∧ sp = .int .u64 p ∧ k ≤ 1000 ∧ 0 ≤ p ∧ p < 18446744073709551616 ∧ 0 ≤ x ∧ x < 18446744073709551616 ∧ Hid (p * x ^ k % 18446744073709551616 = b ^ n % 18446744073709551616)) (fun _ sk _ => (intOf sk).toNat)
  case atStart => exact ⟨b, 1, n, rfl, rfl, rfl, hn, by omega, by omega, hb0, hb1, by simp [Hid]⟩
  case round =>
    obtain ⟨x, p, k, rfl, rfl, rfl, hk, hp0, hp1, hx0, hx1, H⟩ := hrel
    by_cases h0 : 0 < k
    · have ha := and_one k (by omega)
      have h2 : k % 2 = 0 ∨ k % 2 = 1 := by omega
      rcases h2 with h2 | h2
      · rw [h2] at ha
        have hab : (bits BinOp.and IntKind.i64 (k : Int) 1 != 0) = false := by rw [ha]; rfl
        have H2 := Lib.hid h2
        clear h2 ha
        go_wp2
        go_round
        case rel => exact ⟨_, p, k / 2, rfl, by rw [Int.natCast_ediv]; rfl, rfl, by omega, hp0, hp1, by rw [wrap_u64]; omega, by rw [wrap_u64]; omega, by unfold Hid; rw [wrap_u64, pow_step_even p x k H2.out]; exact H.out⟩
        case measure => simp [intOf]; omega
      · rw [h2] at ha
        have hab : (bits BinOp.and IntKind.i64 (k : Int) 1 != 0) = true := by rw [ha]; rfl
        have H2 := Lib.hid h2
        clear h2 ha
        go_wp2
        go_round
        case rel => exact ⟨_, _, k / 2, rfl, by rw [Int.natCast_ediv]; rfl, rfl, by omega, by rw [wrap_u64]; omega, by rw [wrap_u64]; omega, by rw [wrap_u64]; omega, by rw [wrap_u64]; omega, by unfold Hid; rw [wrap_u64, wrap_u64, pow_step_odd p x k H2.out]; exact H.out⟩
        case measure => simp [intOf]; omega
    · have hk0 : k = 0 := by omega
      have hp : Hid (p = b ^ n) := by
        have := H.out
        rw [hk0, Int.pow_zero, Int.mul_one, Int.emod_eq_of_lt hp0 hp1, Int.emod_eq_of_lt (Int.pow_nonneg hb0) Hlt.out] at this
        exact this
      have hd : decide (0 < (k : Int)) = false := by simp; omega
      clear hk0
      go_wp2
      go_ret
      exact ⟨by rw [← hp.out]; rfl, rfl⟩
end Go.Proofs.YtmgfajamanakcaaGreatDoor
