/-
  Arithmetic on words: bits.Mul, Add, Sub, mulAddWWW_g. Conditions: words are words, carries 0 or 1.
-/
import Derived.Test.YtmgfajamanakcaaGreatDoorProg
import Derived.Test.YtmgfajamanakcaaGreatDoorNum
import Derived.Test.YtmgfajamanakcaaGreatDoorMem
import Derived.WalkKit
import Derived.WalkSpells
import Derived.WalkLawsBesides
import Derived.BigRegion
import Derived.BigQuiet
import Derived.Deep.RegionWith
import Derived.Lib.Hide
import Derived.Deep.DeepFit
import Derived.Deep.DeepMust
namespace Go.Proofs.YtmgfajamanakcaaGreatDoor
open Go.RowKit
set_option maxRecDepth 100000
set_option linter.unusedVariables false
def TwoWords (P : Int → Int → Prop) (w : World) (e : Ending) (w' : World) : Prop := ∃ a b : Int, e = .returned (.tuple #[.int .u64 a, .int .u64 b]) ∧ P a b ∧ w = w'
theorem wrap_u64 (z : Int) : IntKind.u64.wrap z = z % 18446744073709551616 := by
  simp [IntKind.wrap, IntKind.signed, IntKind.bits]
theorem mul64_post (x y : Int) (hx0 : 0 ≤ x) (hx1 : x < 18446744073709551616) (hy0 : 0 ≤ y) (hy1 : y < 18446744073709551616) :
    U64 (IntKind.u64.wrap (IntKind.u64.wrap (IntKind.u64.wrap (x / 4294967296 * (y / 4294967296)) + IntKind.u64.wrap (IntKind.u64.wrap (x / 4294967296 * bits BinOp.and IntKind.u64 y 4294967295) +
       IntKind.u64.wrap (bits BinOp.and IntKind.u64 x 4294967295 * bits BinOp.and IntKind.u64 y 4294967295) / 4294967296) / 4294967296) +
       IntKind.u64.wrap (bits BinOp.and IntKind.u64 (IntKind.u64.wrap (IntKind.u64.wrap (x / 4294967296 * bits BinOp.and IntKind.u64 y 4294967295) + IntKind.u64.wrap
         (bits BinOp.and IntKind.u64 x 4294967295 * bits BinOp.and IntKind.u64 y 4294967295) / 4294967296)) 4294967295 +
            IntKind.u64.wrap (bits BinOp.and IntKind.u64 x 4294967295 * (y / 4294967296))) / 4294967296)) ∧ U64 (IntKind.u64.wrap (x * y)) ∧
    (IntKind.u64.wrap (IntKind.u64.wrap (IntKind.u64.wrap (x / 4294967296 * (y / 4294967296)) + IntKind.u64.wrap (IntKind.u64.wrap (x / 4294967296 * bits BinOp.and IntKind.u64 y 4294967295) +
       IntKind.u64.wrap (bits BinOp.and IntKind.u64 x 4294967295 * bits BinOp.and IntKind.u64 y 4294967295) / 4294967296) / 4294967296) +
       IntKind.u64.wrap (bits BinOp.and IntKind.u64 (IntKind.u64.wrap (IntKind.u64.wrap (x / 4294967296 * bits BinOp.and IntKind.u64 y 4294967295) + IntKind.u64.wrap
         (bits BinOp.and IntKind.u64 x 4294967295 * bits BinOp.and IntKind.u64 y 4294967295) / 4294967296)) 4294967295 +
            IntKind.u64.wrap (bits BinOp.and IntKind.u64 x 4294967295 * (y / 4294967296))) / 4294967296)) * BB + IntKind.u64.wrap (x * y) = x * y := by
  rw [and_low32 x hx0 hx1, and_low32 y hy0 hy1, and_low32 (IntKind.u64.wrap _) (by rw [wrap_u64]; omega) (by rw [wrap_u64]; omega)]
  simp only [wrap_u64]
  rw [mul64_arith x y hx0 hx1 hy0 hy1]
  have hxy : x * y < 18446744073709551616 * 18446744073709551616 := by
    have := Int.mul_le_mul (Int.le_sub_one_of_lt hx1) (Int.le_sub_one_of_lt hy1) hy0 (by omega)
    omega
  have hxy0 : 0 ≤ x * y := Int.mul_nonneg hx0 hy0
  unfold U64 BB
  generalize x * y = p at *
  omega
set_option maxHeartbeats 1000000 in
theorem Mul64_any (x y : Int) (w : World) (hx : U64 x) (hy : U64 y) :
    Calls Tryz.prog 267 #[.int .u64 x, .int .u64 y] w (TwoWords (fun hi lo => U64 hi ∧ U64 lo ∧ hi * BB + lo = x * y) w) := by
  obtain ⟨hx0, hx1⟩ := hx
  obtain ⟨hy0, hy1⟩ := hy
  go_enter Tryz.func267, Tryz.ntmps267
  go_wp2
  go_ret2
  exact ⟨_, _, rfl, mul64_post x y hx0 hx1 hy0 hy1, rfl⟩
theorem mul_le_sq (x y : Int) (hx : U64 x) (hy : U64 y) : 0 ≤ x * y ∧ x * y ≤ 18446744073709551615 * 18446744073709551615 := by
  refine ⟨Int.mul_nonneg hx.1 hy.1, ?_⟩
  have := Int.mul_le_mul (Int.le_sub_one_of_lt hx.2) (Int.le_sub_one_of_lt hy.2) hy.1 (by omega)
  omega
theorem mulAdd_last (x y c hi lo s c' : Int) (hx : U64 x) (hy : U64 y) (hc : U64 c) (hp : U64 hi ∧ U64 lo ∧ hi * BB + lo = x * y) (hq : U64 s ∧ (0 ≤ c' ∧ c' ≤ 1) ∧ s + c' * BB = lo + c + 0) :
    U64 (IntKind.u64.wrap (hi + c')) ∧ U64 s ∧ IntKind.u64.wrap (hi + c') * BB + s = x * y + c := by
  have hm := mul_le_sq x y hx hy
  obtain ⟨⟨h1, h2⟩, ⟨h3, h4⟩, h5⟩ := hp
  obtain ⟨⟨q1, q2⟩, ⟨q3, q4⟩, q5⟩ := hq
  obtain ⟨c1, c2⟩ := hc
  rw [wrap_u64]
  unfold U64
  unfold BB at *
  generalize x * y = p at *
  omega
theorem Mul_any (x y : Int) (w : World) (hx : U64 x) (hy : U64 y) :
    Calls Tryz.prog 245 #[.int .u64 x, .int .u64 y] w (TwoWords (fun hi lo => U64 hi ∧ U64 lo ∧ hi * BB + lo = x * y) w) := by
  have Hx := Lib.hid hx
  have Hy := Lib.hid hy
  go_enter Tryz.func245, Tryz.ntmps245
  go_wp2_with (go_at_call 267; refine (Mul64_any x y _ Hx.out Hy.out).mono ?_; rintro e w' ⟨hi, lo, rfl, hp, rfl⟩; have Hp := Lib.hid hp; clear hp)
  go_ret2
  exact ⟨hi, lo, rfl, Hp.out, rfl⟩
theorem run_Add64 (x y c : Int) (hx : U64 x) (hy : U64 y) (hc : 0 ≤ c ∧ c ≤ 1) : ∃ s c' : Int, (U64 s ∧ (0 ≤ c' ∧ c' ≤ 1) ∧ s + c' * BB = x + y + c) ∧
    ∀ w, (callFunc 250 #[.int .u64 x, .int .u64 y, .int .u64 c]).run Tryz.prog w = .ok (.value (.tuple #[.int .u64 s, .int .u64 c'])) w := by
  obtain ⟨hx0, hx1⟩ := hx
  obtain ⟨hy0, hy1⟩ := hy
  refine ⟨(x + y + c) % 18446744073709551616, (x + y + c) / 18446744073709551616, ⟨⟨by omega, by omega⟩, by omega, by unfold BB; omega⟩, fun w => ?_⟩
  rw [run_callFunc_extern Tryz.func250 (by kernel_rfl) (by kernel_rfl) (by kernel_rfl) (e := add64Entry) (by kernel_rfl), run_add64 x y c hx0 hy0 hc.1 hc.2]
  rfl
theorem Add_any (x y c : Int) (w : World) (hx : U64 x) (hy : U64 y) (hc : 0 ≤ c ∧ c ≤ 1) :
    Calls Tryz.prog 223 #[.int .u64 x, .int .u64 y, .int .u64 c] w (TwoWords (fun s c' => U64 s ∧ (0 ≤ c' ∧ c' ≤ 1) ∧ s + c' * BB = x + y + c) w) := by
  obtain ⟨s, c', hp, hrun⟩ := run_Add64 x y c hx hy hc
  have Hp := Lib.hid hp
  clear hp hx hy hc
  go_enter Tryz.func223, Tryz.ntmps223
  go_wp2
  go_ret2
  exact ⟨s, c', rfl, Hp.out, rfl⟩
/-- The model's entry for math/bits.Sub64. -/
def sub64Entry : Array Value → Sem Value := fun args => do
  let (x, y, b) ← Extern.MathBitsCarry.three "Sub64" args
  pure (Extern.MathBitsCarry.pair ((x + Extern.MathBitsCarry.m64 - y - b) % Extern.MathBitsCarry.m64) (if x < y + b then 1 else 0))
theorem run_sub64 {P : Program} (x y b : Nat) (hb : b ≤ 1) (w : World) :
    (sub64Entry #[.int .u64 x, .int .u64 y, .int .u64 b]).run P w =
      .ok (.tuple #[.int .u64 (((x + 18446744073709551616 - y - b) % 18446744073709551616 : Nat) : Int), .int .u64 ((if x < y + b then 1 else 0 : Nat) : Int)]) w := by
  have : b = 0 ∨ b = 1 := by omega
  rcases this with rfl | rfl <;> rfl
theorem run_Sub64 (x y c : Int) (hx : U64 x) (hy : U64 y) (hc : 0 ≤ c ∧ c ≤ 1) : ∃ s c' : Int, (U64 s ∧ (0 ≤ c' ∧ c' ≤ 1) ∧ s - c' * BB = x - y - c) ∧
    ∀ w, (callFunc 252 #[.int .u64 x, .int .u64 y, .int .u64 c]).run Tryz.prog w = .ok (.value (.tuple #[.int .u64 s, .int .u64 c'])) w := by
  obtain ⟨hx0, hx1⟩ := hx
  obtain ⟨hy0, hy1⟩ := hy
  obtain ⟨hc0, hc1⟩ := hc
  obtain ⟨x, rfl⟩ := Int.eq_ofNat_of_zero_le hx0
  obtain ⟨y, rfl⟩ := Int.eq_ofNat_of_zero_le hy0
  obtain ⟨c, rfl⟩ := Int.eq_ofNat_of_zero_le hc0
  refine ⟨((x + 18446744073709551616 - y - c) % 18446744073709551616 : Nat), ((if x < y + c then 1 else 0 : Nat) : Int), ⟨⟨by omega, by omega⟩, by split <;> omega, by unfold BB; split <;> omega⟩, fun w => ?_⟩
  rw [run_callFunc_extern Tryz.func252 (by kernel_rfl) (by kernel_rfl) (by kernel_rfl) (e := sub64Entry) (by kernel_rfl), run_sub64 x y c (by omega)]
  rfl
theorem Sub_any (x y c : Int) (w : World) (hx : U64 x) (hy : U64 y) (hc : 0 ≤ c ∧ c ≤ 1) :
    Calls Tryz.prog 225 #[.int .u64 x, .int .u64 y, .int .u64 c] w (TwoWords (fun s c' => U64 s ∧ (0 ≤ c' ∧ c' ≤ 1) ∧ s - c' * BB = x - y - c) w) := by
  obtain ⟨s, c', hp, hrun⟩ := run_Sub64 x y c hx hy hc
  have Hp := Lib.hid hp
  clear hp hx hy hc
  go_enter Tryz.func225, Tryz.ntmps225
  go_wp2
  go_ret2
  exact ⟨s, c', rfl, Hp.out, rfl⟩
set_option maxHeartbeats 1000000 in
/-- z1 * 2^64 + z0 = x * y + c. -/
theorem mulAddWWW_any (x y c : Int) (w : World) (hx : U64 x) (hy : U64 y) (hc : U64 c) :
    Calls Tryz.prog 268 #[.int .u64 x, .int .u64 y, .int .u64 c] w (TwoWords (fun hi lo => U64 hi ∧ U64 lo ∧ hi * BB + lo = x * y + c) w) := by
  have Hx := Lib.hid hx
  have Hy := Lib.hid hy
  have Hc := Lib.hid hc
  clear hx hy hc
  go_enter Tryz.func268, Tryz.ntmps268
  go_wp2_with fail
  refine (Mul_any x y _ Hx.out Hy.out).mono ?_
  rintro e w' ⟨hi, lo, rfl, hp, rfl⟩
  have Hp := Lib.hid hp
  clear hp
  go_wp2_with fail
  refine (Add_any lo c 0 _ Hp.out.2.1 Hc.out (by omega)).mono ?_
  rintro e w' ⟨s, c', rfl, hq, rfl⟩
  have Hq := Lib.hid hq
  clear hq
  have hlast : U64 (IntKind.u64.wrap (hi + c')) ∧ U64 s ∧ IntKind.u64.wrap (hi + c') * BB + s = x * y + c := by
    obtain ⟨⟨h1, h2⟩, ⟨h3, h4⟩, h5⟩ := Hp.out
    obtain ⟨⟨q1, q2⟩, ⟨q3, q4⟩, q5⟩ := Hq.out
    exact mulAdd_last x y c hi lo s c' Hx.out Hy.out Hc.out Hp.out Hq.out
  have HL := Lib.hid hlast
  clear hlast
  go_wp2
  go_ret2
  exact ⟨_, _, rfl, HL.out, rfl⟩
end Go.Proofs.YtmgfajamanakcaaGreatDoor
