/- Part of the proof of FnParse: what the functions that it reaches do, as contracts. Conditions: those that each theorem names. -/
import Derived.Test.YtmgfajamanakcaaGreatDoorD39
import Derived.Test.YtmgfajamanakcaaGreatDoorD38
import Derived.Test.YtmgfajamanakcaaGreatDoorD02
import Derived.Test.YtmgfajamanakcaaGreatDoorD34
import Derived.SevenTiedAt
import Derived.OpenShut
import Derived.LaidLaws
import Derived.MakeChecks
import Derived.ChangeMaps5
import Derived.ChangeSlices
import Derived.Lib.SlBytesRow
import Derived.Deep.RegionHeld3
namespace Go.Proofs.YtmgfajamanakcaaGreatDoor.Si
set_option linter.unusedVariables false
set_option linter.unusedSimpArgs false
open Go Go.RowKit
set_option maxRecDepth 100000
theorem gcd_mod (A B : Int) : Int.gcd B (A % B) = Int.gcd A B := by
  have h := gcd_step A B (A / B)
  have e := Int.emod_add_mul_ediv A B
  rw [show A - A / B * B = A % B by rw [Int.mul_comm]; omega] at h
  exact h
def GcdRel (w : World) (V1 V2 : Int) (gk : Nat) (s0 s1 : Value) (wc : World) : Prop :=
  ∃ a n c b m d A B, s0 = .slice a n c ∧ s1 = .slice b m d ∧ n < 16384 ∧ m < 16384 ∧ Hid (NatV wc a n c A ∧ NatV wc b m d B ∧ Int.gcd A B = Int.gcd V1 V2 ∧ gk = B.toNat ∧ Chg zNone w wc)
set_option maxHeartbeats 2000000 in
theorem gcd_any (a1 a2 : Option Addr) (n1 c1 n2 c2 : Nat) (V1 V2 : Int) (w : World) (h1 : NatV w a1 n1 c1 V1) (h2 : NatV w a2 n2 c2 V2) (hn1 : n1 < 16384) (hn2 : n2 < 16384) :
    Calls Tryz.prog 70 #[.slice a1 n1 c1, .slice a2 n2 c2] w (NRes w ((Int.gcd V1 V2 : Nat) : Int)) := by
  have H := Lib.hid (And.intro h1 h2)
  clear h1 h2
  go_enter Tryz.func70, Tryz.ntmps70
  go_wp2_with fail
  go_loopg [0, 1, 5, 6] V2.toNat (fun gk s0 s1 s5 s6 wc => GcdRel w V1 V2 gk s0 s1 wc)
  case atStart => exact ⟨a1, n1, c1, a2, n2, c2, V1, V2, rfl, rfl, hn1, hn2, H.out.1, H.out.2, rfl, rfl, Chg.refl _ _⟩
  case round =>
    obtain ⟨a, n, c, b, m, d, A, B, rfl, rfl, hn, hm, HL⟩ := hrel
    have hB0 := HL.out.2.1.nonneg
    have hA0 := HL.out.1.nonneg
    have hz := HL.out.2.1.zero
    by_cases hm0 : m = 0
    · have d1 : decide ((0 : Int) < (m : Int)) = false := decide_eq_false (by omega)
      have d1' : decide (0 < m) = false := decide_eq_false (by omega)
      have HB : Hid (B = 0) := hz.1 hm0
      clear hz hm0
      go_wp2
      go_ret
      refine ⟨a, n, c, rfl, ?_, HL.out.2.2.2.2⟩
      have e := HL.out.2.2.1
      rw [HB.out, Int.gcd_zero_right] at e
      have : ((Int.gcd V1 V2 : Nat) : Int) = A := by omega
      rw [this]
      exact HL.out.1
    · have d1 : decide ((0 : Int) < (m : Int)) = true := decide_eq_true (by omega)
      have d1' : decide (0 < m) = true := decide_eq_true (by omega)
      have hBp : 0 < B := by
        rcases Int.lt_or_le 0 B with g | g
        · exact g
        · exact absurd (hz.2 (by omega)) hm0
      have HD := Lib.hid (divmod_any a b n c m d A B wr HL.out.1 HL.out.2.1 hBp (by omega) (by omega))
      have hml : A % B < B := Int.emod_lt_of_pos A hBp
      have hm00 := Int.emod_nonneg A (show B ≠ 0 by omega)
      have HM := Lib.hid (And.intro hml hm00)
      have HBp := Lib.hid hBp
      clear hz hm0 hml hm00
      go_wp2_with fail
      refine HD.out.mono ?_
      rintro e w1 ⟨qa, qn, qc, ra, rn, rc, rfl, g1, g2, g3⟩
      have hrn : rn ≤ m := g2.len (by have := nat_lt HL.out.2.1; have := HM.out.1; omega)
      have HG := Lib.hid (And.intro g2 g3)
      clear g1 g2 g3
      go_wp2
      go_roundg ((A % B).toNat)
      case measure => have := HM.out; have := HBp.out; have := HL.out.2.2.2.1; omega
      case rel => exact ⟨b, m, d, ra, rn, rc, B, A % B, rfl, rfl, hm, by omega, HL.out.2.1.far HG.out.2, HG.out.1, by rw [gcd_mod]; exact HL.out.2.2.1, rfl, HL.out.2.2.2.2.trans HG.out.2 (fun _ _ _ h => h)⟩
end Go.Proofs.YtmgfajamanakcaaGreatDoor.Si
namespace Go.Proofs.YtmgfajamanakcaaGreatDoor
set_option linter.unusedVariables false
set_option linter.unusedSimpArgs false
open Go Go.RowKit
set_option maxRecDepth 100000
theorem and_low16 {y : Int} (h0 : 0 ≤ y) (h1 : y < 18446744073709551616) : bits BinOp.and IntKind.u64 y 65535 = y % 65536 := by
  obtain ⟨k, rfl⟩ : ∃ k : Nat, y = (k : Int) := ⟨y.toNat, by omega⟩
  have h1' : (BitVec.ofInt 64 (k : Int)).toNat = k := by rw [BitVec.toNat_ofInt]; omega
  have h2 : (BitVec.ofInt 64 (65535 : Int)).toNat = 2 ^ 16 - 1 := by decide
  show IntKind.u64.wrap ((BitVec.ofInt 64 (k : Int) &&& BitVec.ofInt 64 65535).toNat : Int) = _
  rw [BitVec.toNat_and, h1', h2, Nat.and_two_pow_sub_one_eq_mod, IntKind.wrap_u64]
  omega
theorem word_step (x : Int) (j : Nat) : x % 2 ^ (16 * (j + 1)) = x % 2 ^ (16 * j) + 2 ^ (16 * j) * (x / 2 ^ (16 * j) % 65536) := by
  have hp : (0 : Int) < 2 ^ (16 * j) := Int.pow_pos (by decide)
  have e1 := Int.emod_add_mul_ediv x (2 ^ (16 * j))
  have e2 := Int.emod_add_mul_ediv (x / 2 ^ (16 * j)) 65536
  have a0 := Int.emod_nonneg x (show (2 : Int) ^ (16 * j) ≠ 0 by omega)
  have a1 := Int.emod_lt_of_pos x hp
  have b0 := Int.emod_nonneg (x / 2 ^ (16 * j)) (show (65536 : Int) ≠ 0 by decide)
  have b1 := Int.emod_lt_of_pos (x / 2 ^ (16 * j)) (show (0 : Int) < 65536 by decide)
  have e3 : (2 : Int) ^ (16 * (j + 1)) = 2 ^ (16 * j) * 65536 := by rw [show 16 * (j + 1) = 16 * j + 16 by omega, Int.pow_add]; rfl
  have h1 : 2 ^ (16 * j) * (x / 2 ^ (16 * j) % 65536) ≤ 2 ^ (16 * j) * 65535 := Int.mul_le_mul_of_nonneg_left (by omega) (Int.le_of_lt hp)
  have h2 := Int.mul_nonneg (Int.le_of_lt hp) b0
  have e4 : x = (x % 2 ^ (16 * j) + 2 ^ (16 * j) * (x / 2 ^ (16 * j) % 65536)) + 2 ^ (16 * (j + 1)) * (x / 2 ^ (16 * j) / 65536) := by
    rw [e3]
    conv => lhs; rw [← e1]
    conv => lhs; rw [← e2]
    generalize x / 2 ^ (16 * j) % 65536 = d
    generalize x / 2 ^ (16 * j) / 65536 = q
    generalize (2 : Int) ^ (16 * j) = u
    grind
  conv => lhs; rw [e4]
  rw [Int.add_mul_emod_self_left, Int.emod_eq_of_lt (by omega) (by omega)]
def OfIn (w : World) (U : Nat → Int) (i j : Nat) (wc : World) (a : Option Addr) (k c : Nat) : Prop :=
  ∃ X, k = 4 * i + j ∧ Si.Out w wc a k c X ∧ DF X k ∧ vs X k = val U i + BB ^ i * (U i % 2 ^ (16 * j))
def OfP (w : World) (V : Int) (un : Nat) (e : Ending) (w' : World) : Prop := ∃ a n c, e = .returned (.slice a n c) ∧ n ≤ 4 * un ∧ Si.NatV w' a n c V ∧ Chg zNone w w' ∧ Fresh w a
set_option maxHeartbeats 4000000 in
theorem of_any (ua : Option Addr) (un uc : Nat) (U : Nat → Int) (w : World) (hu : Rd w ua un U) (hU : WF U un) (hun : un < 1048576) :
    Calls Tryz.prog 39 #[.slice ua un uc] w (OfP w (val U un) un) := by
  have HU := Lib.hid (And.intro hu hU)
  clear hu hU
  go_enter Tryz.func39, Tryz.ntmps39
  go_wp2_with fail
  go_loopg [3, 5, 6, 10] un (fun gk s3 s5 s6 s10 wc => ∃ (i : Nat) (a : Option Addr) (k c : Nat), s3 = .slice a k c ∧ s10 = .int .i64 (i : Int) ∧ i + gk = un ∧ Hid (OfIn w U i 0 wc a k c))
  case atStart => exact ⟨0, _, 0, _, rfl, rfl, by omega, fun _ => 0, rfl, Si.Out.empty w w (Chg.refl _ _) (Nat.le_refl _), fun i hi => by omega, by simp [val, vs, Int.emod_one]⟩
  case round =>
    obtain ⟨i, a, k, c, rfl, rfl, hk, HL⟩ := hrel
    by_cases hi : i < un
    · have h1 : decide ((i : Int) < (un : Int)) = true := decide_eq_true (by omega)
      have h2 : (0 : Int) ≤ (i : Int) := by omega
      have h3 : (i : Int) < (un : Int) := by omega
      have hkc : Chg zNone w wr := by obtain ⟨X, _, h, _⟩ := HL.out; exact h.chg
      obtain ⟨bx, ox, rfl, hcell⟩ := rd_at (rd_far HU.out.1 hkc (fun _ _ _ _ _ h => h)) hi
      have hx := HU.out.2 i hi
      obtain ⟨x, hxx⟩ : ∃ x, U i = x := ⟨_, rfl⟩
      rw [hxx] at hcell hx
      obtain ⟨hx0, hx1⟩ := hx
      have HX := Lib.hid hxx
      clear hxx hkc
      obtain ⟨g0, hg0⟩ : ∃ g0, g0 = gk := ⟨_, rfl⟩
      go_wp2_with fail
      go_loopg [3, 6] 4 (fun gj s3 s6 wc => ∃ (j : Nat) (a : Option Addr) (k c : Nat), s3 = .slice a k c ∧ s6 = .int .i64 (j : Int) ∧ j + gj = 4 ∧ k < 4194304 ∧ Hid (OfIn w U i j wc a k c))
      case atStart =>
        refine ⟨0, a, k, c, rfl, rfl, rfl, ?_, HL.out⟩
        obtain ⟨X, hk4, _⟩ := HL.out
        omega
      case round =>
        obtain ⟨j, a, k, c, rfl, rfl, hj4, hk22, HJ⟩ := hrel
        by_cases hj : j < 4
        · have g1 : decide ((j : Int) < 4) = true := decide_eq_true (by omega)
          have j0 : (0 : Int) ≤ (j : Int) := by omega
          obtain ⟨s, hs⟩ : ∃ s, 16 * j = s := ⟨_, rfl⟩
          have e16 : 16 * ((j : Nat) : Int) = (s : Int) := by omega
          have s0 : ¬ ((s : Int) < 0) := by omega
          have hs64 : s < 64 := by omega
          have hmin : min s 64 = s := by omega
          have hy0 : 0 ≤ x / 2 ^ s := Int.ediv_nonneg hx0 (Int.le_of_lt (Int.pow_pos (by decide)))
          have hy1 : x / 2 ^ s < 18446744073709551616 := by have := Int.ediv_le_self (2 ^ s) hx0; omega
          have ha := and_low16 hy0 hy1
          obtain ⟨d, hd⟩ : ∃ d, x / 2 ^ s % 65536 = d := ⟨_, rfl⟩
          rw [hd] at ha
          have hd0 : 0 ≤ d := by omega
          have hd1 : d < 65536 := by omega
          have wd : wrap64 d = d := IntWalk.wrap64_in _ (by omega)
          have HD := Lib.hid (And.intro hs hd)
          obtain ⟨X, q1, q2, q3, q4⟩ := HJ.out
          have HO := Lib.hid (And.intro q1 (And.intro q2 (And.intro q3 q4)))
          have HX1 := Lib.hid (q2.one d)
          have x3 := q2.le
          have x4 : k < 1099511627776 := by omega
          clear hs hd q1 q2 q3 q4 hy0 hy1
          go_wp2_with (refine Si.wpList_append_int rfl (.tmp 18) (.tmp 25) rfl a k c X _ _ rfl rfl HX1.out.1 HX1.out.2.1 x3 x4 HX1.out.2.2 ?_; rintro a2 c2 w2 h2; have H2 := Lib.hid h2; clear h2)
          go_roundg (gk - 1)
          case measure => omega
          case rel =>
            obtain ⟨q1, q2, q3, q4⟩ := HO.out
            obtain ⟨hs, hd⟩ := HD.out
            refine ⟨j + 1, a2, k + 1, c2, rfl, by go_num, by omega, by omega, upd X k d, by omega, q2.snoc H2.out, Si.df_upd q3 ⟨hd0, hd1⟩, ?_⟩
            rw [Si.vs_upd, q4, HX.out, word_step, Int.mul_add, hs, hd]
            have e5 : SB ^ k = BB ^ i * 2 ^ s := by
              rw [← SB_four, q1, Int.pow_add, ← hs, Si.SB_pow j]
            rw [e5, Int.mul_comm d, Int.mul_assoc]
            omega
        · have g1 : decide ((j : Int) < 4) = false := decide_eq_false (by omega)
          obtain rfl : j = 4 := by omega
          go_wp2
          go_roundg (g0 - 1)
          case measure => omega
          case rel =>
            obtain ⟨X, q1, q2, q3, q4⟩ := HJ.out
            refine ⟨i + 1, a, k, c, rfl, by go_num, by omega, X, by omega, q2, q3, ?_⟩
            rw [q4, val_add, val_one]
            show val U i + BB ^ i * (U i % 2 ^ 64) = val U i + BB ^ i * U i + BB ^ (i + 1) * (U (i + 1) % 2 ^ 0)
            have h64 : (2 : Int) ^ 64 = 18446744073709551616 := by decide
            rw [HX.out, Int.pow_zero, Int.emod_one, Int.emod_eq_of_lt (b := 2 ^ 64) hx0 (by rw [h64]; exact hx1)]
            omega
    · have h1 : decide ((i : Int) < (un : Int)) = false := decide_eq_false (by omega)
      obtain rfl : i = un := by omega
      obtain ⟨X, q1, q2, q3, q4⟩ := HL.out
      rw [Nat.mul_zero, Int.pow_zero, Int.emod_one, Int.mul_zero, Int.add_zero] at q4
      have HO := Lib.hid (And.intro q1 (And.intro q2 (And.intro q3 q4)))
      have HT := Lib.hid (Si.trim_any a k c X wr q2.rd q2.le q2.z.cap)
      clear q1 q2 q3 q4
      go_wp2_with fail
      refine HT.out.mono ?_
      rintro e w4 ⟨j, rfl, j1, j2, j3, rfl⟩
      have HJ := Lib.hid (And.intro j1 (And.intro j2 j3))
      clear j1 j2 j3
      go_wp2
      go_ret
      obtain ⟨j1, j2, j3⟩ := HJ.out
      obtain ⟨q1, q2, q3, q4⟩ := HO.out
      exact ⟨a, j, c, rfl, by omega, ⟨by have := q2.le; omega, q2.z, X, q2.rd.le j1, q3.le j1, j3, by rw [Si.vs_trim j1 j2, q4]⟩, q2.chg, q2.fr⟩
def IsNP (w : World) (xn neg : Bool) (U : Nat → Int) (un : Nat) (V : Int) (e : Ending) (w' : World) : Prop :=
  ∃ r, e = .returned (.bool r) ∧ (r = true ↔ (xn = (neg && decide (V ≠ 0)) ∧ Norm U un ∧ val U un = V)) ∧ Chg zNone w w'
set_option maxHeartbeats 4000000 in
theorem isnumber_any (xn neg : Bool) (ua : Option Addr) (un uc : Nat) (U : Nat → Int) (a : Option Addr) (n c : Nat) (V : Int) (w : World) (hu : Rd w ua un U) (hU : WF U un) (hun : un < 1048576) (h : Si.NatV w a n c V) (hn : n < 1048576) :
    Calls Tryz.prog 69 #[.agg #[.bool xn, .slice ua un uc], .bool neg, .slice a n c] w (IsNP w xn neg U un V) := by
  obtain ⟨wA, hwA⟩ : ∃ wA, wA = w.alloc (.cells #[.bool xn, .slice ua un uc] 29) := ⟨_, rfl⟩
  have kA : Chg zNone w wA := by rw [hwA]; exact (Chg.refl _ _).alloc _
  have HH := Lib.hid (haswords_any ua un uc U a n c V wA (rd_far hu kA (fun _ _ _ _ _ h => h)) hU hun (h.far kA) hn)
  have hz := h.zero
  have HZ := Lib.hid (And.intro hz kA)
  rw [hwA] at HH
  have HWA := Lib.hid hwA
  clear hu hU h hz kA hwA
  by_cases hn0 : n = 0
  · have d1 : decide ((0 : Int) < (n : Int)) = false := decide_eq_false (by omega)
    have d1' : decide (0 < n) = false := decide_eq_false (by omega)
    have HV : Hid (decide (V ≠ 0) = false) := decide_eq_false (fun hh => hh (HZ.out.1.1 hn0))
    clear hn0
    cases xn <;> cases neg
    all_goals
      go_enter Tryz.func69, Tryz.ntmps69
      go_wp2_with fail
      try (refine HH.out.mono ?_; rintro e w1 ⟨r, rfl, hr, k1⟩; have HR := Lib.hid (And.intro hr k1); clear hr k1; go_wp2)
      go_ret
      first
        | exact ⟨r, rfl, ⟨fun h => ⟨by rw [HV.out]; rfl, HR.out.1.1 h⟩, fun hh => HR.out.1.2 hh.2⟩, (show Chg zNone w _ from (Chg.refl zNone w).alloc _).trans HR.out.2 (fun _ _ _ h => h)⟩
        | exact ⟨false, rfl, ⟨(fun h => by cases h), fun hh => by have h1 := hh.1; rw [HV.out] at h1; cases h1⟩, (Chg.refl zNone w).alloc _⟩
  · have d1 : decide ((0 : Int) < (n : Int)) = true := decide_eq_true (by omega)
    have d1' : decide (0 < n) = true := decide_eq_true (by omega)
    have HV : Hid (decide (V ≠ 0) = true) := decide_eq_true (fun hh => hn0 (HZ.out.1.2 hh))
    clear hn0
    cases xn <;> cases neg
    all_goals
      go_enter Tryz.func69, Tryz.ntmps69
      go_wp2_with fail
      try (refine HH.out.mono ?_; rintro e w1 ⟨r, rfl, hr, k1⟩; have HR := Lib.hid (And.intro hr k1); clear hr k1; go_wp2)
      go_ret
      first
        | exact ⟨r, rfl, ⟨fun h => ⟨by rw [HV.out]; rfl, HR.out.1.1 h⟩, fun hh => HR.out.1.2 hh.2⟩, (show Chg zNone w _ from (Chg.refl zNone w).alloc _).trans HR.out.2 (fun _ _ _ h => h)⟩
        | exact ⟨false, rfl, ⟨(fun h => by cases h), fun hh => by have h1 := hh.1; rw [HV.out] at h1; cases h1⟩, (Chg.refl zNone w).alloc _⟩
def fracV (xn : Bool) (ua : Option Addr) (un uc : Nat) (da : Option Addr) (dn dc : Nat) : Value := .agg #[.bool xn, .slice ua un uc, .slice da dn dc]
def ratV (neg : Bool) (a : Option Addr) (n c : Nat) (b : Option Addr) (m d : Nat) : Value := .agg #[.bool neg, .slice a n c, .slice b m d]
theorem three_cells (w : World) (v0 v1 v2 : Value) (t : TypeId) : ∀ i v, (#[v0, v1, v2])[i]? = some v → (w.alloc (.cells #[v0, v1, v2] t)).cell? ⟨w.heap.size, i, none⟩ = some v := fun i v h => cell?_alloc_new w _ t i v h
def IsFP (w : World) (xn neg : Bool) (U D : Nat → Int) (un dn : Nat) (V B : Int) (e : Ending) (w' : World) : Prop :=
  ∃ r, e = .returned (.bool r) ∧ (r = true ↔ ((xn = (neg && decide (V ≠ 0)) ∧ Norm U un ∧ val U un = V) ∧ Norm D dn ∧ val D dn = B)) ∧ Chg zNone w w'
set_option maxHeartbeats 4000000 in
theorem isfraction_any (xn neg : Bool) (ua : Option Addr) (un uc : Nat) (U : Nat → Int) (da : Option Addr) (dn dc : Nat) (D : Nat → Int) (a b : Option Addr) (n c m d : Nat) (V B : Int) (w : World)
    (hu : Rd w ua un U) (hU : WF U un) (hun : un < 1048576) (hd : Rd w da dn D) (hD : WF D dn) (hdn : dn < 1048576) (h : Si.NatV w a n c V) (hn : n < 1048576) (h2 : Si.NatV w b m d B) (hm : m < 1048576) :
    Calls Tryz.prog 37 #[fracV xn ua un uc da dn dc, ratV neg a n c b m d] w (IsFP w xn neg U D un dn V B) := by
  obtain ⟨w0, hw0⟩ : ∃ w0, w0 = w.alloc (.cells #[.bool xn, .slice ua un uc, .slice da dn dc] 31) := ⟨_, rfl⟩
  obtain ⟨wA, hwA⟩ : ∃ wA, wA = w0.alloc (.cells #[.bool neg, .slice a n c, .slice b m d] 45) := ⟨_, rfl⟩
  have k0 : Chg zNone w w0 := by rw [hw0]; exact (Chg.refl _ _).alloc _
  have k1 : Chg zNone w0 wA := by rw [hwA]; exact (Chg.refl _ _).alloc _
  have kal := k0.trans k1 (fun _ _ _ h => h)
  have z0 : w0.heap.size = w.heap.size + 1 := by rw [hw0]; show (w.heap.push _).size = _; simp
  have hF : ∀ i v, (#[Value.bool xn, .slice ua un uc, .slice da dn dc])[i]? = some v → wA.cell? ⟨w.heap.size, i, none⟩ = some v := fun i v h => k1.cell (by rw [hw0]; exact three_cells w _ _ _ 31 i v h) (fun h => h)
  have hR : ∀ i v, (#[Value.bool neg, .slice a n c, .slice b m d])[i]? = some v → wA.cell? ⟨w.heap.size + 1, i, none⟩ = some v := fun i v h => by rw [← z0, hwA]; exact three_cells w0 _ _ _ 45 i v h
  have HN := Lib.hid (isnumber_any xn neg ua un uc U a n c V wA (rd_far hu kal (fun _ _ _ _ _ h => h)) hU hun (h.far kal) hn)
  have HF := Lib.hid (And.intro hF (And.intro hR (And.intro kal (And.intro hd (And.intro hD h2)))))
  rw [hwA, hw0] at HN
  have HWA := Lib.hid (show (w.alloc (.cells #[.bool xn, .slice ua un uc, .slice da dn dc] 31)).alloc (.cells #[.bool neg, .slice a n c, .slice b m d] 45) = wA by rw [hwA, hw0])
  clear hu hU h hd hD h2 hF hR kal k0 k1 z0 hwA hw0
  unfold fracV ratV
  go_enter Tryz.func37, Tryz.ntmps37
  go_wp2_with fail
  refine HN.out.mono ?_
  rintro e w1 ⟨r, rfl, hr, k1⟩
  rw [HWA.out] at k1
  have f1 := k1.cell (HF.out.1 2 _ rfl) (fun h => h)
  have f2 := k1.cell (HF.out.2.1 2 _ rfl) (fun h => h)
  have k2 := HF.out.2.2.1.trans k1 (fun _ _ _ h => h)
  have HD := Lib.hid (haswords_any da dn dc D b m d B w1 (rd_far HF.out.2.2.2.1 k2 (fun _ _ _ _ _ h => h)) HF.out.2.2.2.2.1 hdn (HF.out.2.2.2.2.2.far k2) hm)
  have HR := Lib.hid (And.intro hr k2)
  clear hr k1 k2
  cases r with
  | true =>
    go_wp2_with fail
    refine HD.out.mono ?_
    rintro e w2 ⟨r2, rfl, hr2, k3⟩
    have HK := Lib.hid (And.intro hr2 (HR.out.2.trans k3 (fun _ _ _ h => h)))
    clear hr2 k3
    go_wp2
    go_ret
    exact ⟨r2, rfl, ⟨fun h => ⟨HR.out.1.1 (by simp), HK.out.1.1 h⟩, fun hh => HK.out.1.2 hh.2⟩, HK.out.2⟩
  | false =>
    go_wp2
    go_ret
    exact ⟨false, rfl, ⟨(fun h => by cases h), fun hh => HR.out.1.2 hh.1⟩, HR.out.2⟩
end Go.Proofs.YtmgfajamanakcaaGreatDoor
namespace Go.Proofs.YtmgfajamanakcaaGreatDoor
set_option linter.unusedVariables false
set_option linter.unusedSimpArgs false
open Go.ChangeShapes Go.WideShapes Go.ChangeAt Go.RowKit
set_option maxRecDepth 100000
theorem laid_at1 {P : Program} {w : World} {n : String} {d : DataW Unit} : ∀ {l : List (String × DataW Unit)} {ps : List MemPlace}, DataW.LaidVars P w l ps → (n, d) ∈ l →
    ∃ g t cs fuel p, P.globalNamed n = some g ∧ (P.globals[g]?).map (·.type) = some t ∧ w.var? P n = some cs ∧ DataW.trod (fun _ => ()) P w 0 (fun _ => true) false fuel t cs.toList = some (d, p) ∧ ∀ x ∈ MemPlace.row ⟨g, 0, none⟩ cs.size, x ∈ ps
  | [], _, _, h => by cases h
  | (n', d') :: r, ps, h, hm => by
    obtain ⟨g, t, cs, fuel, p, q, h1, h2, h3, h4, h5, rfl⟩ := h
    rcases List.mem_cons.1 hm with e | e
    · injection e with e1 e2
      subst e1; subst e2
      exact ⟨g, t, cs, fuel, p, h1, h2, h3, h4, fun x hx => by simp [hx]⟩
    · obtain ⟨g', t', cs', fuel', p', k1, k2, k3, k4, k5⟩ := laid_at1 h5 e
      exact ⟨g', t', cs', fuel', p', k1, k2, k3, k4, fun x hx => by simp [k5 x hx]⟩
theorem lit_at1 {w : World} {l : List (String × DataW Unit)} (h : laidMet Tryz.prog l w) {n : String} {g : Nat} {ty : TypeId} {k : IntKind} {x : Int} (hm : (n, DataW.lit (.int k x)) ∈ l) (hg : Tryz.prog.globalNamed n = some g) (ht : (Tryz.prog.globals[g]?).map (·.type) = some ty) (hu : Tryz.prog.underlying ty = some (.int k)) :
    w.cell? ⟨g, 0, none⟩ = some (.int k x) := by
  obtain ⟨ps, hl, hnd, hrows⟩ := h
  obtain ⟨g', t, cs, fuel, p, k1, k2, k3, k4, k5⟩ := laid_at1 hl hm
  obtain rfl := Option.some.inj (hg.symm.trans k1)
  obtain rfl := Option.some.inj (ht.symm.trans k2)
  obtain ⟨l0⟩ := cs
  obtain ⟨y, e1, e2, _⟩ := DataW.trod_int hu k4
  injection e2 with e3 _
  injection e3 with e4
  injection e4 with _ e5
  subst e5
  have e6 : l0 = [.int k x] := e1
  subst e6
  simpa using World.var?_cell k1 k3 0
theorem open_words {H : Type} {enc : TypeId × Value → H} {w : World} {sp : Nat → Bool} {held : Bool} {t e : TypeId} {fuel : Nat} {cs : List Value} {x : DataW H × List MemPlace} (ht : Tryz.prog.underlying t = some (.slice e)) (he : Tryz.prog.underlying e = some (.int .u64)) (hc : Tryz.prog.cellsOf e = 1)
    (h : DataW.trod enc Tryz.prog w 0 sp held fuel t cs = some x) : ∃ a n c U, cs = [.slice a n c] ∧ Rd w a n U ∧ WF U n := by
  rcases open_ints ht he hc h with ⟨rfl, _⟩ | ⟨a, len, cap, zs, rfl, _, hlc, _, hlen, _, hcell, hwf⟩
  · exact ⟨none, 0, 0, fun _ => 0, rfl, Or.inl rfl, fun i hi => absurd hi (by omega)⟩
  · have hle : len ≤ zs.length := by rw [hlen]; split <;> omega
    refine ⟨some a, len, cap, fun i => zs.getD i 0, rfl, ?_, fun i hi => ?_⟩
    · by_cases h0 : len = 0
      · exact Or.inl h0
      · right
        have hs := World.cell?_spot (hcell 0 (by omega))
        obtain ⟨b, o, spot⟩ := a
        have hs' : spot = none := by simpa [Addr.add] using hs
        subst hs'
        exact ⟨b, o, rfl, fun i hi => by have := hcell i (by omega); rwa [add_plain] at this⟩
    · have hm : zs.getD i 0 ∈ zs := by
        rw [List.getD_eq_getElem?_getD, List.getElem?_eq_getElem (by omega)]
        exact List.getElem_mem ..
      have := bounds_u64 (hwf _ hm)
      exact ⟨this.1, by show zs.getD i 0 < 18446744073709551616; omega⟩
theorem open_frac {H : Type} {enc : TypeId × Value → H} {w : World} {r : Reach} {b0 : Nat} {sp : Nat → Bool} {held : Bool} {v : Value} {d : DataW H} {ps : List MemPlace} (hval : Value.okWide Tryz.prog w r b0 31 v) (hd : DataW.Trod enc Tryz.prog w 0 sp held 31 v d ps) :
    ∃ xn ua un uc U da dn dc D, v = fracV xn ua un uc da dn dc ∧ Rd w ua un U ∧ WF U un ∧ Rd w da dn D ∧ WF D dn := by
  obtain ⟨cs, rfl, hsz⟩ := okWide_struct Tryz.underlying31 hval
  rw [show Tryz.prog.cellsOf 31 = 3 by kernel_rfl] at hsz
  obtain ⟨l⟩ := cs
  match l, hsz with
  | [c0, c1, c2], _ =>
  obtain ⟨fuel, hf⟩ := hd
  obtain ⟨y0, y1, n, _, _, h0, h1⟩ := trod_struct2 Tryz.underlying31 hf
  have e29 : Tryz.prog.cellsOf 29 = 2 := by kernel_rfl
  have e23 : Tryz.prog.cellsOf 23 = 1 := by kernel_rfl
  have e4 : Tryz.prog.cellsOf 4 = 1 := by kernel_rfl
  simp only [e29, e23, Value.cells, List.drop_zero, List.drop_succ_cons, List.take_succ_cons, List.take_zero] at h0 h1
  obtain ⟨z0, z1, n', _, _, g0, g1⟩ := trod_struct2 Tryz.underlying29 h0
  simp only [e4, e23, List.drop_zero, List.drop_succ_cons, List.take_succ_cons, List.take_zero] at g0 g1
  obtain ⟨xn, q1, _⟩ := DataW.trod_bool Tryz.underlying4 g0
  obtain ⟨ua, un, uc, U, q2, r1, r2⟩ := open_words Tryz.underlying23 (e := 22) Tryz.underlying22 (by kernel_rfl) g1
  obtain ⟨da, dn, dc, D, q3, r3, r4⟩ := open_words Tryz.underlying23 (e := 22) Tryz.underlying22 (by kernel_rfl) h1
  injection q1 with q1
  injection q2 with q2
  injection q3 with q3
  subst q1; subst q2; subst q3
  exact ⟨xn, ua, un, uc, U, da, dn, dc, D, rfl, r1, r2, r3, r4⟩
theorem glob_of {w : World} {l : List (String × DataW Unit)} (h : laidMet Tryz.prog l w)
    (m9 : ("loop.example/pub-g03235/pub/bigall.leafSize", DataW.lit (.int .i64 8)) ∈ l) (m4 : ("loop.example/pub-g03235/pub/bigall.divRecursiveThreshold", DataW.lit (.int .i64 40)) ∈ l) (m1 : ("loop.example/pub-g03235/pub/bigall.karatsubaThreshold", DataW.lit (.int .i64 40)) ∈ l)
    (m5 : ("loop.example/pub-g03235/pub/bigall.basicSqrThreshold", DataW.lit (.int .i64 12)) ∈ l) (m6 : ("loop.example/pub-g03235/pub/bigall.karatsubaSqrThreshold", DataW.lit (.int .i64 80)) ∈ l) : Glob w :=
  ⟨lit_at1 h m9 (ty := 3) (by kernel_rfl) (by kernel_rfl) Tryz.underlying3, lit_at1 h m4 (ty := 3) (by kernel_rfl) (by kernel_rfl) Tryz.underlying3, lit_at1 h m1 (ty := 3) (by kernel_rfl) (by kernel_rfl) Tryz.underlying3,
    lit_at1 h m5 (ty := 3) (by kernel_rfl) (by kernel_rfl) Tryz.underlying3, lit_at1 h m6 (ty := 3) (by kernel_rfl) (by kernel_rfl) Tryz.underlying3⟩
end Go.Proofs.YtmgfajamanakcaaGreatDoor
namespace Go.Proofs.YtmgfajamanakcaaGreatDoor
set_option linter.unusedVariables false
set_option linter.unusedSimpArgs false
open Go Go.RowKit
set_option maxRecDepth 100000
def FracW (B : Nat → Int) (n : Nat) (neg : Bool) (V D : Int) : Prop :=
  ∃ m1 m2, n = m1 + 1 + m2 ∧ TextW B m1 neg V ∧ B m1 = 47 ∧ TextW (fun i => B (m1 + 1 + i)) m2 false D
theorem TextW.congr {B B' : Nat → Int} {n : Nat} {neg : Bool} {V : Int} (h : TextW B n neg V) (e : ∀ i, i < n → B' i = B i) : TextW B' n neg V := by
  obtain ⟨m, h1, h2, h3, h4, h5⟩ := h
  exact ⟨m, h1, fun hn => by rw [e 0 (by omega)]; exact h2 hn, h3, h4.congr (fun i _ hi => e i hi), h5⟩
def strOf (B : Nat → Int) (n : Nat) : ByteArray := ⟨((List.range n).map fun i => UInt8.ofNat (B i).toNat).toArray⟩
theorem strOf_size (B : Nat → Int) (n : Nat) : (strOf B n).size = n := by
  show (((List.range n).map _).toArray).size = n
  simp
theorem strOf_at (B : Nat → Int) (n i : Nat) (hi : i < n) (h : 0 ≤ B i ∧ B i < 256) : byteAt (strOf B n) i = B i := by
  unfold byteAt strOf
  simp only [List.getD_eq_getElem?_getD, List.getElem?_map, List.getElem?_range hi, Option.map_some, Option.getD_some]
  rw [UInt8.toNat_ofNat']
  omega
theorem conv_str (w : World) (b o n c : Nat) (B : Nat → Int) (hB : BWords w b o n B) (hr : ∀ i, i < n → 0 ≤ B i ∧ B i < 256) :
    (convert 100 9 (.slice (some ⟨b, o, none⟩) n c)).run Tryz.prog w = .ok (.string (strOf B n)) w := by
  have hs : Lib.Bytes w b o (strOf B n) := fun i hi => by
    rw [byteAt_eq]
    rw [strOf_size] at hi
    rw [strOf_at B n i hi (hr i hi)]
    exact hB i hi
  have := Lib.run_convert_whole (P := Tryz.prog) w 100 5 9 Tryz.underlying100 Tryz.underlying5 Tryz.underlying9 b o (strOf B n) hs c
  rwa [strOf_size] at this
theorem TextW.byte {B : Nat → Int} {n : Nat} {neg : Bool} {V : Int} (h : TextW B n neg V) : ∀ i, i < n → 0 ≤ B i ∧ B i < 256 := by
  obtain ⟨m, h1, h2, h3, h4, h5⟩ := h
  intro i hi
  by_cases hm : m ≤ i
  · have := h4.dig hm hi
    omega
  · have : neg = true := by
      cases neg with
      | true => rfl
      | false => simp at h1; omega
    have h0 := h2 this
    rw [this] at h1
    simp at h1
    obtain rfl : i = 0 := by omega
    omega
theorem FracW.byte {B : Nat → Int} {n : Nat} {neg : Bool} {V D : Int} (h : FracW B n neg V D) : ∀ i, i < n → 0 ≤ B i ∧ B i < 256 := by
  obtain ⟨m1, m2, hn, h1, h2, h3⟩ := h
  intro i hi
  by_cases a : i < m1
  · exact h1.byte i a
  · by_cases b : i = m1
    · subst b; omega
    · have := h3.byte (i - (m1 + 1)) (by omega)
      simp only [show m1 + 1 + (i - (m1 + 1)) = i by omega] at this
      exact this
theorem FracW.congr {B B' : Nat → Int} {n : Nat} {neg : Bool} {V D : Int} (h : FracW B n neg V D) (e : ∀ i, i < n → B' i = B i) : FracW B' n neg V D := by
  obtain ⟨m1, m2, hn, h1, h2, h3⟩ := h
  exact ⟨m1, m2, hn, h1.congr (fun i hi => e i (by omega)), by rw [e m1 (by omega)]; exact h2, h3.congr (fun i hi => e _ (by omega))⟩
def FracS (s : ByteArray) (neg : Bool) (V D : Int) : Prop := FracW (byteAt s) s.size neg V D
def NumS (s : ByteArray) (neg : Bool) (V : Int) : Prop := TextW (byteAt s) s.size neg V
theorem ratp_nums {w w1 : World} {zb : Nat} {neg : Bool} {a : Option Addr} {n c : Nat} {X : Nat → Int} {V : Int} {zo : Nat} (h : NumO w w1 zb zo neg a n c X V) (hn : n < 22) : NatIn w1 a n c X := ⟨h.rd, h.wf, h.le, by omega, h.z.aok⟩
end Go.Proofs.YtmgfajamanakcaaGreatDoor
