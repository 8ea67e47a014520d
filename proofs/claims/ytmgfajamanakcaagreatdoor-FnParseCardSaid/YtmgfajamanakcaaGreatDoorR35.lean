/- Part of the proof of FnParse: what the functions that it reaches do, as contracts. Conditions: those that each theorem names. -/
import Derived.Test.YtmgfajamanakcaaGreatDoorR34
import Derived.Test.YtmgfajamanakcaaGreatDoorR52
import Derived.Test.YtmgfajamanakcaaGreatDoorR12
import Derived.Test.YtmgfajamanakcaaGreatDoorR14
namespace Go.Proofs.YtmgfajamanakcaaGreatDoor.Si
set_option linter.unusedVariables false
set_option linter.unusedSimpArgs false
open Go Go.RowKit
set_option maxRecDepth 100000
structure ShlIn (A : Nat → Int) (q r i N : Nat) (Z : Nat → Int) : Prop where
  df : DF Z N
  c0 : 0 ≤ Z (q + i)
  c1 : Z (q + i) < 2 ^ r
  z : ∀ j, q + i < j → Z j = 0
  val : vs Z (q + i + 1) = SB ^ q * (vs A i * 2 ^ r)
theorem ShlIn.step {A : Nat → Int} {q r i N : Nat} {Z : Nat → Int} (h : ShlIn A q r i N Z) (hN : q + i + 1 < N) (hr : r < 16) (ha : D16 (A i)) :
    ShlIn A q r (i + 1) N (upd (upd Z (q + i) (Z (q + i) + A i * 2 ^ r % 65536)) (q + i + 1) (A i * 2 ^ r / 65536)) ∧ Z (q + i) + A i * 2 ^ r % 65536 < 65536 ∧ 0 ≤ A i * 2 ^ r ∧ A i * 2 ^ r < 4294967296 := by
  obtain ⟨h1, h2, h3, h4, h5⟩ := h
  have hp : (0 : Int) < 2 ^ r := Int.pow_pos (by decide)
  have hp2 : (2 : Int) ^ r ≤ 32768 := ipow_le (b := 2) (by decide) (show r ≤ 15 by omega)
  have y0 := Int.mul_nonneg ha.1 (Int.le_of_lt hp)
  have y1 : A i * 2 ^ r ≤ 65535 * 2 ^ r := Int.mul_le_mul_of_nonneg_right (by have := ha.2; omega) (Int.le_of_lt hp)
  have e : (65536 : Int) = 2 ^ r * 2 ^ (16 - r) := by rw [← Int.pow_add, show r + (16 - r) = 16 by omega]; decide
  have hm : A i * 2 ^ r % 65536 ≤ 65536 - 2 ^ r := by
    have e1 : A i * 2 ^ r % 65536 = 2 ^ r * (A i % 2 ^ (16 - r)) := by
      rw [e, Int.mul_comm (A i), Int.mul_emod_mul_of_pos _ _ hp]
    have hq : (0 : Int) < 2 ^ (16 - r) := Int.pow_pos (by decide)
    have e2 := Int.emod_lt_of_pos (A i) hq
    have e3 := Int.mul_le_mul_of_nonneg_left (show A i % 2 ^ (16 - r) ≤ 2 ^ (16 - r) - 1 by omega) (Int.le_of_lt hp)
    rw [Int.mul_sub, Int.mul_one, ← e] at e3
    rw [e1]
    exact e3
  have hlt : A i * 2 ^ r / 65536 < 2 ^ r := by
    rw [Int.ediv_lt_iff_lt_mul (by decide)]
    omega
  have s0 : Z (q + i) + A i * 2 ^ r % 65536 < 65536 := by omega
  generalize hy : A i * 2 ^ r = y at *
  have hd : 0 ≤ y / 65536 := by omega
  refine ⟨⟨df_put (df_put h1 ⟨by omega, by omega⟩) ⟨by omega, by omega⟩, ?_, ?_, fun j hj => ?_, ?_⟩, s0, y0, by omega⟩
  · rw [show q + (i + 1) = q + i + 1 by omega, upd_same]; omega
  · rw [show q + (i + 1) = q + i + 1 by omega, upd_same]; exact hlt
  · rw [upd_other _ _ (by omega), upd_other _ _ (by omega)]
    exact h4 j (by omega)
  · rw [show q + (i + 1) + 1 = (q + i + 1) + 1 by omega, vs_upd, vs_upd]
    simp only [vs] at h5 ⊢
    have e3 := Int.emod_add_mul_ediv y 65536
    have e4 : SB ^ (q + i + 1) = 65536 * SB ^ (q + i) := by rw [SB_succ]; unfold SB; rw [Int.mul_comm]
    have e5 : SB ^ q * ((vs A i + A i * SB ^ i) * 2 ^ r) = SB ^ q * (vs A i * 2 ^ r) + y * SB ^ (q + i) := by
      rw [← hy, Int.pow_add]; grind
    rw [e5, ← h5, e4]
    have e6 : y * SB ^ (q + i) = (y % 65536) * SB ^ (q + i) + y / 65536 * (65536 * SB ^ (q + i)) := by
      conv => lhs; rw [← e3]
      grind
    rw [e6]
    grind
set_option maxHeartbeats 4000000 in
theorem shl_fresh (a : Option Addr) (n c k : Nat) (V : Int) (w : World) (h : NatV w a n c V) (hn0 : n ≠ 0) (hn : n < 268435456) (hk : k < 268435456) :
    Calls Tryz.prog 66 #[.slice a n c, .int .i64 (k : Int)] w (NResF w (V * 2 ^ k)) := by
  obtain ⟨l1, z1, A, r1, f1, t1, rfl⟩ := h
  have d0 : ((n : Int) == 0) = false := by simp [hn0]
  have e1 : (k : Int).tdiv 16 = ((k / 16 : Nat) : Int) := by rw [Int.tdiv_eq_ediv_of_nonneg (by omega)]; omega
  have e2 : (k : Int).tmod 16 = ((k % 16 : Nat) : Int) := by rw [Int.tmod_eq_emod_of_nonneg (by omega)]; omega
  obtain ⟨q, hq⟩ : ∃ q, k / 16 = q := ⟨_, rfl⟩
  obtain ⟨r, hr⟩ : ∃ r, k % 16 = r := ⟨_, rfl⟩
  rw [hq] at e1
  rw [hr] at e2
  have hqb : q < 16777217 := by omega
  have hr16 : r < 16 := by omega
  have q0 : (0 : Int) ≤ (q : Int) := by omega
  have r0 : ¬ ((r : Int) < 0) := by omega
  have HA := Lib.hid (And.intro r1 f1)
  have HQ := Lib.hid (And.intro hq hr)
  have hmk := fun w => run_make_ints w ((q : Int) + (n : Int) + 1) ((q : Int) + (n : Int) + 1) (by omega) (by omega) (by omega)
  have hN : ((q : Int) + (n : Int) + 1).toNat = q + n + 1 := by omega
  simp only [hN] at hmk
  clear r1 f1 t1 z1 hq hr hN
  go_enter Tryz.func66, Tryz.ntmps66
  go_upto_region 4 with fail
  obtain ⟨b, hb⟩ : ∃ b, b = w.heap.size := ⟨_, rfl⟩
  obtain ⟨W1, hW1⟩ : ∃ W, W = w.alloc (.cells (madeCells #[.int .i64 0] (q + n + 1)) 3) := ⟨_, rfl⟩
  have HF1 : Hid (Fill w W1 b 0 (q + n + 1) (fun _ => 0)) := by rw [hb, hW1]; exact Fill.made w _
  rw [← hb, ← hW1]
  clear hb hW1 hmk
  go_wp2_with fail
  go_loopg [6, 7, 21] n (fun gk s6 s7 s21 wc => ∃ (i : Nat) (Z : Nat → Int), s21 = .int .i64 (i : Int) ∧ i + gk = n ∧ Hid (Fill w wc b 0 (q + n + 1) Z ∧ ShlIn A q r i (q + n + 1) Z))
  case atStart => exact ⟨0, _, rfl, by omega, HF1.out, ⟨fun j hj => (show D16 0 from ⟨by omega, by omega⟩), Int.le_refl _, Int.pow_pos (by decide), fun j hj => rfl, by rw [vs_zeros (fun j hj => rfl)]; simp [vs]⟩⟩
  case round =>
    obtain ⟨i, Z, rfl, hik, H⟩ := hrel
    by_cases hi : i < n
    · have d1 : decide ((i : Int) < (n : Int)) = true := decide_eq_true (by omega)
      have d1' : decide (i < n) = true := decide_eq_true hi
      have i0 : (0 : Int) ≤ (i : Int) := by omega
      have i1 : (i : Int) < (n : Int) := by omega
      obtain ⟨ba, oa, rfl, hca⟩ := (HA.out.1.chg H.out.1.chg (fun _ _ _ _ _ h => h)).at hi
      have hax := HA.out.2 i hi
      obtain ⟨st, s0, y0, y1⟩ := H.out.2.step (by omega) hr16 hax
      obtain ⟨x, hx⟩ : ∃ x, A i = x := ⟨_, rfl⟩
      obtain ⟨z, hz⟩ : ∃ z, Z (q + i) = z := ⟨_, rfl⟩
      obtain ⟨y, hy⟩ : ∃ y, x * 2 ^ r = y := ⟨_, rfl⟩
      have hz0 := H.out.2.c0
      rw [hx] at hca st s0 y0 y1
      rw [hz] at st s0 hz0
      rw [hy] at st s0 y0 y1
      have hcz := H.out.1.ws (q + i) (by omega)
      rw [Nat.zero_add, hz] at hcz
      have hfz := (H.out.1.room (q + i) (by omega)).2
      rw [Nat.zero_add] at hfz
      have hcz2 := (H.out.1.ws (q + i + 1) (by omega))
      rw [Nat.zero_add] at hcz2
      have hfz2 := (H.out.1.room (q + i + 1) (by omega)).2
      rw [Nat.zero_add] at hfz2
      have ne1 : q + i ≠ q + i + 1 := by omega
      have ne2 : ¬ (q + i = q + i + 1) := by omega
      have HS := Lib.hid st
      have HY := Lib.hid (And.intro hx (And.intro hy hz))
      have e3 : y.tmod 65536 = y % 65536 := Int.tmod_eq_emod_of_nonneg y0
      have e4 : y.tdiv 65536 = y / 65536 := Int.tdiv_eq_ediv_of_nonneg y0
      have wy : wrap64 (x * 2 ^ r) = y := by rw [hy]; exact IntWalk.wrap64_in _ (by omega)
      have wy' : IntKind.i64.wrap (x * 2 ^ r) = y := by rw [hy]; exact IntWalk.i64_in _ (by omega)
      have qi0 : (0 : Int) ≤ (q : Int) + (i : Int) := by omega
      have qi1 : (q : Int) + (i : Int) < (q : Int) + (n : Int) + 1 := by omega
      have qi2 : (q : Int) + (i : Int) + 1 < (q : Int) + (n : Int) + 1 := by omega
      have qi3 : (0 : Int) ≤ (q : Int) + (i : Int) + 1 := by omega
      clear hx hy hz st hax
      go_wp2
      go_roundg (gk - 1)
      case measure => omega
      case rel =>
        have hp := (H.out.1.put (z + y % 65536) (i := q + i) (by omega)).put (y / 65536) (i := q + i + 1) (by omega)
        rw [Nat.zero_add, Nat.zero_add] at hp
        exact ⟨i + 1, _, by go_num, by omega, hp, HS.out⟩
    · have d1 : decide ((i : Int) < (n : Int)) = false := decide_eq_false (by omega)
      have d1' : decide (i < n) = false := decide_eq_false hi
      obtain rfl : i = n := by omega
      go_wp2_with fail
      refine (trim_any (some ⟨b, 0, none⟩) (q + i + 1) (q + i + 1) Z wr (Or.inr ⟨b, 0, rfl, H.out.1.ws⟩) (Nat.le_refl _) (by omega)).mono ?_
      rintro e w4 ⟨j, rfl, j1, j2, j3, rfl⟩
      have HJ := Lib.hid (And.intro j1 (And.intro j2 j3))
      clear j1 j2 j3
      go_wp2
      go_ret
      obtain ⟨j1, j2, j3⟩ := HJ.out
      obtain ⟨t1, t2⟩ := H.out
      refine ⟨some ⟨b, 0, none⟩, j, q + i + 1, rfl, ⟨j1, Or.inr ⟨b, 0, rfl, t1.pb, t1.room, by omega⟩, Z, Or.inr ⟨b, 0, rfl, t1.ws.le j1⟩, t2.df.le j1, j3, ?_⟩, t1.chg, Or.inr ⟨_, _, rfl, t1.fr⟩⟩
      rw [vs_trim j1 j2, t2.val, SB_pow]
      have hk2 : k = 16 * q + r := by have := HQ.out; omega
      rw [hk2, Int.pow_add]
      grind
set_option maxHeartbeats 4000000 in
theorem shl_any (a : Option Addr) (n c k : Nat) (V : Int) (w : World) (h : NatV w a n c V) (hn : n < 268435456) (hk : k < 268435456) :
    Calls Tryz.prog 66 #[.slice a n c, .int .i64 (k : Int)] w (NRes w (V * 2 ^ k)) := by
  by_cases hn0 : n = 0
  · have hV : V = 0 := by
      obtain ⟨_, _, A, _, _, _, hA⟩ := h
      rw [← hA, hn0]; rfl
    have H := Lib.hid h
    have d0 : ((n : Int) == 0) = true := by simp [hn0]
    clear h
    go_enter Tryz.func66, Tryz.ntmps66
    go_wp2
    go_ret
    exact ⟨a, n, c, rfl, by rw [hV, Int.zero_mul]; rw [hV] at H; exact H.out, Chg.refl _ _⟩
  · refine (shl_fresh a n c k V w h hn0 hn hk).mono ?_
    rintro e w' ⟨a, n, c, h1, h2, h3, _⟩
    exact ⟨a, n, c, h1, h2, h3⟩
theorem mod_succ (M S b : Int) (hS : 0 < S) (hb : 0 < b) : M % (S * b) = M % S + (M / S % b) * S := by
  have e1 := Int.emod_add_mul_ediv M (S * b)
  have e2 := Int.emod_add_mul_ediv M S
  have e3 := Int.emod_add_mul_ediv (M / S) b
  have e4 : M / (S * b) = M / S / b := (Int.ediv_ediv_of_nonneg (Int.le_of_lt hS)).symm
  rw [e4] at e1
  have e5 : S * (M / S) = S * (M / S % b) + S * b * (M / S / b) := by
    conv => lhs; rw [← e3]
    grind
  rw [Int.mul_comm (M / S % b)]
  omega
theorem shr_digit {A : Nat → Int} {n i r : Nat} (hA : DF A n) (hi : i < n) (hr : r < 16) : vs A n / 2 ^ (16 * i + r) % 65536 = (A i + 65536 * ext A n (i + 1)) / 2 ^ r % 65536 := by
  have h1 := vs_split A hi
  have b0 := vs_nonneg (hA.le (show i ≤ n by omega))
  have b1 := vs_lt (hA.le (show i ≤ n by omega))
  have hp : (0 : Int) < 2 ^ r := Int.pow_pos (by decide)
  have e : (65536 : Int) = 2 ^ r * 2 ^ (16 - r) := by rw [← Int.pow_add, show r + (16 - r) = 16 by omega]; decide
  obtain ⟨R, hR⟩ : ∃ R, vs (fun t => A (i + 1 + t)) (n - i - 1) = ext A n (i + 1) + SB * R := by
    by_cases h : i + 1 < n
    · obtain ⟨m, hm⟩ : ∃ m, n - i - 1 = 1 + m := ⟨n - i - 2, by omega⟩
      refine ⟨vs (fun t => A (i + 1 + (1 + t))) m, ?_⟩
      rw [hm, vs_add, vs_one, ext_lt h]
      simp only [Nat.add_zero, Int.pow_succ, Int.pow_zero, Int.one_mul]
    · refine ⟨0, ?_⟩
      rw [show n - i - 1 = 0 by omega, ext_ge h]
      rfl
  rw [h1, hR, Int.pow_add, ← SB_pow, add_mul_div b0 b1]
  have e2 : A i + SB * (ext A n (i + 1) + SB * R) = (A i + 65536 * ext A n (i + 1)) + 2 ^ r * (2 ^ (16 - r) * SB * R) := by
    have : SB = 2 ^ r * 2 ^ (16 - r) := e
    have e9 : SB * (SB * R) = 2 ^ r * (2 ^ (16 - r) * SB * R) := by
      conv => lhs; rw [this]
      rw [← this]
      grind
    have e10 : SB = 65536 := rfl
    rw [Int.mul_add, e9, e10]
    omega
  rw [e2, Int.add_mul_ediv_left _ _ (by omega)]
  have e3 : 2 ^ (16 - r) * SB * R = 65536 * (2 ^ (16 - r) * R) := by unfold SB; grind
  rw [e3, Int.add_mul_emod_self_left]
def ShrRel (w : World) (M : Int) (q n : Nat) (gk : Nat) (s5 s6 : Value) (wc : World) : Prop :=
  ∃ (i : Nat) (a : Option Addr) (j c : Nat) (X : Nat → Int), s5 = .slice a j c ∧ s6 = .int .i64 (i : Int) ∧ j < 268435457 ∧ i + gk = max q n ∧ Hid (i = q + j ∧ Out w wc a j c X ∧ DF X j ∧ vs X j = M % SB ^ j)
set_option maxHeartbeats 4000000 in
theorem shr_any (a : Option Addr) (n c k : Nat) (V : Int) (w : World) (h : NatV w a n c V) (hn : n < 268435456) (hk : k < 268435456) :
    Calls Tryz.prog 93 #[.slice a n c, .int .i64 (k : Int)] w (NRes w (V / 2 ^ k)) := by
  obtain ⟨l1, z1, A, r1, f1, t1, rfl⟩ := h
  have e1 : (k : Int).tdiv 16 = ((k / 16 : Nat) : Int) := by rw [Int.tdiv_eq_ediv_of_nonneg (by omega)]; omega
  have e2 : (k : Int).tmod 16 = ((k % 16 : Nat) : Int) := by rw [Int.tmod_eq_emod_of_nonneg (by omega)]; omega
  obtain ⟨q, hq⟩ : ∃ q, k / 16 = q := ⟨_, rfl⟩
  obtain ⟨r, hr⟩ : ∃ r, k % 16 = r := ⟨_, rfl⟩
  rw [hq] at e1
  rw [hr] at e2
  have hqb : q < 16777217 := by omega
  have hr16 : r < 16 := by omega
  have q0 : (0 : Int) ≤ (q : Int) := by omega
  have r0 : ¬ ((r : Int) < 0) := by omega
  have hk2 : k = 16 * q + r := by omega
  have HA := Lib.hid (And.intro r1 f1)
  have HK := Lib.hid hk2
  obtain ⟨M, hM⟩ : ∃ M, vs A n / 2 ^ k = M := ⟨_, rfl⟩
  have HM := Lib.hid hM
  rw [hM]
  clear r1 f1 t1 z1 hq hr hM hk2
  go_enter Tryz.func93, Tryz.ntmps93
  go_wp2_with fail
  go_loopg [5, 6, 7] (max q n - q) (fun gk s5 s6 s7 wc => ShrRel w M q n gk s5 s6 wc)
  case atStart => exact ⟨q, _, 0, 0, _, rfl, rfl, by omega, by omega, by omega, Out.empty w w (Chg.refl _ _) (Nat.le_refl _), fun i hi => by omega, by simp [vs, Int.emod_one]⟩
  case round =>
    obtain ⟨i, a', j, c', X, rfl, rfl, hij, hk3, H⟩ := hrel
    by_cases hi : i < n
    · have d1 : decide ((i : Int) < (n : Int)) = true := decide_eq_true (by omega)
      have d1' : decide (i < n) = true := decide_eq_true hi
      have i0 : (0 : Int) ≤ (i : Int) := by omega
      have i1 : (i : Int) < (n : Int) := by omega
      have HRA : Hid (Rd wr a n A) := HA.out.1.chg H.out.2.1.chg (fun _ _ _ _ _ h => h)
      obtain ⟨ba, oa, rfl, hca⟩ := HRA.out.at hi
      have hax := HA.out.2 i hi
      have hdg := shr_digit HA.out.2 hi hr16
      have hex := df_ext HA.out.2 (i + 1)
      obtain ⟨x, hx⟩ : ∃ x, A i = x := ⟨_, rfl⟩
      obtain ⟨y, hy⟩ : ∃ y, ext A n (i + 1) = y := ⟨_, rfl⟩
      rw [hx] at hca hax hdg
      rw [hy] at hdg hex
      obtain ⟨hx0, hx1⟩ := hax
      obtain ⟨hy0, hy1⟩ := hex
      have HD := Lib.hid hdg
      have HY := Lib.hid hy
      clear hx hy hdg
      go_upto_if 25 with fail
      go_cut [7] (fun s7 wc => s7 = .int .i64 (x + 65536 * y) ∧ wr = wc)
      case first => as_aux_lemma =>
        by_cases q1 : i + 1 < n
        · have d2 : decide ((i : Int) + 1 < (n : Int)) = true := decide_eq_true (by omega)
          have d2' : decide (i + 1 < n) = true := decide_eq_true q1
          try first | rw [d2] | rw [d2']
          obtain ⟨bb, ob, e9, hcb⟩ := HRA.out.at q1
          injection e9 with e9; injection e9 with e10 e11; subst e10; subst e11
          have hyy : A (i + 1) = y := (ext_lt (A := A) q1).symm.trans HY.out
          rw [hyy] at hcb
          have i2 : (i : Int) + 1 < (n : Int) := by omega
          have i3 : (0 : Int) ≤ (i : Int) + 1 := by omega
          clear hyy d2
          go_wp2
          go_meet
          exact ⟨rfl, rfl⟩
        · have d2 : decide ((i : Int) + 1 < (n : Int)) = false := decide_eq_false (by omega)
          have d2' : decide (i + 1 < n) = false := decide_eq_false q1
          try first | rw [d2] | rw [d2']
          have He : Hid (y = 0) := HY.out.symm.trans (ext_ge (A := A) q1)
          go_wp2
          go_meet
          exact ⟨by rw [He.out, Int.mul_zero, Int.add_zero], rfl⟩
      case rest => as_aux_lemma =>
        obtain ⟨rfl, rfl⟩ := hcut
        obtain ⟨u, hu⟩ : ∃ u, x + 65536 * y = u := ⟨_, rfl⟩
        rw [hu]
        have hu0 : 0 ≤ u := by omega
        have hu1 : u < 4294967296 := by omega
        have hp : (0 : Int) < 2 ^ r := Int.pow_pos (by decide)
        have hv0 : 0 ≤ u / 2 ^ r := Int.ediv_nonneg hu0 (Int.le_of_lt hp)
        have hv1 : u / 2 ^ r < 4294967296 := Int.lt_of_le_of_lt (Int.ediv_le_self _ hu0) hu1
        have HU := Lib.hid hu
        have HX := Lib.hid (H.out.2.1.one (u / 2 ^ r % 65536))
        have x3 := H.out.2.1.le
        have x4 : j < 1099511627776 := by omega
        have e3 : (u / 2 ^ r).tmod 65536 = u / 2 ^ r % 65536 := Int.tmod_eq_emod_of_nonneg hv0
        clear hu hp
        go_wp2_with (refine wpList_append_int rfl (.tmp 34) (.tmp 40) rfl a' j c' X _ _ rfl rfl HX.out.1 HX.out.2.1 x3 x4 HX.out.2.2 ?_; rintro a3 c3 w3 h3; have H3 := Lib.hid h3; clear h3)
        go_roundg (gk - 1)
        case measure => omega
        case rel =>
          obtain ⟨g0, g1, g2, g3⟩ := H.out
          refine ⟨i + 1, a3, j + 1, c3, _, rfl, by go_num, by omega, by omega, by omega, g1.snoc H3.out, df_upd g2 ⟨by omega, by omega⟩, ?_⟩
          rw [vs_upd, SB_succ, mod_succ _ _ _ (SBn_pos j) SB_pos, g3]
          congr 2
          have hd := HD.out
          rw [HU.out] at hd
          rw [← hd, ← HM.out, Int.ediv_ediv_of_nonneg (Int.le_of_lt (Int.pow_pos (by decide))), SB_pow, ← Int.pow_add]
          have hk2 := HK.out
          rw [show k + 16 * j = 16 * i + r by omega]
          rfl
    · have d1 : decide ((i : Int) < (n : Int)) = false := decide_eq_false (by omega)
      have d1' : decide (i < n) = false := decide_eq_false hi
      have HO := Lib.hid H.out.2.1
      go_wp2_with fail
      refine (trim_any a' j c' X wr HO.out.rd HO.out.le HO.out.z.cap).mono ?_
      rintro e w4 ⟨l, rfl, j1, j2, j3, rfl⟩
      have HJ := Lib.hid (And.intro j1 (And.intro j2 j3))
      clear j1 j2 j3
      go_wp2
      go_ret
      obtain ⟨j1, j2, j3⟩ := HJ.out
      obtain ⟨g0, g1, g2, g3⟩ := H.out
      refine ⟨a', l, c', rfl, ⟨by have := HO.out.le; omega, HO.out.z, _, HO.out.rd.le j1, g2.le j1, j3, ?_⟩, HO.out.chg⟩
      have b0 := vs_nonneg HA.out.2
      have b1 := vs_lt HA.out.2
      have hp : (0 : Int) < 2 ^ k := Int.pow_pos (by decide)
      have hM0 : 0 ≤ M := by rw [← HM.out]; exact Int.ediv_nonneg b0 (Int.le_of_lt hp)
      rw [vs_trim j1 j2, g3]
      refine Int.emod_eq_of_lt hM0 ?_
      rw [← HM.out, Int.ediv_lt_iff_lt_mul hp, SB_pow, ← Int.pow_add]
      rw [SB_pow] at b1
      have hk2 := HK.out
      exact Int.lt_of_lt_of_le b1 (ipow_le (by decide) (by omega))
theorem pow_lt_of' {x a b : Nat} (hx : 1 ≤ x) (h : (SB : Int) ^ a < SB ^ b) : a < b := by
  rcases Nat.lt_or_ge a b with h1 | h1
  · exact h1
  · have := SB_mono h1; omega
theorem NatV.len {w : World} {a : Option Addr} {n c k : Nat} {V : Int} (h : NatV w a n c V) (hV : V < SB ^ k) : n ≤ k := by
  obtain ⟨_, _, A, _, f1, t1, rfl⟩ := h
  rcases Nat.eq_zero_or_pos n with h0 | h0
  · omega
  · have h1 := vs_ge f1 t1 h0
    have := pow_lt_of' (Nat.le_refl 1) (show SB ^ (n - 1) < SB ^ k by omega)
    omega
theorem NatV.nonneg {w : World} {a : Option Addr} {n c : Nat} {V : Int} (h : NatV w a n c V) : 0 ≤ V := by
  obtain ⟨_, _, A, _, f1, _, rfl⟩ := h
  exact vs_nonneg f1
theorem NatV.zero {w : World} {a : Option Addr} {n c : Nat} {V : Int} (h : NatV w a n c V) : n = 0 ↔ V = 0 := by
  obtain ⟨_, _, A, _, f1, t1, rfl⟩ := h
  constructor
  · intro h0; rw [h0]; rfl
  · intro h0
    rcases Nat.eq_zero_or_pos n with h1 | h1
    · exact h1
    · have h2 := vs_ge f1 t1 h1
      have := SBn_pos (n - 1)
      omega
theorem pow_le_SB {b : Nat} (hb : b < 65536) (k : Nat) : ((b : Int)) ^ k ≤ SB ^ k := by
  induction k with
  | zero => simp
  | succ k ih =>
    rw [Int.pow_succ, Int.pow_succ]
    exact Int.mul_le_mul ih (by unfold SB; omega) (by omega) (Int.le_of_lt (SBn_pos k))
set_option maxHeartbeats 2000000 in
theorem power_any (b k : Nat) (w : World) (hb : b < 65536) (hk : k < 65536) : Calls Tryz.prog 26 #[.int .i64 (b : Int), .int .i64 (k : Int)] w (NRes w ((b : Int) ^ k)) := by
  have H1 := Lib.hid (small_any 1 w (by omega))
  go_enter Tryz.func26, Tryz.ntmps26
  go_wp2_with fail
  refine H1.out.mono ?_
  rintro e w1 ⟨a, n, c, rfl, h1, k1⟩
  have HN := Lib.hid (And.intro h1 k1)
  clear h1 k1
  go_wp2_with fail
  go_loopg [1, 5] k (fun gk s1 s5 wc => ∃ a n c, s1 = .int .i64 (gk : Int) ∧ s5 = .slice a n c ∧ gk ≤ k ∧ Hid (NatV wc a n c ((b : Int) ^ (k - gk)) ∧ Chg zNone w wc))
  case atStart => exact ⟨a, n, c, rfl, rfl, Nat.le_refl _, by rw [Nat.sub_self, Int.pow_zero]; exact HN.out.1, HN.out.2⟩
  case round =>
    obtain ⟨a, n, c, rfl, rfl, hg, H⟩ := hrel
    by_cases h0 : 0 < gk
    · have d1 : decide ((0 : Int) < (gk : Int)) = true := decide_eq_true (by omega)
      have d1' : decide (0 < gk) = true := decide_eq_true h0
      have HS := Lib.hid (small_any b wr (by omega))
      have hn : n ≤ k := by
        have hlt : (b : Int) ^ (k - gk) < SB ^ k := by
          refine Int.lt_of_le_of_lt (pow_le_SB hb _) ?_
          have h1 := SBn_pos (k - gk)
          have h2 : SB ^ (k - gk) * SB ^ gk = SB ^ k := by rw [← Int.pow_add]; congr 1; omega
          have h3 : (2 : Int) ≤ SB ^ gk := by
            have := SB_mono (show 1 ≤ gk by omega)
            rw [Int.pow_one] at this
            unfold SB at this ⊢
            omega
          have h4 := Int.mul_le_mul_of_nonneg_left h3 (Int.le_of_lt h1)
          omega
        exact H.out.1.len hlt
      go_wp2_with fail
      refine HS.out.mono ?_
      rintro e w2 ⟨a2, n2, c2, rfl, h2, k2⟩
      have hn2 : n2 ≤ 1 := h2.len (by rw [Int.pow_one]; unfold SB; omega)
      have HM := Lib.hid (mul_any a a2 n c n2 c2 _ _ w2 (H.out.1.far k2) h2 (by omega) (by omega))
      have HK := Lib.hid (H.out.2.trans k2 (fun _ _ _ h => h))
      clear h2 k2
      go_wp2_with fail
      refine HM.out.mono ?_
      rintro e w3 ⟨a3, n3, c3, rfl, h3, k3⟩
      have H3 := Lib.hid (And.intro h3 k3)
      clear h3 k3
      go_wp2
      go_roundg (gk - 1)
      case measure => omega
      case rel =>
        refine ⟨a3, n3, c3, by go_num, rfl, by omega, ?_, HK.out.trans H3.out.2 (fun _ _ _ h => h)⟩
        rw [show k - (gk - 1) = (k - gk) + 1 by omega, Int.pow_succ]
        exact H3.out.1
    · have d1 : decide ((0 : Int) < (gk : Int)) = false := decide_eq_false (by omega)
      have d1' : decide (0 < gk) = false := decide_eq_false h0
      obtain rfl : gk = 0 := by omega
      go_wp2_with fail
      refine bodyPost_ret (v := .slice a n c) (by simp [results, Tryz.results26, go_sem]) rfl ?_
      exact ⟨a, n, c, rfl, by rw [← Nat.sub_zero k]; exact H.out.1, H.out.2⟩
theorem low_bit {V : Int} {t s : Nat} (h : LowZ V t) (hs : s ≤ t) : V / 2 ^ s % 2 = if s = t then 1 else 0 := by
  obtain ⟨q, hq⟩ := h
  obtain ⟨d, rfl⟩ : ∃ d, t = s + d := ⟨t - s, by omega⟩
  have hp : (0 : Int) < 2 ^ s := Int.pow_pos (by decide)
  rw [hq, Int.pow_add, Int.mul_assoc, Int.mul_ediv_cancel_left _ (by omega)]
  cases d with
  | zero => rw [if_pos (by omega)]; simp
  | succ d =>
    rw [if_neg (by omega), Int.pow_succ, Int.mul_comm (2 ^ d), Int.mul_assoc]
    exact Int.mul_emod_right _ _
set_option maxHeartbeats 2000000 in
theorem odd_any (a : Option Addr) (n c t : Nat) (V : Int) (w : World) (h : NatV w a n c V) (hn : n < 16777216) (ht : LowZ V t) (htb : t < 268435456) :
    Calls Tryz.prog 48 #[.slice a n c] w fun e w' => ∃ b m d, e = .returned (.tuple #[.slice b m d, .int .i64 (t : Int)]) ∧ NatV w' b m d (V / 2 ^ t) ∧ Chg zNone w w' := by
  have H := Lib.hid (And.intro h ht)
  have HR := Lib.hid (shr_any a n c t V w h (by omega) htb)
  clear h ht
  go_enter Tryz.func48, Tryz.ntmps48
  go_wp2_with fail
  go_loopg [4] t (fun gk s4 wc => ∃ s : Nat, s4 = .int .i64 (s : Int) ∧ s + gk = t ∧ w = wc)
  case atStart => exact ⟨0, rfl, by omega, rfl⟩
  case round =>
    obtain ⟨s, rfl, hs, rfl⟩ := hrel
    have HH := Lib.hid (has_any a n c s V w H.out.1 (by omega) (by omega))
    by_cases h0 : s = t
    · have hb : decide (V / 2 ^ s % 2 = 1) = true := decide_eq_true (by rw [low_bit H.out.2 (by omega), if_pos h0])
      rw [hb] at HH
      clear hb
      subst h0
      go_wp2_with fail
      refine HH.out.mono ?_
      rintro e w1 ⟨rfl, rfl⟩
      go_wp2_with fail
      refine HR.out.mono ?_
      rintro e w2 ⟨b, m, d, rfl, g1, g2⟩
      have HG := Lib.hid (And.intro g1 g2)
      clear g1 g2
      go_wp2
      go_ret2
      exact ⟨b, m, d, rfl, HG.out.1, HG.out.2⟩
    · have hb : decide (V / 2 ^ s % 2 = 1) = false := decide_eq_false (by rw [low_bit H.out.2 (by omega), if_neg h0]; decide)
      rw [hb] at HH
      clear hb
      go_wp2_with fail
      refine HH.out.mono ?_
      rintro e w1 ⟨rfl, rfl⟩
      go_wp2
      go_roundg (gk - 1)
      case measure => omega
      case rel => exact ⟨s + 1, by go_num, by omega, by first | rfl | trivial⟩
set_option maxHeartbeats 2000000 in
theorem split_any (a : Option Addr) (n c k : Nat) (V : Int) (w : World) (h : NatV w a n c V) (hn : n < 16777216) (hk0 : 1 ≤ k) (hk : k < 16777216) :
    Calls Tryz.prog 179 #[.slice a n c, .int .i64 (k : Int)] w fun e w' => ∃ b m d, e = .returned (.tuple #[.slice b m d, .int .i64 (lftS (V % 2 ^ k) (2 ^ (k - 1)) false)]) ∧ NatV w' b m d (V / 2 ^ k) ∧ Chg zNone w w' := by
  have hV0 := h.nonneg
  have hp : (0 : Int) < 2 ^ k := Int.pow_pos (by decide)
  have hVb : V < SB ^ n := by
    obtain ⟨_, _, A, _, f1, _, rfl⟩ := h
    exact vs_lt f1
  have HR := Lib.hid (shr_any a n c k V w h (by omega) (by omega))
  have H := Lib.hid (And.intro h (And.intro hV0 (And.intro hVb hp)))
  clear h hV0 hp hVb
  go_enter Tryz.func179, Tryz.ntmps179
  go_wp2_with fail
  refine HR.out.mono ?_
  rintro e w1 ⟨b, m, d, rfl, g1, g2⟩
  have hq : V / 2 ^ k ≤ V := Int.ediv_le_self _ H.out.2.1
  have hm : m ≤ n := g1.len (Int.lt_of_le_of_lt hq H.out.2.2.1)
  have HS := Lib.hid (shl_any b m d k _ w1 g1 (by omega) (by omega))
  have H1 := Lib.hid (And.intro g1 g2)
  clear g1 g2 hq
  go_wp2_with fail
  refine HS.out.mono ?_
  rintro e w2 ⟨b2, m2, d2, rfl, g1, g2⟩
  have he := Int.emod_add_mul_ediv V (2 ^ k)
  rw [Int.mul_comm (2 ^ k)] at he
  have hr0 := Int.emod_nonneg V (show (2 : Int) ^ k ≠ 0 by have := H.out.2.2.2; omega)
  have hr1 := Int.emod_lt_of_pos V H.out.2.2.2
  have hle : V / 2 ^ k * 2 ^ k ≤ V := by omega
  have hm2 : m2 ≤ n := g1.len (Int.lt_of_le_of_lt hle H.out.2.2.1)
  have HB := Lib.hid (sub_any a b2 n c m2 d2 V _ w2 (H.out.1.far (H1.out.2.trans g2 (fun _ _ _ h => h))) g1 hle (by omega) (by omega))
  have K12 := Lib.hid g2
  rw [show V - V / 2 ^ k * 2 ^ k = V % 2 ^ k by omega] at HB
  clear g1 g2 he hle
  go_wp2_with fail
  refine HB.out.mono ?_
  rintro e w3 ⟨b3, m3, d3, rfl, g1, g2⟩
  have hz := g1.zero
  have hrV : V % 2 ^ k ≤ V := by
    have h1 := Int.emod_add_mul_ediv V (2 ^ k)
    have h2 := Int.mul_nonneg (Int.le_of_lt H.out.2.2.2) (Int.ediv_nonneg H.out.2.1 (Int.le_of_lt H.out.2.2.2))
    omega
  have hm3 : m3 ≤ n := g1.len (Int.lt_of_le_of_lt hrV H.out.2.2.1)
  have HQ := Lib.hid (And.intro (H1.out.1.far (K12.out.trans g2 (fun _ _ _ h => h))) ((H1.out.2.trans K12.out (fun _ _ _ h => h)).trans g2 (fun _ _ _ h => h)))
  have H3 := Lib.hid g1
  have HZ := Lib.hid hz
  have HR01 := Lib.hid (And.intro hr0 hr1)
  clear g1 g2 hz hrV hr0 hr1
  by_cases h0 : m3 = 0
  · have d1 : ((m3 : Int) == 0) = true := by simp [h0]
    have hr := HZ.out.1 h0
    have HL : Hid (lftS (V % 2 ^ k) (2 ^ (k - 1)) false = 0) := by unfold Hid lftS; rw [if_pos ⟨hr, rfl⟩]
    clear h0 hr
    go_wp2
    go_ret2
    exact ⟨b, m, d, by rw [HL.out]; rfl, HQ.out.1, HQ.out.2⟩
  · have d1 : ((m3 : Int) == 0) = false := by simp [h0]
    have HRN := Lib.hid (fun h => h0 (HZ.out.2 h))
    have HAd := Lib.hid (add_any b3 b3 m3 d3 m3 d3 _ _ w3 H3.out H3.out (by omega) (by omega))
    clear h0
    go_wp2_with fail
    refine HAd.out.mono ?_
    rintro e w4 ⟨b4, m4, d4, rfl, g1, g2⟩
    have hm4 : m4 ≤ n + 1 := g1.len (by
      have h1 := HR01.out.2
      have h2 := H.out.2.2.1
      have h3 : V % 2 ^ k < SB ^ n := by
        have h4 := Int.emod_add_mul_ediv V (2 ^ k)
        have h5 := Int.mul_nonneg (Int.le_of_lt H.out.2.2.2) (Int.ediv_nonneg H.out.2.1 (Int.le_of_lt H.out.2.2.2))
        omega
      rw [SB_succ]
      have h6 := SBn_pos n
      have h7 : SB ^ n * SB = 65536 * SB ^ n := by unfold SB; rw [Int.mul_comm]
      omega)
    have HBt := Lib.hid (bit_any k w4 (by omega))
    have H4 := Lib.hid (And.intro g1 g2)
    clear g1 g2
    go_wp2_with fail
    refine HBt.out.mono ?_
    rintro e w5 ⟨b5, m5, d5, rfl, g1, g2⟩
    have hm5 : m5 ≤ k := g1.len (by
      rw [SB_pow]
      have h1 : (2 : Int) ^ k * 2 ≤ 2 ^ (16 * k) := by
        rw [← Int.pow_succ]
        exact ipow_le (by decide) (by omega)
      have := H.out.2.2.2
      omega)
    have HC := Lib.hid (cmp_any b4 b5 m4 d4 m5 d5 _ _ w5 (H4.out.1.far g2) g1 (by omega) (by omega))
    have H5 := Lib.hid (And.intro (HQ.out.1.far (H4.out.2.trans g2 (fun _ _ _ h => h))) ((HQ.out.2.trans H4.out.2 (fun _ _ _ h => h)).trans g2 (fun _ _ _ h => h)))
    clear g1 g2
    obtain ⟨cv, hcv⟩ : ∃ cv, cmpV (V % 2 ^ k + V % 2 ^ k) (2 ^ k) = cv := ⟨_, rfl⟩
    rw [hcv] at HC
    have hcb : -1 ≤ cv ∧ cv ≤ 1 := by
      rw [← hcv]; unfold cmpV
      split
      · omega
      · split <;> omega
    have HL : Hid (lftS (V % 2 ^ k) (2 ^ (k - 1)) false = 2 + cv) := by
      have e1 : (2 : Int) ^ k = 2 * 2 ^ (k - 1) := by
        obtain ⟨l, rfl⟩ : ∃ l, k = l + 1 := ⟨k - 1, by omega⟩
        rw [Int.pow_succ, Nat.add_sub_cancel, Int.mul_comm]
      have e2 := HRN.out
      rw [← hcv]
      unfold Hid lftS cmpV
      rw [if_neg (fun h => e2 h.1)]
      generalize V % 2 ^ k = R at *
      generalize (2 : Int) ^ (k - 1) = P at *
      rw [e1]
      by_cases c1 : R < P
      · rw [if_pos c1, if_pos (by omega)]; omega
      · rw [if_neg c1]
        by_cases c2 : R = P
        · rw [if_pos ⟨c2, rfl⟩, if_neg (by omega), if_neg (by omega)]; omega
        · rw [if_neg (fun h => c2 h.1), if_neg (by omega), if_pos (by omega)]; omega
    clear hcv
    go_wp2_with fail
    refine HC.out.mono ?_
    rintro e w6 ⟨rfl, N, rfl⟩
    go_wp2
    go_ret2
    have kN : Chg zNone w5 (w5.drewN N) := (Chg.refl _ _).drewN N
    exact ⟨b, m, d, by rw [HL.out]; rfl, H5.out.1.far kN, H5.out.2.trans kN (fun _ _ _ h => h)⟩
set_option maxHeartbeats 8000000 in
theorem away_any (neg odd : Bool) (l md : Int) (w : World) (hl : l = 0 ∨ l = 1 ∨ l = 2 ∨ l = 3) (hmd : 0 ≤ md ∧ md ≤ 5) :
    Calls Tryz.prog 180 #[.bool neg, .bool odd, .int .i64 l, .int .i64 md] w fun e w' => e = .returned (.bool (incS neg odd l md)) ∧ w = w' := by
  obtain rfl | rfl | rfl | rfl | rfl | rfl : md = 0 ∨ md = 1 ∨ md = 2 ∨ md = 3 ∨ md = 4 ∨ md = 5 := by omega
  all_goals
    rcases hl with rfl | rfl | rfl | rfl
    all_goals
      cases neg <;> cases odd
      all_goals
        go_enter Tryz.func180, Tryz.ntmps180
        go_wp2
        go_ret
        exact ⟨rfl, rfl⟩
theorem lftS_cases {r H : Int} {sb : Bool} : lftS r H sb = 0 ∨ lftS r H sb = 1 ∨ lftS r H sb = 2 ∨ lftS r H sb = 3 := by
  unfold lftS
  split
  · omega
  · split
    · omega
    · split <;> omega
def cutQ (neg : Bool) (V : Int) (k : Nat) (md : Int) : Int := V / 2 ^ k + if incS neg (V / 2 ^ k % 2 == 1) (lftS (V % 2 ^ k) (2 ^ (k - 1)) false) md then 1 else 0
def cutA (neg : Bool) (V : Int) (k : Nat) (md : Int) : Int := accS neg (incS neg (V / 2 ^ k % 2 == 1) (lftS (V % 2 ^ k) (2 ^ (k - 1)) false) md) (lftS (V % 2 ^ k) (2 ^ (k - 1)) false)
set_option maxHeartbeats 4000000 in
theorem cut_any (neg : Bool) (a : Option Addr) (n c k : Nat) (V md : Int) (w : World) (h : NatV w a n c V) (hn : n < 1048576) (hk0 : 1 ≤ k) (hk : k < 16777216) (hmd : 0 ≤ md ∧ md ≤ 5) :
    Calls Tryz.prog 123 #[.bool neg, .slice a n c, .int .i64 (k : Int), .int .i64 md] w fun e w' => ∃ b m d, e = .returned (.tuple #[.slice b m d, .int .i64 (cutA neg V k md)]) ∧ NatV w' b m d (cutQ neg V k md) ∧ Chg zNone w w' := by
  have HS := Lib.hid (split_any a n c k V w h (by omega) hk0 hk)
  have hVb : V < SB ^ n := by
    obtain ⟨_, _, A, _, f1, _, rfl⟩ := h
    exact vs_lt f1
  have hq : V / 2 ^ k ≤ V := Int.ediv_le_self _ h.nonneg
  have HQ := Lib.hid (And.intro hVb hq)
  have d0 : decide ((k : Int) ≤ 0) = false := decide_eq_false (by omega)
  obtain ⟨l, hl⟩ : ∃ l, lftS (V % 2 ^ k) (2 ^ (k - 1)) false = l := ⟨_, rfl⟩
  have hlc := lftS_cases (r := V % 2 ^ k) (H := 2 ^ (k - 1)) (sb := false)
  rw [hl] at HS hlc
  have HL := Lib.hid hl
  clear h hl hVb hq
  go_enter Tryz.func123, Tryz.ntmps123
  go_wp2_with fail
  refine HS.out.mono ?_
  rintro e w1 ⟨b, m, d, rfl, g1, g2⟩
  have hm : m ≤ n := g1.len (Int.lt_of_le_of_lt HQ.out.2 HQ.out.1)
  have H1 := Lib.hid (And.intro g1 g2)
  have HH := Lib.hid (has_any b m d 0 _ w1 g1 (by omega) (by omega))
  clear g1 g2
  by_cases h0 : l = 0
  · have d1 : (l == 0) = true := by simp [h0]
    have H0 := Lib.hid h0
    clear h0
    go_wp2
    go_ret2
    refine ⟨b, m, d, ?_, ?_, H1.out.2⟩
    · unfold cutA accS
      rw [HL.out, if_pos H0.out]
      rfl
    · unfold cutQ
      rw [HL.out, H0.out, show incS neg (V / 2 ^ k % 2 == 1) 0 md = false from incS_zero _ _ _]
      simpa using H1.out.1
  · have d1 : (l == 0) = false := by simp [h0]
    have HLN := Lib.hid h0
    have hbit : decide (V / 2 ^ k / 2 ^ 0 % 2 = 1) = (V / 2 ^ k % 2 == 1) := by rw [Int.pow_zero, Int.ediv_one]; rfl
    rw [hbit] at HH
    obtain ⟨od, hod⟩ : ∃ od, (V / 2 ^ k % 2 == 1) = od := ⟨_, rfl⟩
    rw [hod] at HH
    have HOD := Lib.hid hod
    have HAw := Lib.hid (away_any neg od l md w1 hlc hmd)
    obtain ⟨ic, hic⟩ : ∃ ic, incS neg od l md = ic := ⟨_, rfl⟩
    rw [hic] at HAw
    have HIC := Lib.hid hic
    clear h0 hbit hod hic
    go_wp2_with fail
    refine HH.out.mono ?_
    rintro e w2 ⟨rfl, rfl⟩
    go_wp2_with fail
    refine HAw.out.mono ?_
    rintro e w2 ⟨rfl, rfl⟩
    cases ic with
    | true =>
      have HS1 := Lib.hid (small_any 1 w1 (by omega))
      go_wp2_with fail
      refine HS1.out.mono ?_
      rintro e w2 ⟨b2, m2, d2, rfl, g1, g2⟩
      have hm2 : m2 ≤ 1 := g1.len (by rw [Int.pow_one]; decide)
      have HAd := Lib.hid (add_any b b2 m d m2 d2 _ _ w2 (H1.out.1.far g2) g1 (by omega) (by omega))
      have H2 := Lib.hid (H1.out.2.trans g2 (fun _ _ _ h => h))
      clear g1 g2
      go_wp2_with fail
      refine HAd.out.mono ?_
      rintro e w3 ⟨b3, m3, d3, rfl, g1, g2⟩
      have H3 := Lib.hid (And.intro g1 (H2.out.trans g2 (fun _ _ _ h => h)))
      clear g1 g2
      cases neg with
      | true =>
        go_wp2
        go_ret2
        refine ⟨b3, m3, d3, ?_, ?_, H3.out.2⟩
        · unfold cutA accS
          rw [HL.out, HOD.out, HIC.out, if_neg HLN.out]
          rfl
        · unfold cutQ
          rw [HL.out, HOD.out, HIC.out]
          exact H3.out.1
      | false =>
        go_wp2
        go_ret2
        refine ⟨b3, m3, d3, ?_, ?_, H3.out.2⟩
        · unfold cutA accS
          rw [HL.out, HOD.out, HIC.out, if_neg HLN.out]
          rfl
        · unfold cutQ
          rw [HL.out, HOD.out, HIC.out]
          exact H3.out.1
    | false =>
      cases neg with
      | true =>
        go_wp2
        go_ret2
        refine ⟨b, m, d, ?_, ?_, H1.out.2⟩
        · unfold cutA accS
          rw [HL.out, HOD.out, HIC.out, if_neg HLN.out]
          rfl
        · unfold cutQ
          rw [HL.out, HOD.out, HIC.out]
          simpa using H1.out.1
      | false =>
        go_wp2
        go_ret2
        refine ⟨b, m, d, ?_, ?_, H1.out.2⟩
        · unfold cutA accS
          rw [HL.out, HOD.out, HIC.out, if_neg HLN.out]
          rfl
        · unfold cutQ
          rw [HL.out, HOD.out, HIC.out]
          simpa using H1.out.1
def hi (A : Nat → Int) (n k : Nat) : Int := vs (fun t => A (k + t)) (n - k)
theorem hi_zero (A : Nat → Int) (n : Nat) : hi A n 0 = vs A n := by unfold hi; rw [Nat.sub_zero]; exact vs_congr (fun i _ => by rw [Nat.zero_add])
theorem hi_top (A : Nat → Int) (n : Nat) : hi A n n = 0 := by unfold hi; rw [Nat.sub_self]; rfl
theorem hi_step {A : Nat → Int} {n k : Nat} (hk : k < n) : hi A n k = A k + SB * hi A n (k + 1) := by
  unfold hi
  obtain ⟨m, hm⟩ : ∃ m, n - k = 1 + m := ⟨n - k - 1, by omega⟩
  rw [hm, vs_add, vs_one, show n - (k + 1) = m by omega, Nat.add_zero, Int.pow_succ, Int.pow_zero, Int.one_mul]
  congr 2
  exact vs_congr (fun i _ => by congr 1; omega)
theorem hi_put {Z : Nat → Int} {n k : Nat} {v : Int} : hi (upd Z k v) n (k + 1) = hi Z n (k + 1) := by
  unfold hi
  exact vs_congr (fun i _ => upd_other Z v (by omega))
set_option maxHeartbeats 4000000 in
theorem byDigit_any (a : Option Addr) (n c : Nat) (V d : Int) (w : World) (h : NatV w a n c V) (hn : n < 16777216) (hd0 : 1 ≤ d) (hd1 : d ≤ 65535) :
    Calls Tryz.prog 53 #[.slice a n c, .int .i64 d] w fun e w' => ∃ b m c', e = .returned (.tuple #[.slice b m c', .int .i64 (V % d)]) ∧ NatV w' b m c' (V / d) ∧ Chg zNone w w' := by
  obtain ⟨l1, z1, A, r1, f1, t1, rfl⟩ := h
  have HA := Lib.hid (And.intro r1 f1)
  have hmk := fun w => run_make_ints w (n : Int) (n : Int) (by omega) (by omega) (by omega)
  have hN : (n : Int).toNat = n := by omega
  simp only [hN] at hmk
  have hdne : ¬ d = 0 := by omega
  have hdb : (d == 0) = false := by simp; omega
  clear r1 f1 t1 z1 hN
  go_enter Tryz.func53, Tryz.ntmps53
  go_upto_region 2 with fail
  obtain ⟨b, hb⟩ : ∃ b, b = w.heap.size := ⟨_, rfl⟩
  obtain ⟨W1, hW1⟩ : ∃ W, W = w.alloc (.cells (madeCells #[.int .i64 0] n) 3) := ⟨_, rfl⟩
  have HF1 : Hid (Fill w W1 b 0 n (fun _ => 0)) := by rw [hb, hW1]; exact Fill.made w _
  rw [← hb, ← hW1]
  clear hb hW1 hmk
  go_wp2_with fail
  go_loopg [7, 8] n (fun gk s7 s8 wc => ∃ (r : Int) (Z : Nat → Int), s7 = .int .i64 r ∧ s8 = .int .i64 ((gk : Int) - 1) ∧ gk ≤ n ∧ 0 ≤ r ∧ r < d ∧ Hid (Fill w wc b 0 n Z ∧ DF Z n ∧ r = hi A n gk % d ∧ hi Z n gk = hi A n gk / d))
  case atStart => exact ⟨0, _, rfl, rfl, Nat.le_refl _, by omega, by omega, HF1.out, fun j hj => (show D16 0 from ⟨by omega, by omega⟩), by rw [hi_top]; simp, by rw [hi_top, hi_top]; simp⟩
  case round =>
    obtain ⟨r, Z, rfl, rfl, hg, hr0, hr1, H⟩ := hrel
    by_cases h0 : gk = 0
    · obtain rfl : gk = 0 := h0
      go_wp2_with fail
      refine (trim_any (some ⟨b, 0, none⟩) n n Z wr (Or.inr ⟨b, 0, rfl, H.out.1.ws⟩) (Nat.le_refl _) (by omega)).mono ?_
      rintro e w4 ⟨j, rfl, j1, j2, j3, rfl⟩
      have HJ := Lib.hid (And.intro j1 (And.intro j2 j3))
      clear j1 j2 j3
      go_wp2
      go_ret2
      obtain ⟨j1, j2, j3⟩ := HJ.out
      obtain ⟨t1, t2, t3, t4⟩ := H.out
      rw [hi_zero] at t3 t4
      rw [hi_zero] at t4
      refine ⟨some ⟨b, 0, none⟩, j, n, by rw [← t3]; rfl, ⟨j1, Or.inr ⟨b, 0, rfl, t1.pb, t1.room, by omega⟩, Z, Or.inr ⟨b, 0, rfl, t1.ws.le j1⟩, t2.le j1, j3, ?_⟩, t1.chg⟩
      rw [vs_trim j1 j2, t4]
    · have d1 : decide ((0 : Int) ≤ (gk : Int) - 1) = true := decide_eq_true (by omega)
      have g0 : (0 : Int) ≤ (gk : Int) - 1 := by omega
      have g1 : (gk : Int) - 1 < (n : Int) := by omega
      obtain ⟨ba, oa, rfl, hca⟩ := (HA.out.1.chg H.out.1.chg (fun _ _ _ _ _ h => h)).at (show gk - 1 < n by omega)
      have hax := HA.out.2 (gk - 1) (by omega)
      obtain ⟨x, hx⟩ : ∃ x, A (gk - 1) = x := ⟨_, rfl⟩
      rw [hx] at hca hax
      obtain ⟨hx0, hx1⟩ := hax
      have HX := Lib.hid hx
      have hcz := H.out.1.ws (gk - 1) (by omega)
      rw [Nat.zero_add] at hcz
      have hfz := (H.out.1.room (gk - 1) (by omega)).2
      rw [Nat.zero_add] at hfz
      obtain ⟨u, hu⟩ : ∃ u, r * 65536 + x = u := ⟨_, rfl⟩
      have hu0 : 0 ≤ u := by omega
      have hu1 : u < 4294967296 := by omega
      have HU := Lib.hid hu
      have e3 : u.tdiv d = u / d := Int.tdiv_eq_ediv_of_nonneg hu0
      have e4 : u.tmod d = u % d := Int.tmod_eq_emod_of_nonneg hu0
      have hud0 : 0 ≤ u / d := Int.ediv_nonneg hu0 (by omega)
      have hud1 : u / d < 65536 := by
        rw [Int.ediv_lt_iff_lt_mul (by omega), ← hu]
        have : r * 65536 ≤ (d - 1) * 65536 := by omega
        omega
      have hum0 := Int.emod_nonneg u (show d ≠ 0 by omega)
      have hum1 := Int.emod_lt_of_pos u (show 0 < d by omega)
      clear hx
      have HB := Lib.hid (And.intro hud0 (And.intro hud1 (And.intro hum0 hum1)))
      have wud : wrap64 (u / d) = u / d := IntWalk.wrap64_in _ (by omega)
      clear hud0 hud1 hum0 hum1
      go_wp2
      go_roundg (gk - 1)
      case measure => omega
      case rel =>
        have hp := H.out.1.put (u / d) (i := gk - 1) (by omega)
        rw [Nat.zero_add] at hp
        obtain ⟨b0, b1, b2, b3⟩ := HB.out
        obtain ⟨t1, t2, t3, t4⟩ := H.out
        obtain ⟨g, hgk⟩ : ∃ g, gk = g + 1 := ⟨gk - 1, by omega⟩
        have hA := hi_step (A := A) (show gk - 1 < n by omega)
        have hZ := hi_step (A := upd Z (gk - 1) (u / d)) (show gk - 1 < n by omega)
        rw [show gk - 1 + 1 = gk by omega] at hA hZ
        rw [upd_same] at hZ
        have hZ2 : hi (upd Z (gk - 1) (u / d)) n gk = hi Z n gk := by
          have := hi_put (Z := Z) (n := n) (k := gk - 1) (v := u / d)
          rwa [show gk - 1 + 1 = gk by omega] at this
        rw [hZ2, t4] at hZ
        rw [HX.out] at hA
        have hdec : hi A n (gk - 1) = u + d * (SB * (hi A n gk / d)) := by
          have e5 := Int.emod_add_mul_ediv (hi A n gk) d
          rw [← t3] at e5
          rw [hA, ← HU.out, ← e5]
          have e6 : (r + d * (hi A n gk / d)) / d = hi A n gk / d := by
            rw [e5]
          rw [e6]
          unfold SB
          grind
        refine ⟨u % d, _, rfl, by go_num, by omega, b2, b3, hp, df_put t2 ⟨b0, b1⟩, ?_, ?_⟩
        · rw [hdec, Int.add_mul_emod_self_left]
        · rw [hZ, hdec, Int.add_mul_ediv_left _ _ (by omega)]
end Go.Proofs.YtmgfajamanakcaaGreatDoor.Si
