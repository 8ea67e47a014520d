/- Part of the proof of FnParse: what the functions that it reaches do, as contracts. Conditions: those that each theorem names. -/
import Derived.Test.YtmgfajamanakcaaGreatDoorT33
import Derived.Test.YtmgfajamanakcaaGreatDoorT16
import Derived.Test.YtmgfajamanakcaaGreatDoorT12
namespace Go.Proofs.YtmgfajamanakcaaGreatDoor.Si
set_option linter.unusedVariables false
set_option linter.unusedSimpArgs false
open Go Go.RowKit
set_option maxRecDepth 100000
set_option maxHeartbeats 2000000 in
theorem bit_any (i : Nat) (w : World) (hi : i < 1073741824) : Calls Tryz.prog 98 #[.int .i64 (i : Int)] w (NRes w (2 ^ i)) := by
  have e1 : (i : Int).tdiv 16 = ((i / 16 : Nat) : Int) := by rw [Int.tdiv_eq_ediv_of_nonneg (by omega)]; omega
  have e2 : (i : Int).tmod 16 = ((i % 16 : Nat) : Int) := by rw [Int.tmod_eq_emod_of_nonneg (by omega)]; omega
  obtain ⟨j, hj⟩ : ∃ j, i / 16 = j := ⟨_, rfl⟩
  obtain ⟨r, hr⟩ : ∃ r, i % 16 = r := ⟨_, rfl⟩
  rw [hj] at e1
  rw [hr] at e2
  have hmk := fun w => run_make_ints w ((j : Int) + 1) ((j : Int) + 1) (by omega) (by omega) (by omega)
  have hN : ((j : Int) + 1).toNat = j + 1 := by omega
  simp only [hN] at hmk
  have j0 : (0 : Int) ≤ (j : Int) := by omega
  have j1 : (j : Int) < (j : Int) + 1 := by omega
  have r0 : ¬ ((r : Int) < 0) := by omega
  have hr16 : r < 16 := by omega
  have hjb : j < 67108865 := by omega
  have H := Lib.hid (And.intro hj hr)
  have p1 : (2 : Int) ^ r ≤ 32768 := by
    have := ipow_le (b := 2) (by decide) (show r ≤ 15 by omega)
    exact this
  have p0 : (0 : Int) < 2 ^ r := Int.pow_pos (by decide)
  have wp : wrap64 (2 ^ r) = 2 ^ r := IntWalk.wrap64_in _ (by omega)
  have wp' : IntKind.i64.wrap (2 ^ r) = 2 ^ r := IntWalk.i64_in _ (by omega)
  have HP := Lib.hid (And.intro p0 p1)
  clear hj hr p0 p1 hN
  go_enter Tryz.func98, Tryz.ntmps98
  go_upto_region 2 with fail
  obtain ⟨b, hb⟩ : ∃ b, b = w.heap.size := ⟨_, rfl⟩
  obtain ⟨W1, hW1⟩ : ∃ W, W = w.alloc (.cells (madeCells #[.int .i64 0] (j + 1)) 3) := ⟨_, rfl⟩
  have hF : Fill w W1 b 0 (j + 1) (fun _ => 0) := by rw [hb, hW1]; exact Fill.made w _
  rw [← hb, ← hW1]
  clear hb hW1 hmk
  have hcz := hF.ws j (by omega)
  rw [Nat.zero_add] at hcz
  have hfz := (hF.room j (by omega)).2
  rw [Nat.zero_add] at hfz
  have HF := Lib.hid hF
  clear hF
  go_wp2
  go_ret
  obtain ⟨p0, p1⟩ := HP.out
  have hp := HF.out.put (2 ^ r) (i := j) (by omega)
  rw [Nat.zero_add] at hp
  refine ⟨_, j + 1, j + 1, rfl, ⟨Nat.le_refl _, Or.inr ⟨_, 0, rfl, hp.pb, hp.room, by omega⟩, _, Or.inr ⟨_, 0, rfl, hp.ws⟩, df_put (fun j hj => (show D16 0 from ⟨by omega, by omega⟩)) ⟨by omega, by omega⟩, Or.inr ?_, ?_⟩, hp.chg⟩
  · rw [Nat.add_sub_cancel, upd_same]; omega
  · rw [vs_upd, vs_zeros (fun j hj => rfl), Int.zero_add, SB_pow, ← Int.pow_add]
    congr 1
    have := H.out
    omega
set_option maxHeartbeats 2000000 in
theorem len_any (a : Option Addr) (n c : Nat) (V : Int) (w : World) (h : NatV w a n c V) (hn : n < 1073741824) :
    Calls Tryz.prog 40 #[.slice a n c] w fun e w' => ∃ L : Nat, e = .returned (.int .i64 (L : Int)) ∧ L ≤ 16 * n ∧ ((V = 0 ∧ L = 0) ∨ (1 ≤ L ∧ 2 ^ (L - 1) ≤ V ∧ V < 2 ^ L)) ∧ w = w' := by
  obtain ⟨l1, z1, A, r1, f1, t1, rfl⟩ := h
  by_cases h0 : n = 0
  · subst h0
    clear z1 r1 f1 t1
    go_enter Tryz.func40, Tryz.ntmps40
    go_wp2
    go_ret
    exact ⟨0, rfl, by omega, Or.inl ⟨rfl, rfl⟩, rfl⟩
  · have ht : A (n - 1) ≠ 0 := by
      rcases t1 with h | h
      · exact absurd h h0
      · exact h
    have d0 : ((n : Int) == 0) = false := by simp [h0]
    have n0 : (0 : Int) ≤ (n : Int) - 1 := by omega
    have n1 : (n : Int) - 1 < (n : Int) := by omega
    obtain ⟨b, o, rfl, hcell⟩ := r1.at (show n - 1 < n by omega)
    have hx := f1 (n - 1) (by omega)
    obtain ⟨x, hxx⟩ : ∃ x, A (n - 1) = x := ⟨_, rfl⟩
    rw [hxx] at hcell hx ht
    have Hx := Lib.hid (And.intro hxx f1)
    obtain ⟨hx0, hx1⟩ := hx
    clear hxx r1 f1 t1 z1
    go_enter Tryz.func40, Tryz.ntmps40
    go_wp2_with fail
    go_loopw [3, 4] (fun s3 s4 wr => ∃ (j : Nat) (T : Int), s3 = .int .i64 (16 * ((n : Int) - 1) + (j : Int)) ∧ s4 = .int .i64 T ∧ 0 ≤ T ∧ T ≤ 65535 ∧ w = wr ∧ j ≤ 16 ∧ Hid (T = x / 2 ^ j ∧ (1 ≤ j → 2 ^ (j - 1) ≤ x))) (fun _ s4 _ => (intOf s4).toNat)
    case atStart => exact ⟨0, x, by go_num, rfl, by omega, by omega, rfl, by omega, by simp, fun h => by omega⟩
    case round =>
      obtain ⟨j, T, rfl, rfl, hT0, hT1, rfl, hj, H⟩ := hrel
      have hp : (0 : Int) < 2 ^ j := Int.pow_pos (by decide)
      by_cases hT : 0 < T
      · have d1 : decide (0 < T) = true := decide_eq_true hT
        have e2 : T.tdiv 2 = T / 2 := Int.tdiv_eq_ediv_of_nonneg hT0
        have hx2 : 2 ^ j ≤ x := by
          have h1 := H.out.1
          rw [h1] at hT
          have := (Int.le_ediv_iff_mul_le hp).1 (show 1 ≤ x / 2 ^ j by omega)
          omega
        have hj16 : j < 16 := by
          rcases Nat.lt_or_ge j 16 with h | h
          · exact h
          · have := ipow_le (b := 2) (by decide) h
            rw [show (2 : Int) ^ 16 = 65536 by decide] at this
            omega
        have HX2 := Lib.hid hx2
        clear hx2 hp
        go_wp2
        go_roundw
        case measure => simp only [intOf]; omega
        case rel =>
          refine ⟨j + 1, T / 2, by go_num, rfl, by omega, by omega, by first | rfl | trivial, by omega, ?_, fun _ => by rw [Nat.add_sub_cancel]; exact HX2.out⟩
          rw [H.out.1, Int.pow_succ, Int.ediv_ediv_of_nonneg (Int.le_of_lt (Int.pow_pos (by decide)))]
      · have d1 : decide (0 < T) = false := decide_eq_false hT
        have hp2 := Lib.hid hp
        clear hp
        go_wp2
        go_ret
        have hT00 : T = 0 := by omega
        have h1 := H.out.1
        rw [hT00] at h1
        have hlt : x < 2 ^ j := by
          rcases Int.lt_or_le x (2 ^ j) with h | h
          · exact h
          · have := (Int.le_ediv_iff_mul_le hp2.out).2 (show 1 * 2 ^ j ≤ x by omega)
            omega
        have hj1 : 1 ≤ j := by
          rcases Nat.lt_or_ge 0 j with h | h
          · exact h
          · obtain rfl : j = 0 := by omega
            rw [Int.pow_zero] at hlt
            omega
        have h2 := H.out.2 hj1
        obtain ⟨m, hm⟩ : ∃ m, n = m + 1 := ⟨n - 1, by omega⟩
        subst hm
        have hA := Hx.out.1
        rw [Nat.add_sub_cancel] at hA
        have b0 := vs_nonneg (Hx.out.2.le (show m ≤ m + 1 by omega))
        have b1 := vs_lt (Hx.out.2.le (show m ≤ m + 1 by omega))
        have hS := SBn_pos m
        refine ⟨16 * m + j, by have he : (((16 * m + j : Nat)) : Int) = 16 * (((m + 1 : Nat) : Int) - 1) + (j : Int) := by push_cast; omega
                               rw [he]; rfl, by omega, Or.inr ⟨by omega, ?_, ?_⟩, rfl⟩
        · simp only [vs]
          rw [hA, show 16 * m + j - 1 = 16 * m + (j - 1) by omega, Int.pow_add, ← SB_pow]
          have := Int.mul_le_mul_of_nonneg_left h2 (Int.le_of_lt hS)
          rw [Int.mul_comm x]
          omega
        · simp only [vs]
          rw [hA, Int.pow_add, ← SB_pow]
          have := Int.mul_le_mul_of_nonneg_left (show x + 1 ≤ 2 ^ j by omega) (Int.le_of_lt hS)
          rw [Int.mul_add, Int.mul_one] at this
          rw [Int.mul_comm x]
          omega
structure ShlIn (A : Nat → Int) (q r i N : Nat) (Z : Nat → Int) : Prop where
  df : DF Z N
  c0 : 0 ≤ Z (q + i)
  c1 : Z (q + i) < 2 ^ r
  z : ∀ j, q + i < j → Z j = 0
  val : vs Z (q + i + 1) = SB ^ q * (vs A i * 2 ^ r)
theorem ShlIn.step {A : Nat → Int} {q r i N : Nat} {Z : Nat → Int} (h : ShlIn A q r i N Z) (hN : q + i + 1 < N) (hr : r < 16) (ha : D16 (A i)) :
    ShlIn A q r (i + 1) N (upd (upd Z (q + i) (Z (q + i) + A i * 2 ^ r % 65536)) (q + i + 1) (A i * 2 ^ r / 65536)) ∧ Z (q + i) + A i * 2 ^ r % 65536 < 65536 ∧ 0 ≤ A i * 2 ^ r ∧ A i * 2 ^ r < 4294967296 := by
  obtain ⟨h1, h2, h3, h4, h5⟩ := h
  have hp : (0 : Int) < 2 ^ r := Int.pow_pos (by decide)
  have hp2 : (2 : Int) ^ r ≤ 32768 := ipow_le (b := 2) (by decide) (show r ≤ 15 by omega)
  have y0 := Int.mul_nonneg ha.1 (Int.le_of_lt hp)
  have y1 : A i * 2 ^ r ≤ 65535 * 2 ^ r := Int.mul_le_mul_of_nonneg_right (by have := ha.2; omega) (Int.le_of_lt hp)
  have e : (65536 : Int) = 2 ^ r * 2 ^ (16 - r) := by rw [← Int.pow_add, show r + (16 - r) = 16 by omega]; decide
  have hm : A i * 2 ^ r % 65536 ≤ 65536 - 2 ^ r := by
    have e1 : A i * 2 ^ r % 65536 = 2 ^ r * (A i % 2 ^ (16 - r)) := by
      rw [e, Int.mul_comm (A i), Int.mul_emod_mul_of_pos _ _ hp]
    have hq : (0 : Int) < 2 ^ (16 - r) := Int.pow_pos (by decide)
    have e2 := Int.emod_lt_of_pos (A i) hq
    have e3 := Int.mul_le_mul_of_nonneg_left (show A i % 2 ^ (16 - r) ≤ 2 ^ (16 - r) - 1 by omega) (Int.le_of_lt hp)
    rw [Int.mul_sub, Int.mul_one, ← e] at e3
    rw [e1]
    exact e3
  have hlt : A i * 2 ^ r / 65536 < 2 ^ r := by
    rw [Int.ediv_lt_iff_lt_mul (by decide)]
    omega
  have s0 : Z (q + i) + A i * 2 ^ r % 65536 < 65536 := by omega
  generalize hy : A i * 2 ^ r = y at *
  have hd : 0 ≤ y / 65536 := by omega
  refine ⟨⟨df_put (df_put h1 ⟨by omega, by omega⟩) ⟨by omega, by omega⟩, ?_, ?_, fun j hj => ?_, ?_⟩, s0, y0, by omega⟩
  · rw [show q + (i + 1) = q + i + 1 by omega, upd_same]; omega
  · rw [show q + (i + 1) = q + i + 1 by omega, upd_same]; exact hlt
  · rw [upd_other _ _ (by omega), upd_other _ _ (by omega)]
    exact h4 j (by omega)
  · rw [show q + (i + 1) + 1 = (q + i + 1) + 1 by omega, vs_upd, vs_upd]
    simp only [vs] at h5 ⊢
    have e3 := Int.emod_add_mul_ediv y 65536
    have e4 : SB ^ (q + i + 1) = 65536 * SB ^ (q + i) := by rw [SB_succ]; unfold SB; rw [Int.mul_comm]
    have e5 : SB ^ q * ((vs A i + A i * SB ^ i) * 2 ^ r) = SB ^ q * (vs A i * 2 ^ r) + y * SB ^ (q + i) := by
      rw [← hy, Int.pow_add]; grind
    rw [e5, ← h5, e4]
    have e6 : y * SB ^ (q + i) = (y % 65536) * SB ^ (q + i) + y / 65536 * (65536 * SB ^ (q + i)) := by
      conv => lhs; rw [← e3]
      grind
    rw [e6]
    grind
set_option maxHeartbeats 4000000 in
theorem shl_any (a : Option Addr) (n c k : Nat) (V : Int) (w : World) (h : NatV w a n c V) (hn : n < 268435456) (hk : k < 268435456) :
    Calls Tryz.prog 66 #[.slice a n c, .int .i64 (k : Int)] w (NRes w (V * 2 ^ k)) := by
  by_cases hn0 : n = 0
  · have hV : V = 0 := by
      obtain ⟨_, _, A, _, _, _, hA⟩ := h
      rw [← hA, hn0]; rfl
    have H := Lib.hid h
    have d0 : ((n : Int) == 0) = true := by simp [hn0]
    clear h
    go_enter Tryz.func66, Tryz.ntmps66
    go_wp2
    go_ret
    exact ⟨a, n, c, rfl, by rw [hV, Int.zero_mul]; rw [hV] at H; exact H.out, Chg.refl _ _⟩
  · obtain ⟨l1, z1, A, r1, f1, t1, rfl⟩ := h
    have d0 : ((n : Int) == 0) = false := by simp [hn0]
    have e1 : (k : Int).tdiv 16 = ((k / 16 : Nat) : Int) := by rw [Int.tdiv_eq_ediv_of_nonneg (by omega)]; omega
    have e2 : (k : Int).tmod 16 = ((k % 16 : Nat) : Int) := by rw [Int.tmod_eq_emod_of_nonneg (by omega)]; omega
    obtain ⟨q, hq⟩ : ∃ q, k / 16 = q := ⟨_, rfl⟩
    obtain ⟨r, hr⟩ : ∃ r, k % 16 = r := ⟨_, rfl⟩
    rw [hq] at e1
    rw [hr] at e2
    have hqb : q < 16777217 := by omega
    have hr16 : r < 16 := by omega
    have q0 : (0 : Int) ≤ (q : Int) := by omega
    have r0 : ¬ ((r : Int) < 0) := by omega
    have HA := Lib.hid (And.intro r1 f1)
    have HQ := Lib.hid (And.intro hq hr)
    have hmk := fun w => run_make_ints w ((q : Int) + (n : Int) + 1) ((q : Int) + (n : Int) + 1) (by omega) (by omega) (by omega)
    have hN : ((q : Int) + (n : Int) + 1).toNat = q + n + 1 := by omega
    simp only [hN] at hmk
    clear r1 f1 t1 z1 hq hr hN
    go_enter Tryz.func66, Tryz.ntmps66
    go_upto_region 4 with fail
    obtain ⟨b, hb⟩ : ∃ b, b = w.heap.size := ⟨_, rfl⟩
    obtain ⟨W1, hW1⟩ : ∃ W, W = w.alloc (.cells (madeCells #[.int .i64 0] (q + n + 1)) 3) := ⟨_, rfl⟩
    have HF1 : Hid (Fill w W1 b 0 (q + n + 1) (fun _ => 0)) := by rw [hb, hW1]; exact Fill.made w _
    rw [← hb, ← hW1]
    clear hb hW1 hmk
    go_wp2_with fail
    go_loopg [6, 7, 21] n (fun gk s6 s7 s21 wc => ∃ (i : Nat) (Z : Nat → Int), s21 = .int .i64 (i : Int) ∧ i + gk = n ∧ Hid (Fill w wc b 0 (q + n + 1) Z ∧ ShlIn A q r i (q + n + 1) Z))
    case atStart => exact ⟨0, _, rfl, by omega, HF1.out, ⟨fun j hj => (show D16 0 from ⟨by omega, by omega⟩), Int.le_refl _, Int.pow_pos (by decide), fun j hj => rfl, by rw [vs_zeros (fun j hj => rfl)]; simp [vs]⟩⟩
    case round =>
      obtain ⟨i, Z, rfl, hik, H⟩ := hrel
      by_cases hi : i < n
      · have d1 : decide ((i : Int) < (n : Int)) = true := decide_eq_true (by omega)
        have d1' : decide (i < n) = true := decide_eq_true hi
        have i0 : (0 : Int) ≤ (i : Int) := by omega
        have i1 : (i : Int) < (n : Int) := by omega
        obtain ⟨ba, oa, rfl, hca⟩ := (HA.out.1.chg H.out.1.chg (fun _ _ _ _ _ h => h)).at hi
        have hax := HA.out.2 i hi
        obtain ⟨st, s0, y0, y1⟩ := H.out.2.step (by omega) hr16 hax
        obtain ⟨x, hx⟩ : ∃ x, A i = x := ⟨_, rfl⟩
        obtain ⟨z, hz⟩ : ∃ z, Z (q + i) = z := ⟨_, rfl⟩
        obtain ⟨y, hy⟩ : ∃ y, x * 2 ^ r = y := ⟨_, rfl⟩
        have hz0 := H.out.2.c0
        rw [hx] at hca st s0 y0 y1
        rw [hz] at st s0 hz0
        rw [hy] at st s0 y0 y1
        have hcz := H.out.1.ws (q + i) (by omega)
        rw [Nat.zero_add, hz] at hcz
        have hfz := (H.out.1.room (q + i) (by omega)).2
        rw [Nat.zero_add] at hfz
        have hcz2 := (H.out.1.ws (q + i + 1) (by omega))
        rw [Nat.zero_add] at hcz2
        have hfz2 := (H.out.1.room (q + i + 1) (by omega)).2
        rw [Nat.zero_add] at hfz2
        have ne1 : q + i ≠ q + i + 1 := by omega
        have ne2 : ¬ (q + i = q + i + 1) := by omega
        have HS := Lib.hid st
        have HY := Lib.hid (And.intro hx (And.intro hy hz))
        have e3 : y.tmod 65536 = y % 65536 := Int.tmod_eq_emod_of_nonneg y0
        have e4 : y.tdiv 65536 = y / 65536 := Int.tdiv_eq_ediv_of_nonneg y0
        have wy : wrap64 (x * 2 ^ r) = y := by rw [hy]; exact IntWalk.wrap64_in _ (by omega)
        have wy' : IntKind.i64.wrap (x * 2 ^ r) = y := by rw [hy]; exact IntWalk.i64_in _ (by omega)
        have qi0 : (0 : Int) ≤ (q : Int) + (i : Int) := by omega
        have qi1 : (q : Int) + (i : Int) < (q : Int) + (n : Int) + 1 := by omega
        have qi2 : (q : Int) + (i : Int) + 1 < (q : Int) + (n : Int) + 1 := by omega
        have qi3 : (0 : Int) ≤ (q : Int) + (i : Int) + 1 := by omega
        clear hx hy hz st hax
        go_wp2
        go_roundg (gk - 1)
        case measure => omega
        case rel =>
          have hp := (H.out.1.put (z + y % 65536) (i := q + i) (by omega)).put (y / 65536) (i := q + i + 1) (by omega)
          rw [Nat.zero_add, Nat.zero_add] at hp
          exact ⟨i + 1, _, by go_num, by omega, hp, HS.out⟩
      · have d1 : decide ((i : Int) < (n : Int)) = false := decide_eq_false (by omega)
        have d1' : decide (i < n) = false := decide_eq_false hi
        obtain rfl : i = n := by omega
        go_wp2_with fail
        refine (trim_any (some ⟨b, 0, none⟩) (q + i + 1) (q + i + 1) Z wr (Or.inr ⟨b, 0, rfl, H.out.1.ws⟩) (Nat.le_refl _) (by omega)).mono ?_
        rintro e w4 ⟨j, rfl, j1, j2, j3, rfl⟩
        have HJ := Lib.hid (And.intro j1 (And.intro j2 j3))
        clear j1 j2 j3
        go_wp2
        go_ret
        obtain ⟨j1, j2, j3⟩ := HJ.out
        obtain ⟨t1, t2⟩ := H.out
        refine ⟨some ⟨b, 0, none⟩, j, q + i + 1, rfl, ⟨j1, Or.inr ⟨b, 0, rfl, t1.pb, t1.room, by omega⟩, Z, Or.inr ⟨b, 0, rfl, t1.ws.le j1⟩, t2.df.le j1, j3, ?_⟩, t1.chg⟩
        rw [vs_trim j1 j2, t2.val, SB_pow]
        have hk2 : k = 16 * q + r := by have := HQ.out; omega
        rw [hk2, Int.pow_add]
        grind
theorem pow_lt_of' {x a b : Nat} (hx : 1 ≤ x) (h : (SB : Int) ^ a < SB ^ b) : a < b := by
  rcases Nat.lt_or_ge a b with h1 | h1
  · exact h1
  · have := SB_mono h1; omega
theorem NatV.len {w : World} {a : Option Addr} {n c k : Nat} {V : Int} (h : NatV w a n c V) (hV : V < SB ^ k) : n ≤ k := by
  obtain ⟨_, _, A, _, f1, t1, rfl⟩ := h
  rcases Nat.eq_zero_or_pos n with h0 | h0
  · omega
  · have h1 := vs_ge f1 t1 h0
    have := pow_lt_of' (Nat.le_refl 1) (show SB ^ (n - 1) < SB ^ k by omega)
    omega
theorem NatV.nonneg {w : World} {a : Option Addr} {n c : Nat} {V : Int} (h : NatV w a n c V) : 0 ≤ V := by
  obtain ⟨_, _, A, _, f1, _, rfl⟩ := h
  exact vs_nonneg f1
theorem NatV.zero {w : World} {a : Option Addr} {n c : Nat} {V : Int} (h : NatV w a n c V) : n = 0 ↔ V = 0 := by
  obtain ⟨_, _, A, _, f1, t1, rfl⟩ := h
  constructor
  · intro h0; rw [h0]; rfl
  · intro h0
    rcases Nat.eq_zero_or_pos n with h1 | h1
    · exact h1
    · have h2 := vs_ge f1 t1 h1
      have := SBn_pos (n - 1)
      omega
end Go.Proofs.YtmgfajamanakcaaGreatDoor.Si
