/- Part of the proof of FnParse: what the functions that it reaches do, as contracts. Conditions: those that each theorem names. -/
import Derived.Test.YtmgfajamanakcaaGreatDoorD36
import Derived.Test.YtmgfajamanakcaaGreatDoorD19
import Derived.Test.YtmgfajamanakcaaGreatDoorD15
namespace Go.Proofs.YtmgfajamanakcaaGreatDoor.Si
set_option linter.unusedVariables false
set_option linter.unusedSimpArgs false
open Go Go.RowKit
set_option maxRecDepth 100000
def SubRel (w : World) (A B : Nat → Int) (n1 n2 : Nat) (gk : Nat) (s5 s6 s12 : Value) (wc : World) : Prop :=
  ∃ (i : Nat) (br : Int) (a : Option Addr) (c : Nat) (X : Nat → Int), s5 = .slice a i c ∧ s6 = .int .i64 br ∧ s12 = .int .i64 (i : Int) ∧ i + gk = n1 ∧ 0 ≤ br ∧ br ≤ 1 ∧ Hid (Out w wc a i c X ∧ DF X i ∧ vs X i + vs (ext B n2) i = vs A i + SB ^ i * br)
set_option maxHeartbeats 4000000 in
theorem sub_any (a1 a2 : Option Addr) (n1 c1 n2 c2 : Nat) (V1 V2 : Int) (w : World) (h1 : NatV w a1 n1 c1 V1) (h2 : NatV w a2 n2 c2 V2) (hV : V2 ≤ V1) (hn1 : n1 < 1073741824) (hn2 : n2 < 1073741824) :
    Calls Tryz.prog 97 #[.slice a1 n1 c1, .slice a2 n2 c2] w (NRes w (V1 - V2)) := by
  obtain ⟨l1, z1, A, r1, f1, t1, rfl⟩ := h1
  obtain ⟨l2, z2, B, r2, f2, t2, rfl⟩ := h2
  have hle : n2 ≤ n1 := by
    rcases Nat.lt_or_ge n1 n2 with h | h
    · have := vs_lt_of_len f1 f2 t2 h; omega
    · exact h
  have HA := Lib.hid (And.intro r1 f1)
  have HB := Lib.hid (And.intro r2 f2)
  have HV := Lib.hid hV
  clear r1 f1 t1 r2 f2 t2 z1 z2 hV
  go_enter Tryz.func97, Tryz.ntmps97
  go_wp2_with fail
  go_loopg [5, 6, 7, 8, 12] n1 (fun gk s5 s6 s7 s8 s12 wc => SubRel w A B n1 n2 gk s5 s6 s12 wc)
  case atStart => exact ⟨0, 0, _, 0, _, rfl, rfl, rfl, by omega, by omega, by omega, Out.empty w w (Chg.refl _ _) (Nat.le_refl _), fun i hi => by omega, by simp [vs]⟩
  case round =>
    obtain ⟨i, br, a, c, X, rfl, rfl, rfl, hk, hc0, hc1, H⟩ := hrel
    by_cases hi : i < n1
    · have HRA : Hid (Rd wr a1 n1 A ∧ Rd wr a2 n2 B) := ⟨HA.out.1.chg H.out.1.chg (fun _ _ _ _ _ h => h), HB.out.1.chg H.out.1.chg (fun _ _ _ _ _ h => h)⟩
      have d0 : decide ((i : Int) < (n1 : Int)) = true := decide_eq_true (by omega)
      have d0' : decide (i < n1) = true := decide_eq_true hi
      have i0 : (0 : Int) ≤ (i : Int) := by omega
      have i1 : (i : Int) < (n1 : Int) := by omega
      obtain ⟨b, o, rfl, hcell⟩ := HRA.out.1.at hi
      have hx := HA.out.2 i hi
      obtain ⟨x, hxx⟩ : ∃ x, A i = x := ⟨_, rfl⟩
      rw [hxx] at hcell hx
      have Hx := Lib.hid hxx
      obtain ⟨hx0, hx1⟩ := hx
      clear hxx
      have e2 := df_ext HB.out.2 i
      obtain ⟨y, hy⟩ : ∃ x, ext B n2 i = x := ⟨_, rfl⟩
      rw [hy] at e2
      obtain ⟨e2a, e2b⟩ := e2
      have HY := Lib.hid hy
      clear hy
      go_upto_if 23 with fail
      go_cut [8] (fun s8 wc => s8 = .int .i64 (x - br - y) ∧ wr = wc)
      case first => as_aux_lemma =>
        by_cases q1 : i < n2
        · have d1 : decide ((i : Int) < (n2 : Int)) = true := decide_eq_true (by omega)
          have d1' : decide (i < n2) = true := decide_eq_true q1
          try first | rw [d1] | rw [d1']
          obtain ⟨b2, o2, rfl, hcell2⟩ := HRA.out.2.at q1
          have hx : B i = y := (ext_lt (A := B) q1).symm.trans HY.out
          rw [hx] at hcell2
          have q2 : (i : Int) < (n2 : Int) := by omega
          clear hx d1
          go_wp2
          go_meet
          exact ⟨rfl, rfl⟩
        · have d1 : decide ((i : Int) < (n2 : Int)) = false := decide_eq_false (by omega)
          have d1' : decide (i < n2) = false := decide_eq_false q1
          try first | rw [d1] | rw [d1']
          have He : Hid (y = 0) := HY.out.symm.trans (ext_ge (A := B) q1)
          go_wp2
          go_meet
          exact ⟨by rw [He.out, Int.sub_zero], rfl⟩
      case rest => as_aux_lemma =>
        obtain ⟨rfl, rfl⟩ := hcut
        obtain ⟨q, hq⟩ : ∃ q, x - br - y = q := ⟨_, rfl⟩
        rw [hq]
        have hq0 : -65536 ≤ q := by omega
        have hq1 : q < 65536 := by omega
        have HQ := Lib.hid hq
        clear hq
        by_cases hneg : q < 0
        · have d3 : decide (q < 0) = true := decide_eq_true hneg
          have HX := Lib.hid (H.out.1.one (q + 65536))
          have x3 := H.out.1.le
          have x4 : i < 1099511627776 := by omega
          go_wp2_with (refine wpList_append_int rfl (.tmp 34) (.tmp 36) rfl a i c X _ _ rfl rfl HX.out.1 HX.out.2.1 x3 x4 HX.out.2.2 ?_; rintro a3 c3 w3 h3; have H3 := Lib.hid h3; clear h3)
          go_roundg (gk - 1)
          case measure => omega
          case rel =>
            obtain ⟨g1, g2, g3⟩ := H.out
            refine ⟨i + 1, 1, a3, c3, _, rfl, rfl, by go_num, by omega, by omega, by omega, g1.snoc H3.out, df_upd g2 ⟨by omega, by omega⟩, ?_⟩
            rw [vs_upd, SB_succ]
            simp only [vs]
            rw [HY.out, Hx.out]
            have e5 := HQ.out
            generalize SB ^ i = S at *
            have e6 : (q + 65536) * S = x * S - S * br - y * S + S * SB := by rw [← e5]; unfold SB; grind
            omega
        · have d3 : decide (q < 0) = false := decide_eq_false hneg
          have HX := Lib.hid (H.out.1.one q)
          have x3 := H.out.1.le
          have x4 : i < 1099511627776 := by omega
          go_wp2_with (refine wpList_append_int rfl (.tmp 34) (.tmp 36) rfl a i c X _ _ rfl rfl HX.out.1 HX.out.2.1 x3 x4 HX.out.2.2 ?_; rintro a3 c3 w3 h3; have H3 := Lib.hid h3; clear h3)
          go_roundg (gk - 1)
          case measure => omega
          case rel =>
            obtain ⟨g1, g2, g3⟩ := H.out
            refine ⟨i + 1, 0, a3, c3, _, rfl, rfl, by go_num, by omega, by omega, by omega, g1.snoc H3.out, df_upd g2 ⟨by omega, by omega⟩, ?_⟩
            rw [vs_upd, SB_succ]
            simp only [vs]
            rw [HY.out, Hx.out]
            have e5 := HQ.out
            generalize SB ^ i = S at *
            have e6 : q * S = x * S - S * br - y * S := by rw [← e5]; grind
            rw [Int.mul_zero]
            omega
    · have d0 : decide ((i : Int) < (n1 : Int)) = false := decide_eq_false (by omega)
      have d0' : decide (i < n1) = false := decide_eq_false hi
      obtain rfl : i = n1 := by omega
      have HO := Lib.hid H.out.1
      go_wp2_with fail
      refine (trim_any a i c X wr HO.out.rd HO.out.le HO.out.z.cap).mono ?_
      rintro e w4 ⟨j, rfl, j1, j2, j3, rfl⟩
      have HJ := Lib.hid (And.intro j1 (And.intro j2 j3))
      clear j1 j2 j3
      go_wp2
      go_ret
      obtain ⟨j1, j2, j3⟩ := HJ.out
      obtain ⟨g1, g2, g3⟩ := H.out
      refine ⟨a, j, c, rfl, ⟨by have := HO.out.le; omega, HO.out.z, _, HO.out.rd.le j1, g2.le j1, j3, ?_⟩, HO.out.chg⟩
      rw [vs_trim j1 j2]
      rw [vs_ext hle] at g3
      have b1 := vs_lt g2
      have b2 := HV.out
      have hb0 : br = 0 ∨ br = 1 := by omega
      rcases hb0 with hb0 | hb0
      · rw [hb0, Int.mul_zero] at g3; omega
      · rw [hb0, Int.mul_one] at g3; omega
theorem vs_one (X : Nat → Int) : vs X 1 = X 0 := by simp [vs]
theorem SB_two : SB = 2 ^ 16 := by decide
theorem SB_pow (j : Nat) : SB ^ j = 2 ^ (16 * j) := by
  rw [SB_two, ← Int.pow_mul]
set_option maxHeartbeats 2000000 in
theorem bit_any (i : Nat) (w : World) (hi : i < 1073741824) : Calls Tryz.prog 98 #[.int .i64 (i : Int)] w (NRes w (2 ^ i)) := by
  have e1 : (i : Int).tdiv 16 = ((i / 16 : Nat) : Int) := by rw [Int.tdiv_eq_ediv_of_nonneg (by omega)]; omega
  have e2 : (i : Int).tmod 16 = ((i % 16 : Nat) : Int) := by rw [Int.tmod_eq_emod_of_nonneg (by omega)]; omega
  obtain ⟨j, hj⟩ : ∃ j, i / 16 = j := ⟨_, rfl⟩
  obtain ⟨r, hr⟩ : ∃ r, i % 16 = r := ⟨_, rfl⟩
  rw [hj] at e1
  rw [hr] at e2
  have hmk := fun w => run_make_ints w ((j : Int) + 1) ((j : Int) + 1) (by omega) (by omega) (by omega)
  have hN : ((j : Int) + 1).toNat = j + 1 := by omega
  simp only [hN] at hmk
  have j0 : (0 : Int) ≤ (j : Int) := by omega
  have j1 : (j : Int) < (j : Int) + 1 := by omega
  have r0 : ¬ ((r : Int) < 0) := by omega
  have hr16 : r < 16 := by omega
  have hjb : j < 67108865 := by omega
  have H := Lib.hid (And.intro hj hr)
  have p1 : (2 : Int) ^ r ≤ 32768 := by
    have := ipow_le (b := 2) (by decide) (show r ≤ 15 by omega)
    exact this
  have p0 : (0 : Int) < 2 ^ r := Int.pow_pos (by decide)
  have wp : wrap64 (2 ^ r) = 2 ^ r := IntWalk.wrap64_in _ (by omega)
  have wp' : IntKind.i64.wrap (2 ^ r) = 2 ^ r := IntWalk.i64_in _ (by omega)
  have HP := Lib.hid (And.intro p0 p1)
  clear hj hr p0 p1 hN
  go_enter Tryz.func98, Tryz.ntmps98
  go_upto_region 2 with fail
  obtain ⟨b, hb⟩ : ∃ b, b = w.heap.size := ⟨_, rfl⟩
  obtain ⟨W1, hW1⟩ : ∃ W, W = w.alloc (.cells (madeCells #[.int .i64 0] (j + 1)) 3) := ⟨_, rfl⟩
  have hF : Fill w W1 b 0 (j + 1) (fun _ => 0) := by rw [hb, hW1]; exact Fill.made w _
  rw [← hb, ← hW1]
  clear hb hW1 hmk
  have hcz := hF.ws j (by omega)
  rw [Nat.zero_add] at hcz
  have hfz := (hF.room j (by omega)).2
  rw [Nat.zero_add] at hfz
  have HF := Lib.hid hF
  clear hF
  go_wp2
  go_ret
  obtain ⟨p0, p1⟩ := HP.out
  have hp := HF.out.put (2 ^ r) (i := j) (by omega)
  rw [Nat.zero_add] at hp
  refine ⟨_, j + 1, j + 1, rfl, ⟨Nat.le_refl _, Or.inr ⟨_, 0, rfl, hp.pb, hp.room, by omega⟩, _, Or.inr ⟨_, 0, rfl, hp.ws⟩, df_put (fun j hj => (show D16 0 from ⟨by omega, by omega⟩)) ⟨by omega, by omega⟩, Or.inr ?_, ?_⟩, hp.chg⟩
  · rw [Nat.add_sub_cancel, upd_same]; omega
  · rw [vs_upd, vs_zeros (fun j hj => rfl), Int.zero_add, SB_pow, ← Int.pow_add]
    congr 1
    have := H.out
    omega
set_option maxHeartbeats 2000000 in
theorem len_any (a : Option Addr) (n c : Nat) (V : Int) (w : World) (h : NatV w a n c V) (hn : n < 1073741824) :
    Calls Tryz.prog 40 #[.slice a n c] w fun e w' => ∃ L : Nat, e = .returned (.int .i64 (L : Int)) ∧ L ≤ 16 * n ∧ ((V = 0 ∧ L = 0) ∨ (1 ≤ L ∧ 2 ^ (L - 1) ≤ V ∧ V < 2 ^ L)) ∧ w = w' := by
  obtain ⟨l1, z1, A, r1, f1, t1, rfl⟩ := h
  by_cases h0 : n = 0
  · subst h0
    clear z1 r1 f1 t1
    go_enter Tryz.func40, Tryz.ntmps40
    go_wp2
    go_ret
    exact ⟨0, rfl, by omega, Or.inl ⟨rfl, rfl⟩, rfl⟩
  · have ht : A (n - 1) ≠ 0 := by
      rcases t1 with h | h
      · exact absurd h h0
      · exact h
    have d0 : ((n : Int) == 0) = false := by simp [h0]
    have n0 : (0 : Int) ≤ (n : Int) - 1 := by omega
    have n1 : (n : Int) - 1 < (n : Int) := by omega
    obtain ⟨b, o, rfl, hcell⟩ := r1.at (show n - 1 < n by omega)
    have hx := f1 (n - 1) (by omega)
    obtain ⟨x, hxx⟩ : ∃ x, A (n - 1) = x := ⟨_, rfl⟩
    rw [hxx] at hcell hx ht
    have Hx := Lib.hid (And.intro hxx f1)
    obtain ⟨hx0, hx1⟩ := hx
    clear hxx r1 f1 t1 z1
    go_enter Tryz.func40, Tryz.ntmps40
    go_wp2_with fail
    go_loopw [3, 4] (fun s3 s4 wr => ∃ (j : Nat) (T : Int), s3 = .int .i64 (16 * ((n : Int) - 1) + (j : Int)) ∧ s4 = .int .i64 T ∧ 0 ≤ T ∧ T ≤ 65535 ∧ w = wr ∧ j ≤ 16 ∧ Hid (T = x / 2 ^ j ∧ (1 ≤ j → 2 ^ (j - 1) ≤ x))) (fun _ s4 _ => (intOf s4).toNat)
    case atStart => exact ⟨0, x, by go_num, rfl, by omega, by omega, rfl, by omega, by simp, fun h => by omega⟩
    case round =>
      obtain ⟨j, T, rfl, rfl, hT0, hT1, rfl, hj, H⟩ := hrel
      have hp : (0 : Int) < 2 ^ j := Int.pow_pos (by decide)
      by_cases hT : 0 < T
      · have d1 : decide (0 < T) = true := decide_eq_true hT
        have e2 : T.tdiv 2 = T / 2 := Int.tdiv_eq_ediv_of_nonneg hT0
        have hx2 : 2 ^ j ≤ x := by
          have h1 := H.out.1
          rw [h1] at hT
          have := (Int.le_ediv_iff_mul_le hp).1 (show 1 ≤ x / 2 ^ j by omega)
          omega
        have hj16 : j < 16 := by
          rcases Nat.lt_or_ge j 16 with h | h
          · exact h
          · have := ipow_le (b := 2) (by decide) h
            rw [show (2 : Int) ^ 16 = 65536 by decide] at this
            omega
        have HX2 := Lib.hid hx2
        clear hx2 hp
        go_wp2
        go_roundw
        case measure => simp only [intOf]; omega
        case rel =>
          refine ⟨j + 1, T / 2, by go_num, rfl, by omega, by omega, by first | rfl | trivial, by omega, ?_, fun _ => by rw [Nat.add_sub_cancel]; exact HX2.out⟩
          rw [H.out.1, Int.pow_succ, Int.ediv_ediv_of_nonneg (Int.le_of_lt (Int.pow_pos (by decide)))]
      · have d1 : decide (0 < T) = false := decide_eq_false hT
        have hp2 := Lib.hid hp
        clear hp
        go_wp2
        go_ret
        have hT00 : T = 0 := by omega
        have h1 := H.out.1
        rw [hT00] at h1
        have hlt : x < 2 ^ j := by
          rcases Int.lt_or_le x (2 ^ j) with h | h
          · exact h
          · have := (Int.le_ediv_iff_mul_le hp2.out).2 (show 1 * 2 ^ j ≤ x by omega)
            omega
        have hj1 : 1 ≤ j := by
          rcases Nat.lt_or_ge 0 j with h | h
          · exact h
          · obtain rfl : j = 0 := by omega
            rw [Int.pow_zero] at hlt
            omega
        have h2 := H.out.2 hj1
        obtain ⟨m, hm⟩ : ∃ m, n = m + 1 := ⟨n - 1, by omega⟩
        subst hm
        have hA := Hx.out.1
        rw [Nat.add_sub_cancel] at hA
        have b0 := vs_nonneg (Hx.out.2.le (show m ≤ m + 1 by omega))
        have b1 := vs_lt (Hx.out.2.le (show m ≤ m + 1 by omega))
        have hS := SBn_pos m
        refine ⟨16 * m + j, by have he : (((16 * m + j : Nat)) : Int) = 16 * (((m + 1 : Nat) : Int) - 1) + (j : Int) := by push_cast; omega
                               rw [he]; rfl, by omega, Or.inr ⟨by omega, ?_, ?_⟩, rfl⟩
        · simp only [vs]
          rw [hA, show 16 * m + j - 1 = 16 * m + (j - 1) by omega, Int.pow_add, ← SB_pow]
          have := Int.mul_le_mul_of_nonneg_left h2 (Int.le_of_lt hS)
          rw [Int.mul_comm x]
          omega
        · simp only [vs]
          rw [hA, Int.pow_add, ← SB_pow]
          have := Int.mul_le_mul_of_nonneg_left (show x + 1 ≤ 2 ^ j by omega) (Int.le_of_lt hS)
          rw [Int.mul_add, Int.mul_one] at this
          rw [Int.mul_comm x]
          omega
structure ShlIn (A : Nat → Int) (q r i N : Nat) (Z : Nat → Int) : Prop where
  df : DF Z N
  c0 : 0 ≤ Z (q + i)
  c1 : Z (q + i) < 2 ^ r
  z : ∀ j, q + i < j → Z j = 0
  val : vs Z (q + i + 1) = SB ^ q * (vs A i * 2 ^ r)
theorem ShlIn.step {A : Nat → Int} {q r i N : Nat} {Z : Nat → Int} (h : ShlIn A q r i N Z) (hN : q + i + 1 < N) (hr : r < 16) (ha : D16 (A i)) :
    ShlIn A q r (i + 1) N (upd (upd Z (q + i) (Z (q + i) + A i * 2 ^ r % 65536)) (q + i + 1) (A i * 2 ^ r / 65536)) ∧ Z (q + i) + A i * 2 ^ r % 65536 < 65536 ∧ 0 ≤ A i * 2 ^ r ∧ A i * 2 ^ r < 4294967296 := by
  obtain ⟨h1, h2, h3, h4, h5⟩ := h
  have hp : (0 : Int) < 2 ^ r := Int.pow_pos (by decide)
  have hp2 : (2 : Int) ^ r ≤ 32768 := ipow_le (b := 2) (by decide) (show r ≤ 15 by omega)
  have y0 := Int.mul_nonneg ha.1 (Int.le_of_lt hp)
  have y1 : A i * 2 ^ r ≤ 65535 * 2 ^ r := Int.mul_le_mul_of_nonneg_right (by have := ha.2; omega) (Int.le_of_lt hp)
  have e : (65536 : Int) = 2 ^ r * 2 ^ (16 - r) := by rw [← Int.pow_add, show r + (16 - r) = 16 by omega]; decide
  have hm : A i * 2 ^ r % 65536 ≤ 65536 - 2 ^ r := by
    have e1 : A i * 2 ^ r % 65536 = 2 ^ r * (A i % 2 ^ (16 - r)) := by
      rw [e, Int.mul_comm (A i), Int.mul_emod_mul_of_pos _ _ hp]
    have hq : (0 : Int) < 2 ^ (16 - r) := Int.pow_pos (by decide)
    have e2 := Int.emod_lt_of_pos (A i) hq
    have e3 := Int.mul_le_mul_of_nonneg_left (show A i % 2 ^ (16 - r) ≤ 2 ^ (16 - r) - 1 by omega) (Int.le_of_lt hp)
    rw [Int.mul_sub, Int.mul_one, ← e] at e3
    rw [e1]
    exact e3
  have hlt : A i * 2 ^ r / 65536 < 2 ^ r := by
    rw [Int.ediv_lt_iff_lt_mul (by decide)]
    omega
  have s0 : Z (q + i) + A i * 2 ^ r % 65536 < 65536 := by omega
  generalize hy : A i * 2 ^ r = y at *
  have hd : 0 ≤ y / 65536 := by omega
  refine ⟨⟨df_put (df_put h1 ⟨by omega, by omega⟩) ⟨by omega, by omega⟩, ?_, ?_, fun j hj => ?_, ?_⟩, s0, y0, by omega⟩
  · rw [show q + (i + 1) = q + i + 1 by omega, upd_same]; omega
  · rw [show q + (i + 1) = q + i + 1 by omega, upd_same]; exact hlt
  · rw [upd_other _ _ (by omega), upd_other _ _ (by omega)]
    exact h4 j (by omega)
  · rw [show q + (i + 1) + 1 = (q + i + 1) + 1 by omega, vs_upd, vs_upd]
    simp only [vs] at h5 ⊢
    have e3 := Int.emod_add_mul_ediv y 65536
    have e4 : SB ^ (q + i + 1) = 65536 * SB ^ (q + i) := by rw [SB_succ]; unfold SB; rw [Int.mul_comm]
    have e5 : SB ^ q * ((vs A i + A i * SB ^ i) * 2 ^ r) = SB ^ q * (vs A i * 2 ^ r) + y * SB ^ (q + i) := by
      rw [← hy, Int.pow_add]; grind
    rw [e5, ← h5, e4]
    have e6 : y * SB ^ (q + i) = (y % 65536) * SB ^ (q + i) + y / 65536 * (65536 * SB ^ (q + i)) := by
      conv => lhs; rw [← e3]
      grind
    rw [e6]
    grind
set_option maxHeartbeats 4000000 in
theorem shl_any (a : Option Addr) (n c k : Nat) (V : Int) (w : World) (h : NatV w a n c V) (hn : n < 268435456) (hk : k < 268435456) :
    Calls Tryz.prog 66 #[.slice a n c, .int .i64 (k : Int)] w (NRes w (V * 2 ^ k)) := by
  by_cases hn0 : n = 0
  · have hV : V = 0 := by
      obtain ⟨_, _, A, _, _, _, hA⟩ := h
      rw [← hA, hn0]; rfl
    have H := Lib.hid h
    have d0 : ((n : Int) == 0) = true := by simp [hn0]
    clear h
    go_enter Tryz.func66, Tryz.ntmps66
    go_wp2
    go_ret
    exact ⟨a, n, c, rfl, by rw [hV, Int.zero_mul]; rw [hV] at H; exact H.out, Chg.refl _ _⟩
  · obtain ⟨l1, z1, A, r1, f1, t1, rfl⟩ := h
    have d0 : ((n : Int) == 0) = false := by simp [hn0]
    have e1 : (k : Int).tdiv 16 = ((k / 16 : Nat) : Int) := by rw [Int.tdiv_eq_ediv_of_nonneg (by omega)]; omega
    have e2 : (k : Int).tmod 16 = ((k % 16 : Nat) : Int) := by rw [Int.tmod_eq_emod_of_nonneg (by omega)]; omega
    obtain ⟨q, hq⟩ : ∃ q, k / 16 = q := ⟨_, rfl⟩
    obtain ⟨r, hr⟩ : ∃ r, k % 16 = r := ⟨_, rfl⟩
    rw [hq] at e1
    rw [hr] at e2
    have hqb : q < 16777217 := by omega
    have hr16 : r < 16 := by omega
    have q0 : (0 : Int) ≤ (q : Int) := by omega
    have r0 : ¬ ((r : Int) < 0) := by omega
    have HA := Lib.hid (And.intro r1 f1)
    have HQ := Lib.hid (And.intro hq hr)
    have hmk := fun w => run_make_ints w ((q : Int) + (n : Int) + 1) ((q : Int) + (n : Int) + 1) (by omega) (by omega) (by omega)
    have hN : ((q : Int) + (n : Int) + 1).toNat = q + n + 1 := by omega
    simp only [hN] at hmk
    clear r1 f1 t1 z1 hq hr hN
    go_enter Tryz.func66, Tryz.ntmps66
    go_upto_region 4 with fail
    obtain ⟨b, hb⟩ : ∃ b, b = w.heap.size := ⟨_, rfl⟩
    obtain ⟨W1, hW1⟩ : ∃ W, W = w.alloc (.cells (madeCells #[.int .i64 0] (q + n + 1)) 3) := ⟨_, rfl⟩
    have HF1 : Hid (Fill w W1 b 0 (q + n + 1) (fun _ => 0)) := by rw [hb, hW1]; exact Fill.made w _
    rw [← hb, ← hW1]
    clear hb hW1 hmk
    go_wp2_with fail
    go_loopg [6, 7, 21] n (fun gk s6 s7 s21 wc => ∃ (i : Nat) (Z : Nat → Int), s21 = .int .i64 (i : Int) ∧ i + gk = n ∧ Hid (Fill w wc b 0 (q + n + 1) Z ∧ ShlIn A q r i (q + n + 1) Z))
    case atStart => exact ⟨0, _, rfl, by omega, HF1.out, ⟨fun j hj => (show D16 0 from ⟨by omega, by omega⟩), Int.le_refl _, Int.pow_pos (by decide), fun j hj => rfl, by rw [vs_zeros (fun j hj => rfl)]; simp [vs]⟩⟩
    case round =>
      obtain ⟨i, Z, rfl, hik, H⟩ := hrel
      by_cases hi : i < n
      · have d1 : decide ((i : Int) < (n : Int)) = true := decide_eq_true (by omega)
        have d1' : decide (i < n) = true := decide_eq_true hi
        have i0 : (0 : Int) ≤ (i : Int) := by omega
        have i1 : (i : Int) < (n : Int) := by omega
        obtain ⟨ba, oa, rfl, hca⟩ := (HA.out.1.chg H.out.1.chg (fun _ _ _ _ _ h => h)).at hi
        have hax := HA.out.2 i hi
        obtain ⟨st, s0, y0, y1⟩ := H.out.2.step (by omega) hr16 hax
        obtain ⟨x, hx⟩ : ∃ x, A i = x := ⟨_, rfl⟩
        obtain ⟨z, hz⟩ : ∃ z, Z (q + i) = z := ⟨_, rfl⟩
        obtain ⟨y, hy⟩ : ∃ y, x * 2 ^ r = y := ⟨_, rfl⟩
        have hz0 := H.out.2.c0
        rw [hx] at hca st s0 y0 y1
        rw [hz] at st s0 hz0
        rw [hy] at st s0 y0 y1
        have hcz := H.out.1.ws (q + i) (by omega)
        rw [Nat.zero_add, hz] at hcz
        have hfz := (H.out.1.room (q + i) (by omega)).2
        rw [Nat.zero_add] at hfz
        have hcz2 := (H.out.1.ws (q + i + 1) (by omega))
        rw [Nat.zero_add] at hcz2
        have hfz2 := (H.out.1.room (q + i + 1) (by omega)).2
        rw [Nat.zero_add] at hfz2
        have ne1 : q + i ≠ q + i + 1 := by omega
        have ne2 : ¬ (q + i = q + i + 1) := by omega
        have HS := Lib.hid st
        have HY := Lib.hid (And.intro hx (And.intro hy hz))
        have e3 : y.tmod 65536 = y % 65536 := Int.tmod_eq_emod_of_nonneg y0
        have e4 : y.tdiv 65536 = y / 65536 := Int.tdiv_eq_ediv_of_nonneg y0
        have wy : wrap64 (x * 2 ^ r) = y := by rw [hy]; exact IntWalk.wrap64_in _ (by omega)
        have wy' : IntKind.i64.wrap (x * 2 ^ r) = y := by rw [hy]; exact IntWalk.i64_in _ (by omega)
        have qi0 : (0 : Int) ≤ (q : Int) + (i : Int) := by omega
        have qi1 : (q : Int) + (i : Int) < (q : Int) + (n : Int) + 1 := by omega
        have qi2 : (q : Int) + (i : Int) + 1 < (q : Int) + (n : Int) + 1 := by omega
        have qi3 : (0 : Int) ≤ (q : Int) + (i : Int) + 1 := by omega
        clear hx hy hz st hax
        go_wp2
        go_roundg (gk - 1)
        case measure => omega
        case rel =>
          have hp := (H.out.1.put (z + y % 65536) (i := q + i) (by omega)).put (y / 65536) (i := q + i + 1) (by omega)
          rw [Nat.zero_add, Nat.zero_add] at hp
          exact ⟨i + 1, _, by go_num, by omega, hp, HS.out⟩
      · have d1 : decide ((i : Int) < (n : Int)) = false := decide_eq_false (by omega)
        have d1' : decide (i < n) = false := decide_eq_false hi
        obtain rfl : i = n := by omega
        go_wp2_with fail
        refine (trim_any (some ⟨b, 0, none⟩) (q + i + 1) (q + i + 1) Z wr (Or.inr ⟨b, 0, rfl, H.out.1.ws⟩) (Nat.le_refl _) (by omega)).mono ?_
        rintro e w4 ⟨j, rfl, j1, j2, j3, rfl⟩
        have HJ := Lib.hid (And.intro j1 (And.intro j2 j3))
        clear j1 j2 j3
        go_wp2
        go_ret
        obtain ⟨j1, j2, j3⟩ := HJ.out
        obtain ⟨t1, t2⟩ := H.out
        refine ⟨some ⟨b, 0, none⟩, j, q + i + 1, rfl, ⟨j1, Or.inr ⟨b, 0, rfl, t1.pb, t1.room, by omega⟩, Z, Or.inr ⟨b, 0, rfl, t1.ws.le j1⟩, t2.df.le j1, j3, ?_⟩, t1.chg⟩
        rw [vs_trim j1 j2, t2.val, SB_pow]
        have hk2 : k = 16 * q + r := by have := HQ.out; omega
        rw [hk2, Int.pow_add]
        grind
theorem pow_lt_of' {x a b : Nat} (hx : 1 ≤ x) (h : (SB : Int) ^ a < SB ^ b) : a < b := by
  rcases Nat.lt_or_ge a b with h1 | h1
  · exact h1
  · have := SB_mono h1; omega
theorem NatV.len {w : World} {a : Option Addr} {n c k : Nat} {V : Int} (h : NatV w a n c V) (hV : V < SB ^ k) : n ≤ k := by
  obtain ⟨_, _, A, _, f1, t1, rfl⟩ := h
  rcases Nat.eq_zero_or_pos n with h0 | h0
  · omega
  · have h1 := vs_ge f1 t1 h0
    have := pow_lt_of' (Nat.le_refl 1) (show SB ^ (n - 1) < SB ^ k by omega)
    omega
theorem NatV.nonneg {w : World} {a : Option Addr} {n c : Nat} {V : Int} (h : NatV w a n c V) : 0 ≤ V := by
  obtain ⟨_, _, A, _, f1, _, rfl⟩ := h
  exact vs_nonneg f1
theorem NatV.zero {w : World} {a : Option Addr} {n c : Nat} {V : Int} (h : NatV w a n c V) : n = 0 ↔ V = 0 := by
  obtain ⟨_, _, A, _, f1, t1, rfl⟩ := h
  constructor
  · intro h0; rw [h0]; rfl
  · intro h0
    rcases Nat.eq_zero_or_pos n with h1 | h1
    · exact h1
    · have h2 := vs_ge f1 t1 h1
      have := SBn_pos (n - 1)
      omega
theorem pow_le_SB {b : Nat} (hb : b < 65536) (k : Nat) : ((b : Int)) ^ k ≤ SB ^ k := by
  induction k with
  | zero => simp
  | succ k ih =>
    rw [Int.pow_succ, Int.pow_succ]
    exact Int.mul_le_mul ih (by unfold SB; omega) (by omega) (Int.le_of_lt (SBn_pos k))
set_option maxHeartbeats 2000000 in
theorem power_any (b k : Nat) (w : World) (hb : b < 65536) (hk : k < 65536) : Calls Tryz.prog 26 #[.int .i64 (b : Int), .int .i64 (k : Int)] w (NRes w ((b : Int) ^ k)) := by
  have H1 := Lib.hid (small_any 1 w (by omega))
  go_enter Tryz.func26, Tryz.ntmps26
  go_wp2_with fail
  refine H1.out.mono ?_
  rintro e w1 ⟨a, n, c, rfl, h1, k1⟩
  have HN := Lib.hid (And.intro h1 k1)
  clear h1 k1
  go_wp2_with fail
  go_loopg [1, 5] k (fun gk s1 s5 wc => ∃ a n c, s1 = .int .i64 (gk : Int) ∧ s5 = .slice a n c ∧ gk ≤ k ∧ Hid (NatV wc a n c ((b : Int) ^ (k - gk)) ∧ Chg zNone w wc))
  case atStart => exact ⟨a, n, c, rfl, rfl, Nat.le_refl _, by rw [Nat.sub_self, Int.pow_zero]; exact HN.out.1, HN.out.2⟩
  case round =>
    obtain ⟨a, n, c, rfl, rfl, hg, H⟩ := hrel
    by_cases h0 : 0 < gk
    · have d1 : decide ((0 : Int) < (gk : Int)) = true := decide_eq_true (by omega)
      have d1' : decide (0 < gk) = true := decide_eq_true h0
      have HS := Lib.hid (small_any b wr (by omega))
      have hn : n ≤ k := by
        have hlt : (b : Int) ^ (k - gk) < SB ^ k := by
          refine Int.lt_of_le_of_lt (pow_le_SB hb _) ?_
          have h1 := SBn_pos (k - gk)
          have h2 : SB ^ (k - gk) * SB ^ gk = SB ^ k := by rw [← Int.pow_add]; congr 1; omega
          have h3 : (2 : Int) ≤ SB ^ gk := by
            have := SB_mono (show 1 ≤ gk by omega)
            rw [Int.pow_one] at this
            unfold SB at this ⊢
            omega
          have h4 := Int.mul_le_mul_of_nonneg_left h3 (Int.le_of_lt h1)
          omega
        exact H.out.1.len hlt
      go_wp2_with fail
      refine HS.out.mono ?_
      rintro e w2 ⟨a2, n2, c2, rfl, h2, k2⟩
      have hn2 : n2 ≤ 1 := h2.len (by rw [Int.pow_one]; unfold SB; omega)
      have HM := Lib.hid (mul_any a a2 n c n2 c2 _ _ w2 (H.out.1.far k2) h2 (by omega) (by omega))
      have HK := Lib.hid (H.out.2.trans k2 (fun _ _ _ h => h))
      clear h2 k2
      go_wp2_with fail
      refine HM.out.mono ?_
      rintro e w3 ⟨a3, n3, c3, rfl, h3, k3⟩
      have H3 := Lib.hid (And.intro h3 k3)
      clear h3 k3
      go_wp2
      go_roundg (gk - 1)
      case measure => omega
      case rel =>
        refine ⟨a3, n3, c3, by go_num, rfl, by omega, ?_, HK.out.trans H3.out.2 (fun _ _ _ h => h)⟩
        rw [show k - (gk - 1) = (k - gk) + 1 by omega, Int.pow_succ]
        exact H3.out.1
    · have d1 : decide ((0 : Int) < (gk : Int)) = false := decide_eq_false (by omega)
      have d1' : decide (0 < gk) = false := decide_eq_false h0
      obtain rfl : gk = 0 := by omega
      go_wp2_with fail
      refine bodyPost_ret (v := .slice a n c) (by simp [results, Tryz.results26, go_sem]) rfl ?_
      exact ⟨a, n, c, rfl, by rw [← Nat.sub_zero k]; exact H.out.1, H.out.2⟩
end Go.Proofs.YtmgfajamanakcaaGreatDoor.Si
