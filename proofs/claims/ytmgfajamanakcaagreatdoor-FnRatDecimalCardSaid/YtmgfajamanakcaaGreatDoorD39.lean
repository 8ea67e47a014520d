/- Part of the proof of FnParse: what the functions that it reaches do, as contracts. Conditions: those that each theorem names. -/
import Derived.Test.YtmgfajamanakcaaGreatDoorD38
import Derived.Test.YtmgfajamanakcaaGreatDoorD02
namespace Go.Proofs.YtmgfajamanakcaaGreatDoor.Si
set_option linter.unusedVariables false
set_option linter.unusedSimpArgs false
open Go Go.RowKit
set_option maxRecDepth 100000
def hi (A : Nat → Int) (n k : Nat) : Int := vs (fun t => A (k + t)) (n - k)
theorem hi_zero (A : Nat → Int) (n : Nat) : hi A n 0 = vs A n := by unfold hi; rw [Nat.sub_zero]; exact vs_congr (fun i _ => by rw [Nat.zero_add])
theorem hi_top (A : Nat → Int) (n : Nat) : hi A n n = 0 := by unfold hi; rw [Nat.sub_self]; rfl
theorem hi_step {A : Nat → Int} {n k : Nat} (hk : k < n) : hi A n k = A k + SB * hi A n (k + 1) := by
  unfold hi
  obtain ⟨m, hm⟩ : ∃ m, n - k = 1 + m := ⟨n - k - 1, by omega⟩
  rw [hm, vs_add, vs_one, show n - (k + 1) = m by omega, Nat.add_zero, Int.pow_succ, Int.pow_zero, Int.one_mul]
  congr 2
  exact vs_congr (fun i _ => by congr 1; omega)
theorem hi_put {Z : Nat → Int} {n k : Nat} {v : Int} : hi (upd Z k v) n (k + 1) = hi Z n (k + 1) := by
  unfold hi
  exact vs_congr (fun i _ => upd_other Z v (by omega))
set_option maxHeartbeats 4000000 in
theorem byDigit_any (a : Option Addr) (n c : Nat) (V d : Int) (w : World) (h : NatV w a n c V) (hn : n < 16777216) (hd0 : 1 ≤ d) (hd1 : d ≤ 65535) :
    Calls Tryz.prog 53 #[.slice a n c, .int .i64 d] w fun e w' => ∃ b m c', e = .returned (.tuple #[.slice b m c', .int .i64 (V % d)]) ∧ NatV w' b m c' (V / d) ∧ Chg zNone w w' := by
  obtain ⟨l1, z1, A, r1, f1, t1, rfl⟩ := h
  have HA := Lib.hid (And.intro r1 f1)
  have hmk := fun w => run_make_ints w (n : Int) (n : Int) (by omega) (by omega) (by omega)
  have hN : (n : Int).toNat = n := by omega
  simp only [hN] at hmk
  have hdne : ¬ d = 0 := by omega
  have hdb : (d == 0) = false := by simp; omega
  clear r1 f1 t1 z1 hN
  go_enter Tryz.func53, Tryz.ntmps53
  go_upto_region 2 with fail
  obtain ⟨b, hb⟩ : ∃ b, b = w.heap.size := ⟨_, rfl⟩
  obtain ⟨W1, hW1⟩ : ∃ W, W = w.alloc (.cells (madeCells #[.int .i64 0] n) 3) := ⟨_, rfl⟩
  have HF1 : Hid (Fill w W1 b 0 n (fun _ => 0)) := by rw [hb, hW1]; exact Fill.made w _
  rw [← hb, ← hW1]
  clear hb hW1 hmk
  go_wp2_with fail
  go_loopg [7, 8] n (fun gk s7 s8 wc => ∃ (r : Int) (Z : Nat → Int), s7 = .int .i64 r ∧ s8 = .int .i64 ((gk : Int) - 1) ∧ gk ≤ n ∧ 0 ≤ r ∧ r < d ∧ Hid (Fill w wc b 0 n Z ∧ DF Z n ∧ r = hi A n gk % d ∧ hi Z n gk = hi A n gk / d))
  case atStart => exact ⟨0, _, rfl, rfl, Nat.le_refl _, by omega, by omega, HF1.out, fun j hj => (show D16 0 from ⟨by omega, by omega⟩), by rw [hi_top]; simp, by rw [hi_top, hi_top]; simp⟩
  case round =>
    obtain ⟨r, Z, rfl, rfl, hg, hr0, hr1, H⟩ := hrel
    by_cases h0 : gk = 0
    · obtain rfl : gk = 0 := h0
      go_wp2_with fail
      refine (trim_any (some ⟨b, 0, none⟩) n n Z wr (Or.inr ⟨b, 0, rfl, H.out.1.ws⟩) (Nat.le_refl _) (by omega)).mono ?_
      rintro e w4 ⟨j, rfl, j1, j2, j3, rfl⟩
      have HJ := Lib.hid (And.intro j1 (And.intro j2 j3))
      clear j1 j2 j3
      go_wp2
      go_ret2
      obtain ⟨j1, j2, j3⟩ := HJ.out
      obtain ⟨t1, t2, t3, t4⟩ := H.out
      rw [hi_zero] at t3 t4
      rw [hi_zero] at t4
      refine ⟨some ⟨b, 0, none⟩, j, n, by rw [← t3]; rfl, ⟨j1, Or.inr ⟨b, 0, rfl, t1.pb, t1.room, by omega⟩, Z, Or.inr ⟨b, 0, rfl, t1.ws.le j1⟩, t2.le j1, j3, ?_⟩, t1.chg⟩
      rw [vs_trim j1 j2, t4]
    · have d1 : decide ((0 : Int) ≤ (gk : Int) - 1) = true := decide_eq_true (by omega)
      have g0 : (0 : Int) ≤ (gk : Int) - 1 := by omega
      have g1 : (gk : Int) - 1 < (n : Int) := by omega
      obtain ⟨ba, oa, rfl, hca⟩ := (HA.out.1.chg H.out.1.chg (fun _ _ _ _ _ h => h)).at (show gk - 1 < n by omega)
      have hax := HA.out.2 (gk - 1) (by omega)
      obtain ⟨x, hx⟩ : ∃ x, A (gk - 1) = x := ⟨_, rfl⟩
      rw [hx] at hca hax
      obtain ⟨hx0, hx1⟩ := hax
      have HX := Lib.hid hx
      have hcz := H.out.1.ws (gk - 1) (by omega)
      rw [Nat.zero_add] at hcz
      have hfz := (H.out.1.room (gk - 1) (by omega)).2
      rw [Nat.zero_add] at hfz
      obtain ⟨u, hu⟩ : ∃ u, r * 65536 + x = u := ⟨_, rfl⟩
      have hu0 : 0 ≤ u := by omega
      have hu1 : u < 4294967296 := by omega
      have HU := Lib.hid hu
      have e3 : u.tdiv d = u / d := Int.tdiv_eq_ediv_of_nonneg hu0
      have e4 : u.tmod d = u % d := Int.tmod_eq_emod_of_nonneg hu0
      have hud0 : 0 ≤ u / d := Int.ediv_nonneg hu0 (by omega)
      have hud1 : u / d < 65536 := by
        rw [Int.ediv_lt_iff_lt_mul (by omega), ← hu]
        have : r * 65536 ≤ (d - 1) * 65536 := by omega
        omega
      have hum0 := Int.emod_nonneg u (show d ≠ 0 by omega)
      have hum1 := Int.emod_lt_of_pos u (show 0 < d by omega)
      clear hx
      have HB := Lib.hid (And.intro hud0 (And.intro hud1 (And.intro hum0 hum1)))
      have wud : wrap64 (u / d) = u / d := IntWalk.wrap64_in _ (by omega)
      clear hud0 hud1 hum0 hum1
      go_wp2
      go_roundg (gk - 1)
      case measure => omega
      case rel =>
        have hp := H.out.1.put (u / d) (i := gk - 1) (by omega)
        rw [Nat.zero_add] at hp
        obtain ⟨b0, b1, b2, b3⟩ := HB.out
        obtain ⟨t1, t2, t3, t4⟩ := H.out
        obtain ⟨g, hgk⟩ : ∃ g, gk = g + 1 := ⟨gk - 1, by omega⟩
        have hA := hi_step (A := A) (show gk - 1 < n by omega)
        have hZ := hi_step (A := upd Z (gk - 1) (u / d)) (show gk - 1 < n by omega)
        rw [show gk - 1 + 1 = gk by omega] at hA hZ
        rw [upd_same] at hZ
        have hZ2 : hi (upd Z (gk - 1) (u / d)) n gk = hi Z n gk := by
          have := hi_put (Z := Z) (n := n) (k := gk - 1) (v := u / d)
          rwa [show gk - 1 + 1 = gk by omega] at this
        rw [hZ2, t4] at hZ
        rw [HX.out] at hA
        have hdec : hi A n (gk - 1) = u + d * (SB * (hi A n gk / d)) := by
          have e5 := Int.emod_add_mul_ediv (hi A n gk) d
          rw [← t3] at e5
          rw [hA, ← HU.out, ← e5]
          have e6 : (r + d * (hi A n gk / d)) / d = hi A n gk / d := by
            rw [e5]
          rw [e6]
          unfold SB
          grind
        refine ⟨u % d, _, rfl, by go_num, by omega, b2, b3, hp, df_put t2 ⟨b0, b1⟩, ?_, ?_⟩
        · rw [hdec, Int.add_mul_emod_self_left]
        · rw [hZ, hdec, Int.add_mul_ediv_left _ _ (by omega)]
def DivPost (w : World) (V1 V2 : Int) (e : Ending) (w' : World) : Prop :=
  ∃ b m d b2 m2 d2, e = .returned (.tuple #[.slice b m d, .slice b2 m2 d2]) ∧ NatV w' b m d (V1 / V2) ∧ NatV w' b2 m2 d2 (V1 % V2) ∧ Chg zNone w w'
def DvRel (w : World) (V1 V2 : Int) (gk : Nat) (s0 s8 s9 : Value) (wc : World) : Prop :=
  ∃ a n c q m d z R Q, s0 = .slice a n c ∧ s8 = .slice q m d ∧ s9 = .int .i64 z ∧ -268435456 ≤ z ∧ z < 268435456 ∧ Hid ((0 ≤ z ∧ gk = z.toNat + 1) ∨ (z < 0 ∧ gk = 0)) ∧ Hid (NatV wc a n c R ∧ NatV wc q m d Q ∧ V1 = Q * V2 + R ∧ R < 2 ^ gk * V2 ∧ Chg zNone w wc)
theorem nat_lt {w : World} {a : Option Addr} {n c : Nat} {V : Int} (h : NatV w a n c V) : V < SB ^ n := by
  obtain ⟨_, _, A, _, f1, _, rfl⟩ := h
  exact vs_lt f1
set_option maxHeartbeats 8000000 in
theorem divmod_any (a1 a2 : Option Addr) (n1 c1 n2 c2 : Nat) (V1 V2 : Int) (w : World) (h1 : NatV w a1 n1 c1 V1) (h2 : NatV w a2 n2 c2 V2) (hV2 : 0 < V2) (hn1 : n1 < 16384) (hn2 : n2 < 16384) :
    Calls Tryz.prog 56 #[.slice a1 n1 c1, .slice a2 n2 c2] w (DivPost w V1 V2) := by
  by_cases h21 : n2 = 1
  · subst h21
    have d0 : (((1 : Nat) : Int) == 1) = true := rfl
    obtain ⟨l2, z2, B, r2, f2, t2, hB⟩ := h2
    obtain ⟨b, o, rfl, hcell⟩ := r2.at (show 0 < 1 by omega)
    have hx := f2 0 (by omega)
    rw [vs_one] at hB
    rw [hB] at hcell hx
    obtain ⟨hx0, hx1⟩ := hx
    rw [Nat.add_zero] at hcell
    have HD := Lib.hid (byDigit_any a1 n1 c1 V1 V2 w h1 (by omega) (by omega) (by omega))
    have hr0 := Int.emod_nonneg V1 (show V2 ≠ 0 by omega)
    have hr1 := Int.emod_lt_of_pos V1 hV2
    clear h1 r2 f2 t2 z2 hB
    go_enter Tryz.func56, Tryz.ntmps56
    go_wp2_with fail
    refine HD.out.mono ?_
    rintro e w1 ⟨q, m, d, rfl, g1, g2⟩
    obtain ⟨k, hk⟩ : ∃ k : Nat, V1 % V2 = (k : Int) := ⟨(V1 % V2).toNat, by omega⟩
    have HS : Hid (Calls Tryz.prog 21 #[.int .i64 (V1 % V2)] w1 (NRes w1 (V1 % V2))) := by rw [hk]; exact small_any k w1 (by omega)
    have HG := Lib.hid (And.intro g1 g2)
    clear g1 g2 hk hcell
    go_wp2_with fail
    refine HS.out.mono ?_
    rintro e w2 ⟨q2, m2, d2, rfl, g1, g2⟩
    have H2 := Lib.hid (And.intro g1 g2)
    clear g1 g2
    go_wp2
    go_ret2
    exact ⟨q, m, d, q2, m2, d2, rfl, HG.out.1.far H2.out.2, H2.out.1, HG.out.2.trans H2.out.2 (fun _ _ _ h => h)⟩
  · have d0 : ((n2 : Int) == 1) = false := by simp; omega
    have kal : Chg zNone w (w.alloc (.cells #[] 3)) := (Chg.refl _ _).alloc _
    have HE : Hid (NatV (w.alloc (.cells #[] 3)) (some ⟨w.heap.size, 0, none⟩) 0 0 0) :=
      ⟨Nat.le_refl _, Or.inr ⟨_, _, rfl, PB.new w _ _, fun i hi => by omega, by omega⟩, fun _ => 0, Or.inl rfl, fun i hi => by omega, Or.inl rfl, rfl⟩
    have HL1 := Lib.hid (len_any a1 n1 c1 V1 _ (h1.far kal) (by omega))
    have HL2 := Lib.hid (len_any a2 n2 c2 V2 _ (h2.far kal) (by omega))
    have H := Lib.hid (And.intro (h1.far kal) (And.intro (h2.far kal) kal))
    have HW := Lib.hid h2
    have HB := Lib.hid hV2
    have HV1 := Lib.hid (And.intro h1.nonneg (nat_lt h1))
    clear h1 h2 hV2 kal
    go_enter Tryz.func56, Tryz.ntmps56
    go_wp2_with fail
    refine HL1.out.mono ?_
    rintro e w1 ⟨L1, rfl, p1, p2, rfl⟩
    go_wp2_with fail
    refine HL2.out.mono ?_
    rintro e w1 ⟨L2, rfl, p3, p4, rfl⟩
    have HP := Lib.hid (And.intro p2 p4)
    clear p2 p4
    go_wp2_with fail
    go_loopg [0, 8, 9, 10] (((L1 : Int) - (L2 : Int)) + 1).toNat (fun gk s0 s8 s9 s10 wc => DvRel w V1 V2 gk s0 s8 s9 wc)
    case atStart =>
      refine ⟨a1, n1, c1, _, 0, 0, _, V1, 0, rfl, rfl, rfl, by omega, by omega, ?_, H.out.1, HE.out, by omega, ?_, H.out.2.2⟩
      · by_cases hz : (L2 : Int) ≤ (L1 : Int)
        · exact Or.inl ⟨by omega, by omega⟩
        · exact Or.inr ⟨by omega, by omega⟩
      · obtain ⟨p2, p4⟩ := HP.out
        have hV2 := HB.out
        have hV0 := HV1.out.1
        obtain ⟨b1, b2, b3⟩ : 1 ≤ L2 ∧ 2 ^ (L2 - 1) ≤ V2 ∧ V2 < 2 ^ L2 := by
          rcases p4 with h | h
          · omega
          · exact h
        have hpp : (0 : Int) < 2 ^ (((L1 : Int) - (L2 : Int)) + 1).toNat := Int.pow_pos (by decide)
        rcases p2 with ⟨c1', _⟩ | ⟨c1', c2', c3'⟩
        · rw [c1']
          exact Int.mul_pos hpp hV2
        · have h3 := Int.mul_le_mul_of_nonneg_left b2 (Int.le_of_lt hpp)
          rw [← Int.pow_add] at h3
          have h4 := ipow_le (b := 2) (by decide) (show L1 ≤ (((L1 : Int) - (L2 : Int)) + 1).toNat + (L2 - 1) by omega)
          omega
    case round =>
      obtain ⟨a, n, c, q, m, d, z, R, Q, rfl, rfl, rfl, hz0, hz1, HZ, HR⟩ := hrel
      have hV2 := HB.out
      have hR0 := HR.out.1.nonneg
      have hQ0 := HR.out.2.1.nonneg
      have heq := HR.out.2.2.1
      have hQV : Q ≤ V1 := by
        have := Int.mul_le_mul_of_nonneg_left (show 1 ≤ V2 by omega) hQ0
        omega
      have hRV : R ≤ V1 := by
        have := Int.mul_nonneg hQ0 (Int.le_of_lt hV2)
        omega
      have hnR : n ≤ n1 := HR.out.1.len (Int.lt_of_le_of_lt hRV HV1.out.2)
      have hmQ : m ≤ n1 := HR.out.2.1.len (Int.lt_of_le_of_lt hQV HV1.out.2)
      have HEQ := Lib.hid (And.intro hV2 (And.intro hR0 (And.intro hQ0 heq)))
      clear hV2 hR0 hQ0 heq hQV hRV
      by_cases hneg : z < 0
      · have d1 : decide ((0 : Int) ≤ z) = false := decide_eq_false (by omega)
        have HG : Hid (gk = 0) := by
          rcases HZ.out with h | h
          · omega
          · exact h.2
        clear hneg
        go_wp2
        go_ret2
        obtain ⟨r1, r2, r3, r4, r5⟩ := HR.out
        rw [HG.out, Int.pow_zero, Int.one_mul] at r4
        obtain ⟨e1, e2, e3, e4⟩ := HEQ.out
        have hq : V1 / V2 = Q := by
          rw [e4, Int.add_comm, Int.add_mul_ediv_right _ _ (by omega), Int.ediv_eq_zero_of_lt e2 r4, Int.zero_add]
        have hr : V1 % V2 = R := by
          rw [e4, Int.add_comm, Int.add_mul_emod_self_right, Int.emod_eq_of_lt e2 r4]
        refine ⟨q, m, d, a, n, c, rfl, ?_, ?_, r5⟩
        · rw [hq]; exact r2
        · rw [hr]; exact r1
      · have d1 : decide ((0 : Int) ≤ z) = true := decide_eq_true (by omega)
        obtain ⟨i, hi⟩ : ∃ i : Nat, z = (i : Int) := ⟨z.toNat, by omega⟩
        subst hi
        have HG : Hid (gk = i + 1) := by
          show gk = i + 1
          rcases HZ.out with h | h
          · have := h.2; omega
          · omega
        have hib : i < 268435456 := by omega
        have HS := Lib.hid (shl_any a2 n2 c2 i V2 wr (HW.out.far HR.out.2.2.2.2) (by omega) hib)
        go_wp2_with fail
        refine HS.out.mono ?_
        rintro e w2 ⟨b3, n3, c3, rfl, g1, g2⟩
        have hp : (0 : Int) < 2 ^ i := Int.pow_pos (by decide)
        have hSi : (2 : Int) ^ i ≤ SB ^ i := by
          rw [SB_pow]; exact ipow_le (by decide) (by omega)
        have hn3 : n3 ≤ n2 + i := g1.len (by
          rw [Int.pow_add]
          have h1 := nat_lt HW.out
          have h2 := Int.mul_lt_mul_of_pos_right h1 hp
          have h3 := Int.mul_le_mul_of_nonneg_left hSi (Int.le_of_lt (SBn_pos n2))
          omega)
        have HC := Lib.hid (cmp_any b3 a n3 c3 n c _ R w2 g1 (HR.out.1.far g2) (by omega) (by omega))
        have H2 := Lib.hid (And.intro g1 g2)
        have HPp := Lib.hid (And.intro hp hSi)
        clear g1 g2 hp hSi
        go_wp2_with fail
        refine HC.out.mono ?_
        rintro e w3 ⟨rfl, N, rfl⟩
        have kN : Chg zNone wr (w2.drewN N) := H2.out.2.drewN N
        have hd := H2.out.1.far ((Chg.refl zNone w2).drewN N)
        have ha := HR.out.1.far kN
        have hqq := HR.out.2.1.far kN
        by_cases hle : V2 * 2 ^ i ≤ R
        · have hcv : decide (cmpV (V2 * 2 ^ i) R ≤ 0) = true := by
            apply decide_eq_true
            unfold cmpV
            split
            · omega
            · rw [if_neg (by omega)]; omega
          have HSb := Lib.hid (sub_any a b3 n c n3 c3 R _ (w2.drewN N) ha hd hle (by omega) (by omega))
          have HQ3 := Lib.hid (And.intro hqq kN)
          have HLE := Lib.hid hle
          clear hle ha hd hqq kN
          go_wp2_with fail
          refine HSb.out.mono ?_
          rintro e w4 ⟨a4, n4, c4, rfl, g1, g2⟩
          have H4 := Lib.hid (And.intro g1 g2)
          have HBt := Lib.hid (bit_any i w4 (by omega))
          clear g1 g2
          go_wp2_with fail
          refine HBt.out.mono ?_
          rintro e w5 ⟨a5, n5, c5, rfl, g1, g2⟩
          have hn5 : n5 ≤ i + 1 := g1.len (by
            have h1 := HPp.out.2
            have h2 := SBn_pos i
            rw [SB_succ]
            have : SB ^ i * SB = 65536 * SB ^ i := by unfold SB; rw [Int.mul_comm]
            omega)
          have HAd := Lib.hid (add_any q a5 m d n5 c5 Q _ w5 (HQ3.out.1.far (H4.out.2.trans g2 (fun _ _ _ h => h))) g1 (by omega) (by omega))
          have H5 := Lib.hid (And.intro (H4.out.1.far g2) (((HQ3.out.2.trans H4.out.2 (fun _ _ _ h => h)).trans g2 (fun _ _ _ h => h))))
          clear g1 g2
          go_wp2_with fail
          refine HAd.out.mono ?_
          rintro e w6 ⟨a6, n6, c6, rfl, g1, g2⟩
          have H6 := Lib.hid (And.intro g1 g2)
          clear g1 g2
          go_wp2
          go_roundg (gk - 1)
          case measure => have := HG.out; omega
          case rel =>
            obtain ⟨r1, r2, r3, r4, r5⟩ := HR.out
            have hg := HG.out
            refine ⟨a4, n4, c4, a6, n6, c6, (i : Int) - 1, R - V2 * 2 ^ i, Q + 2 ^ i, rfl, rfl, by go_num, by omega, by omega, ?_, H5.out.1.far H6.out.2, H6.out.1, ?_, ?_, (r5.trans H5.out.2 (fun _ _ _ h => h)).trans H6.out.2 (fun _ _ _ h => h)⟩
            · show (0 ≤ (i : Int) - 1 ∧ gk - 1 = ((i : Int) - 1).toNat + 1) ∨ ((i : Int) - 1 < 0 ∧ gk - 1 = 0)
              omega
            · rw [Int.add_mul, Int.mul_comm (2 ^ i) V2]; omega
            · rw [hg, Nat.add_sub_cancel]
              rw [hg, Int.pow_succ, Int.mul_assoc, Int.mul_comm 2 V2, ← Int.mul_assoc] at r4
              rw [Int.mul_comm V2]
              omega
        · have hcv : decide (cmpV (V2 * 2 ^ i) R ≤ 0) = false := by
            apply decide_eq_false
            unfold cmpV
            rw [if_neg (by omega), if_pos (by omega)]
            omega
          have HQ3 := Lib.hid (And.intro ha (And.intro hqq kN))
          have HLE := Lib.hid hle
          clear hle ha hd hqq kN
          go_wp2
          go_roundg (gk - 1)
          case measure => have := HG.out; omega
          case rel =>
            obtain ⟨r1, r2, r3, r4, r5⟩ := HR.out
            have hg := HG.out
            refine ⟨a, n, c, q, m, d, (i : Int) - 1, R, Q, rfl, rfl, by go_num, by omega, by omega, ?_, HQ3.out.1, HQ3.out.2.1, r3, ?_, r5.trans HQ3.out.2.2 (fun _ _ _ h => h)⟩
            · show (0 ≤ (i : Int) - 1 ∧ gk - 1 = ((i : Int) - 1).toNat + 1) ∨ ((i : Int) - 1 < 0 ∧ gk - 1 = 0)
              omega
            · rw [hg, Nat.add_sub_cancel, Int.mul_comm]
              have := HLE.out
              omega
end Go.Proofs.YtmgfajamanakcaaGreatDoor.Si
namespace Go.Proofs.YtmgfajamanakcaaGreatDoor
set_option linter.unusedVariables false
set_option linter.unusedSimpArgs false
theorem gcd_step (a b q : Int) : Int.gcd b (a - q * b) = Int.gcd a b := by
  rw [Int.gcd_comm a b, Int.sub_eq_add_neg, ← Int.neg_mul]
  exact Int.gcd_add_mul_right_right ..
def sgn (even : Bool) : Int := if even then -1 else 1
theorem sgn_not (e : Bool) : sgn (!e) = -sgn e := by cases e <;> rfl
structure LInv (A B a b : Int) (a1 a2 u0 u1 u2 v0 v1 v2 : Int) (even : Bool) : Prop where
  ha1 : 0 ≤ a2 ∧ a2 ≤ a1
  hu0 : 0 ≤ u0 ∧ u0 < BB
  hu1 : 0 ≤ u1 ∧ u1 < BB
  hu2 : 0 ≤ u2 ∧ u2 < BB
  hv0 : 0 ≤ v0 ∧ v0 < BB
  hv1 : 0 ≤ v1 ∧ v1 < BB
  hv2 : 1 ≤ v2 ∧ v2 < BB
  huv2 : u2 ≤ v2
  huv1 : (u1 = 1 ∧ v1 = 0 ∧ u2 = 0 ∧ even = false ∧ v0 = 0) ∨ u1 ≤ v1
  ea : v2 * a1 + v1 * a2 = a
  eb : u2 * a1 + u1 * a2 = b
  e1 : a1 = sgn even * (u1 * a - v1 * b)
  e2 : a2 = sgn even * (v2 * b - u2 * a)
  g : Int.gcd (sgn even * (u1 * A - v1 * B)) (sgn even * (v2 * B - u2 * A)) = Int.gcd A B
  small : (u1 = 1 ∧ v1 = 0) ∨ sgn even * (u1 * A - v1 * B) ≤ B
  prev : v0 = 0 ∨ (0 ≤ sgn even * (u1 * A - v1 * B) ∧ sgn even * (u1 * A - v1 * B) < -sgn even * (u0 * A - v0 * B) ∧ -sgn even * (u0 * A - v0 * B) ≤ B ∧
    Int.gcd (-sgn even * (u0 * A - v0 * B)) (sgn even * (u1 * A - v1 * B)) = Int.gcd A B)
theorem LInv.start {A B a b : Int} (hb : 0 ≤ b) (hab : b ≤ a) : LInv A B a b a b 0 1 0 0 0 1 false := by
  refine ⟨⟨hb, hab⟩, ⟨by omega, by decide⟩, ⟨by omega, by decide⟩, ⟨by omega, by decide⟩, ⟨by omega, by decide⟩, ⟨by omega, by decide⟩, ⟨by omega, by decide⟩, by omega, Or.inl ⟨rfl, rfl, rfl, rfl, rfl⟩, by omega, by omega, ?_, ?_, ?_, Or.inl ⟨rfl, rfl⟩, Or.inl rfl⟩
  · simp [sgn]
  · simp [sgn]
  · simp [sgn]
theorem collins {A B a b T a' b' : Int} {a1 a2 u0 u1 u2 v0 v1 v2 : Int} {even : Bool} (h : LInv A B a b a1 a2 u0 u1 u2 v0 v1 v2 even)
    (hA : A = a * T + a') (hB : B = b * T + b') (hT : 0 < T) (ha : 0 ≤ a' ∧ a' < T) (hb : 0 ≤ b' ∧ b' < T) (t1 : v2 ≤ a2) (t2 : v1 + v2 ≤ a1 - a2) :
    0 ≤ sgn even * (v2 * B - u2 * A) ∧ sgn even * (v2 * B - u2 * A) < sgn even * (u1 * A - v1 * B) := by
  have E1 : sgn even * (u1 * A - v1 * B) = a1 * T + sgn even * (u1 * a' - v1 * b') := by rw [h.e1, hA, hB]; grind
  have E2 : sgn even * (v2 * B - u2 * A) = a2 * T + sgn even * (v2 * b' - u2 * a') := by rw [h.e2, hA, hB]; grind
  rw [E1, E2]
  have p1 : 0 ≤ u1 * a' := Int.mul_nonneg h.hu1.1 ha.1
  have p2 : 0 ≤ v1 * b' := Int.mul_nonneg h.hv1.1 hb.1
  have p3 : 0 ≤ u2 * a' := Int.mul_nonneg h.hu2.1 ha.1
  have p4 : 0 ≤ v2 * b' := Int.mul_nonneg (by have := h.hv2; omega) hb.1
  have q1 : u2 * a' ≤ u2 * T := Int.mul_le_mul_of_nonneg_left (by omega) h.hu2.1
  have q2 : v2 * b' ≤ v2 * (T - 1) := Int.mul_le_mul_of_nonneg_left (by omega) (by have := h.hv2; omega)
  have q3 : v1 * b' ≤ v1 * T := Int.mul_le_mul_of_nonneg_left (by omega) h.hv1.1
  have q4 : u1 * a' ≤ u1 * T := Int.mul_le_mul_of_nonneg_left (by omega) h.hu1.1
  have r1 : v2 * T ≤ a2 * T := Int.mul_le_mul_of_nonneg_right t1 (by omega)
  have r2 : u2 * T ≤ v2 * T := Int.mul_le_mul_of_nonneg_right h.huv2 (by omega)
  have r3 : (v1 + v2) * T ≤ (a1 - a2) * T := Int.mul_le_mul_of_nonneg_right t2 (by omega)
  rw [Int.add_mul, Int.sub_mul] at r3
  rw [Int.mul_sub] at q2
  have hv2 := h.hv2.1
  rcases Bool.eq_false_or_eq_true even with he | he
  · subst he
    have hu : u1 ≤ v1 := by rcases h.huv1 with ⟨_, _, _, hh, _⟩ | hh; cases hh; exact hh
    have r4 : u1 * T ≤ v1 * T := Int.mul_le_mul_of_nonneg_right hu (by omega)
    have s : (-1 : Int) * (u1 * a' - v1 * b') = v1 * b' - u1 * a' := by omega
    have s2 : (-1 : Int) * (v2 * b' - u2 * a') = u2 * a' - v2 * b' := by omega
    show 0 ≤ a2 * T + -1 * (v2 * b' - u2 * a') ∧ a2 * T + -1 * (v2 * b' - u2 * a') < a1 * T + -1 * (u1 * a' - v1 * b')
    rw [s, s2]
    have r5 : u2 * a' ≤ u2 * (T - 1) := Int.mul_le_mul_of_nonneg_left (by omega) h.hu2.1
    rw [Int.mul_sub] at r5
    have hvT : T ≤ v2 * T := by have := Int.mul_le_mul_of_nonneg_right hv2 (show 0 ≤ T by omega); omega
    refine ⟨by omega, ?_⟩
    by_cases hz : u2 = 0
    · subst hz; omega
    · have := h.hu2.1; omega
  · subst he
    have s : (1 : Int) * (u1 * a' - v1 * b') = u1 * a' - v1 * b' := by omega
    have s2 : (1 : Int) * (v2 * b' - u2 * a') = v2 * b' - u2 * a' := by omega
    show 0 ≤ a2 * T + 1 * (v2 * b' - u2 * a') ∧ a2 * T + 1 * (v2 * b' - u2 * a') < a1 * T + 1 * (u1 * a' - v1 * b')
    rw [s, s2]
    constructor <;> omega
theorem LInv.step {A B a b T a' b' : Int} {a1 a2 u0 u1 u2 v0 v1 v2 : Int} {even : Bool} (h : LInv A B a b a1 a2 u0 u1 u2 v0 v1 v2 even)
    (hA : A = a * T + a') (hB : B = b * T + b') (hT : 0 < T) (ha : 0 ≤ a' ∧ a' < T) (hb : 0 ≤ b' ∧ b' < T) (haB : a < BB) (hab : b ≤ a) (t1 : v2 ≤ a2) (t2 : v1 + v2 ≤ a1 - a2) :
    LInv A B a b a2 (a1 % a2) u1 u2 (u1 + a1 / a2 * u2) v1 v2 (v1 + a1 / a2 * v2) (!even) ∧ u1 + a1 / a2 * u2 < BB ∧ v1 + a1 / a2 * v2 < BB := by
  have hc := collins h hA hB hT ha hb t1 t2
  have ha2 : 0 < a2 := by have := h.hv2; omega
  obtain ⟨q, hq⟩ : ∃ q, q = a1 / a2 := ⟨_, rfl⟩
  have hr : a1 % a2 = a1 - q * a2 := by have := Int.emod_add_mul_ediv a1 a2; rw [← hq, Int.mul_comm] at this; omega
  have hq1 : 1 ≤ q := by rw [hq, Int.le_ediv_iff_mul_le ha2]; have := h.ha1; omega
  have hr0 := Int.emod_nonneg a1 (show a2 ≠ 0 by omega)
  have hr1 := Int.emod_lt_of_pos a1 ha2
  rw [← hq]
  rw [hr] at hr0 hr1 ⊢
  have hqu : 0 ≤ q * u2 := Int.mul_nonneg (by omega) h.hu2.1
  have hqv : 1 ≤ q * v2 := by have := Int.mul_le_mul hq1 h.hv2.1 (by omega) (by omega); omega
  have ea : (v1 + q * v2) * a2 + v2 * (a1 - q * a2) = a := by rw [← h.ea]; grind
  have eb : (u1 + q * u2) * a2 + u2 * (a1 - q * a2) = b := by rw [← h.eb]; grind
  have n1 : 0 ≤ v2 * (a1 - q * a2) := Int.mul_nonneg (by have := h.hv2; omega) hr0
  have n2 : 0 ≤ u2 * (a1 - q * a2) := Int.mul_nonneg h.hu2.1 hr0
  have hv : v1 + q * v2 ≤ a := by
    have := Int.mul_le_mul_of_nonneg_left ha2 (show 0 ≤ v1 + q * v2 by have := h.hv1; omega)
    omega
  have hu : u1 + q * u2 ≤ b := by
    have := Int.mul_le_mul_of_nonneg_left ha2 (show 0 ≤ u1 + q * u2 by have := h.hu1; omega)
    omega
  have huv : u1 + q * u2 ≤ v1 + q * v2 := by
    rcases h.huv1 with ⟨e1, e2, e3, _, _⟩ | e
    · subst e1; subst e2; subst e3; omega
    · have := Int.mul_le_mul_of_nonneg_left h.huv2 (show 0 ≤ q by omega); omega
  have hsq : sgn even * sgn even = 1 := by cases even <;> rfl
  refine ⟨⟨⟨hr0, by omega⟩, h.hu1, h.hu2, ⟨by have := h.hu1; omega, by omega⟩, h.hv1, ⟨by have := h.hv2; omega, h.hv2.2⟩, ⟨by have := h.hv1; omega, by omega⟩, huv, Or.inr h.huv2, ea, eb, ?_, ?_, ?_, ?_, ?_⟩, by omega, by omega⟩
  · rw [sgn_not]; have := h.e2; grind
  · rw [sgn_not]; have := h.e1; have := h.e2; grind
  · rw [sgn_not]
    have E1 : -sgn even * (u2 * A - v2 * B) = sgn even * (v2 * B - u2 * A) := by grind
    have E2 : -sgn even * ((v1 + q * v2) * B - (u1 + q * u2) * A) = sgn even * (u1 * A - v1 * B) - q * (sgn even * (v2 * B - u2 * A)) := by grind
    rw [E1, E2, gcd_step, h.g]
  · rw [sgn_not]
    have E1 : -sgn even * (u2 * A - v2 * B) = sgn even * (v2 * B - u2 * A) := by grind
    rw [E1]
    rcases h.small with ⟨e1, e2⟩ | e
    · right
      rcases h.huv1 with ⟨_, _, e3, e4, _⟩ | e3
      · subst e3; subst e4
        have : v2 = 1 ∨ 1 < v2 := by have := h.hv2; omega
        rcases this with e5 | e5
        · subst e5; simp [sgn]
        · exfalso
          have hea := h.ea; rw [e2] at hea
          have heb := h.eb; rw [e1] at heb
          have he1 := h.e1; rw [e1, e2] at he1
          simp [sgn] at he1
          subst he1
          have hh := Int.mul_le_mul_of_nonneg_right (show 2 ≤ v2 by omega) (show 0 ≤ a1 by have := h.ha1; omega)
          have := h.ha1
          omega
      · omega
    · right; omega
  · rw [sgn_not]
    have E1 : -sgn even * (u2 * A - v2 * B) = sgn even * (v2 * B - u2 * A) := by grind
    have E3 : - -sgn even * (u1 * A - v1 * B) = sgn even * (u1 * A - v1 * B) := by grind
    rw [E1, E3]
    by_cases hv : v1 = 0
    · exact Or.inl hv
    · refine Or.inr ⟨hc.1, hc.2, ?_, h.g⟩
      rcases h.small with ⟨_, e⟩ | e
      · exact absurd e hv
      · exact e
theorem LInv.done {A B a b : Int} {a1 a2 u0 u1 u2 v0 v1 v2 : Int} {even : Bool} (h : LInv A B a b a1 a2 u0 u1 u2 v0 v1 v2 even) (hv : v0 ≠ 0) :
    0 ≤ sgn even * (u1 * A - v1 * B) ∧ sgn even * (u1 * A - v1 * B) < -sgn even * (u0 * A - v0 * B) ∧ -sgn even * (u0 * A - v0 * B) ≤ B ∧
    Int.gcd (-sgn even * (u0 * A - v0 * B)) (sgn even * (u1 * A - v1 * B)) = Int.gcd A B := by
  rcases h.prev with e | e
  · exact absurd e hv
  · exact e
end Go.Proofs.YtmgfajamanakcaaGreatDoor
