/- Part of the proof of FnParse: what the functions that it reaches do, as contracts. Conditions: those that each theorem names. -/
import Derived.Test.YtmgfajamanakcaaGreatDoorR35
import Derived.Test.YtmgfajamanakcaaGreatDoorR13
import Derived.Test.YtmgfajamanakcaaGreatDoorR16
import Derived.Test.YtmgfajamanakcaaGreatDoorR52
import Derived.Deep.DeepCutAuto
import Derived.Deep.CutBlock
namespace Go.Proofs.YtmgfajamanakcaaGreatDoor.Si
set_option linter.unusedVariables false
set_option linter.unusedSimpArgs false
open Go Go.RowKit
set_option maxRecDepth 100000
def DivPost (w : World) (V1 V2 : Int) (e : Ending) (w' : World) : Prop :=
  ∃ b m d b2 m2 d2, e = .returned (.tuple #[.slice b m d, .slice b2 m2 d2]) ∧ NatV w' b m d (V1 / V2) ∧ NatV w' b2 m2 d2 (V1 % V2) ∧ Chg zNone w w'
def DvRel (w : World) (V1 V2 : Int) (gk : Nat) (s0 s8 s9 : Value) (wc : World) : Prop :=
  ∃ a n c q m d z R Q, s0 = .slice a n c ∧ s8 = .slice q m d ∧ s9 = .int .i64 z ∧ -268435456 ≤ z ∧ z < 268435456 ∧ Hid ((0 ≤ z ∧ gk = z.toNat + 1) ∨ (z < 0 ∧ gk = 0)) ∧ Hid (NatV wc a n c R ∧ NatV wc q m d Q ∧ V1 = Q * V2 + R ∧ R < 2 ^ gk * V2 ∧ Chg zNone w wc)
theorem nat_lt {w : World} {a : Option Addr} {n c : Nat} {V : Int} (h : NatV w a n c V) : V < SB ^ n := by
  obtain ⟨_, _, A, _, f1, _, rfl⟩ := h
  exact vs_lt f1
set_option maxHeartbeats 8000000 in
theorem divmod_any (a1 a2 : Option Addr) (n1 c1 n2 c2 : Nat) (V1 V2 : Int) (w : World) (h1 : NatV w a1 n1 c1 V1) (h2 : NatV w a2 n2 c2 V2) (hV2 : 0 < V2) (hn1 : n1 < 16384) (hn2 : n2 < 16384) :
    Calls Tryz.prog 56 #[.slice a1 n1 c1, .slice a2 n2 c2] w (DivPost w V1 V2) := by
  by_cases h21 : n2 = 1
  · subst h21
    have d0 : (((1 : Nat) : Int) == 1) = true := rfl
    obtain ⟨l2, z2, B, r2, f2, t2, hB⟩ := h2
    obtain ⟨b, o, rfl, hcell⟩ := r2.at (show 0 < 1 by omega)
    have hx := f2 0 (by omega)
    rw [vs_one] at hB
    rw [hB] at hcell hx
    obtain ⟨hx0, hx1⟩ := hx
    rw [Nat.add_zero] at hcell
    have HD := Lib.hid (byDigit_any a1 n1 c1 V1 V2 w h1 (by omega) (by omega) (by omega))
    have hr0 := Int.emod_nonneg V1 (show V2 ≠ 0 by omega)
    have hr1 := Int.emod_lt_of_pos V1 hV2
    clear h1 r2 f2 t2 z2 hB
    go_enter Tryz.func56, Tryz.ntmps56
    go_wp2_with fail
    refine HD.out.mono ?_
    rintro e w1 ⟨q, m, d, rfl, g1, g2⟩
    obtain ⟨k, hk⟩ : ∃ k : Nat, V1 % V2 = (k : Int) := ⟨(V1 % V2).toNat, by omega⟩
    have HS : Hid (Calls Tryz.prog 21 #[.int .i64 (V1 % V2)] w1 (NRes w1 (V1 % V2))) := by rw [hk]; exact small_any k w1 (by omega)
    have HG := Lib.hid (And.intro g1 g2)
    clear g1 g2 hk hcell
    go_wp2_with fail
    refine HS.out.mono ?_
    rintro e w2 ⟨q2, m2, d2, rfl, g1, g2⟩
    have H2 := Lib.hid (And.intro g1 g2)
    clear g1 g2
    go_wp2
    go_ret2
    exact ⟨q, m, d, q2, m2, d2, rfl, HG.out.1.far H2.out.2, H2.out.1, HG.out.2.trans H2.out.2 (fun _ _ _ h => h)⟩
  · have d0 : ((n2 : Int) == 1) = false := by simp; omega
    have kal : Chg zNone w (w.alloc (.cells #[] 3)) := (Chg.refl _ _).alloc _
    have HE : Hid (NatV (w.alloc (.cells #[] 3)) (some ⟨w.heap.size, 0, none⟩) 0 0 0) :=
      ⟨Nat.le_refl _, Or.inr ⟨_, _, rfl, PB.new w _ _, fun i hi => by omega, by omega⟩, fun _ => 0, Or.inl rfl, fun i hi => by omega, Or.inl rfl, rfl⟩
    have HL1 := Lib.hid (len_any a1 n1 c1 V1 _ (h1.far kal) (by omega))
    have HL2 := Lib.hid (len_any a2 n2 c2 V2 _ (h2.far kal) (by omega))
    have H := Lib.hid (And.intro (h1.far kal) (And.intro (h2.far kal) kal))
    have HW := Lib.hid h2
    have HB := Lib.hid hV2
    have HV1 := Lib.hid (And.intro h1.nonneg (nat_lt h1))
    clear h1 h2 hV2 kal
    go_enter Tryz.func56, Tryz.ntmps56
    go_wp2_with fail
    refine HL1.out.mono ?_
    rintro e w1 ⟨L1, rfl, p1, p2, rfl⟩
    go_wp2_with fail
    refine HL2.out.mono ?_
    rintro e w1 ⟨L2, rfl, p3, p4, rfl⟩
    have HP := Lib.hid (And.intro p2 p4)
    clear p2 p4
    go_wp2_with fail
    go_loopg [0, 8, 9, 10] (((L1 : Int) - (L2 : Int)) + 1).toNat (fun gk s0 s8 s9 s10 wc => DvRel w V1 V2 gk s0 s8 s9 wc)
    case atStart =>
      refine ⟨a1, n1, c1, _, 0, 0, _, V1, 0, rfl, rfl, rfl, by omega, by omega, ?_, H.out.1, HE.out, by omega, ?_, H.out.2.2⟩
      · by_cases hz : (L2 : Int) ≤ (L1 : Int)
        · exact Or.inl ⟨by omega, by omega⟩
        · exact Or.inr ⟨by omega, by omega⟩
      · obtain ⟨p2, p4⟩ := HP.out
        have hV2 := HB.out
        have hV0 := HV1.out.1
        obtain ⟨b1, b2, b3⟩ : 1 ≤ L2 ∧ 2 ^ (L2 - 1) ≤ V2 ∧ V2 < 2 ^ L2 := by
          rcases p4 with h | h
          · omega
          · exact h
        have hpp : (0 : Int) < 2 ^ (((L1 : Int) - (L2 : Int)) + 1).toNat := Int.pow_pos (by decide)
        rcases p2 with ⟨c1', _⟩ | ⟨c1', c2', c3'⟩
        · rw [c1']
          exact Int.mul_pos hpp hV2
        · have h3 := Int.mul_le_mul_of_nonneg_left b2 (Int.le_of_lt hpp)
          rw [← Int.pow_add] at h3
          have h4 := ipow_le (b := 2) (by decide) (show L1 ≤ (((L1 : Int) - (L2 : Int)) + 1).toNat + (L2 - 1) by omega)
          omega
    case round =>
      obtain ⟨a, n, c, q, m, d, z, R, Q, rfl, rfl, rfl, hz0, hz1, HZ, HR⟩ := hrel
      have hV2 := HB.out
      have hR0 := HR.out.1.nonneg
      have hQ0 := HR.out.2.1.nonneg
      have heq := HR.out.2.2.1
      have hQV : Q ≤ V1 := by
        have := Int.mul_le_mul_of_nonneg_left (show 1 ≤ V2 by omega) hQ0
        omega
      have hRV : R ≤ V1 := by
        have := Int.mul_nonneg hQ0 (Int.le_of_lt hV2)
        omega
      have hnR : n ≤ n1 := HR.out.1.len (Int.lt_of_le_of_lt hRV HV1.out.2)
      have hmQ : m ≤ n1 := HR.out.2.1.len (Int.lt_of_le_of_lt hQV HV1.out.2)
      have HEQ := Lib.hid (And.intro hV2 (And.intro hR0 (And.intro hQ0 heq)))
      clear hV2 hR0 hQ0 heq hQV hRV
      by_cases hneg : z < 0
      · have d1 : decide ((0 : Int) ≤ z) = false := decide_eq_false (by omega)
        have HG : Hid (gk = 0) := by
          rcases HZ.out with h | h
          · omega
          · exact h.2
        clear hneg
        go_wp2
        go_ret2
        obtain ⟨r1, r2, r3, r4, r5⟩ := HR.out
        rw [HG.out, Int.pow_zero, Int.one_mul] at r4
        obtain ⟨e1, e2, e3, e4⟩ := HEQ.out
        have hq : V1 / V2 = Q := by
          rw [e4, Int.add_comm, Int.add_mul_ediv_right _ _ (by omega), Int.ediv_eq_zero_of_lt e2 r4, Int.zero_add]
        have hr : V1 % V2 = R := by
          rw [e4, Int.add_comm, Int.add_mul_emod_self_right, Int.emod_eq_of_lt e2 r4]
        refine ⟨q, m, d, a, n, c, rfl, ?_, ?_, r5⟩
        · rw [hq]; exact r2
        · rw [hr]; exact r1
      · have d1 : decide ((0 : Int) ≤ z) = true := decide_eq_true (by omega)
        obtain ⟨i, hi⟩ : ∃ i : Nat, z = (i : Int) := ⟨z.toNat, by omega⟩
        subst hi
        have HG : Hid (gk = i + 1) := by
          show gk = i + 1
          rcases HZ.out with h | h
          · have := h.2; omega
          · omega
        have hib : i < 268435456 := by omega
        have HS := Lib.hid (shl_any a2 n2 c2 i V2 wr (HW.out.far HR.out.2.2.2.2) (by omega) hib)
        go_wp2_with fail
        refine HS.out.mono ?_
        rintro e w2 ⟨b3, n3, c3, rfl, g1, g2⟩
        have hp : (0 : Int) < 2 ^ i := Int.pow_pos (by decide)
        have hSi : (2 : Int) ^ i ≤ SB ^ i := by
          rw [SB_pow]; exact ipow_le (by decide) (by omega)
        have hn3 : n3 ≤ n2 + i := g1.len (by
          rw [Int.pow_add]
          have h1 := nat_lt HW.out
          have h2 := Int.mul_lt_mul_of_pos_right h1 hp
          have h3 := Int.mul_le_mul_of_nonneg_left hSi (Int.le_of_lt (SBn_pos n2))
          omega)
        have HC := Lib.hid (cmp_any b3 a n3 c3 n c _ R w2 g1 (HR.out.1.far g2) (by omega) (by omega))
        have H2 := Lib.hid (And.intro g1 g2)
        have HPp := Lib.hid (And.intro hp hSi)
        clear g1 g2 hp hSi
        go_wp2_with fail
        refine HC.out.mono ?_
        rintro e w3 ⟨rfl, N, rfl⟩
        have kN : Chg zNone wr (w2.drewN N) := H2.out.2.drewN N
        have hd := H2.out.1.far ((Chg.refl zNone w2).drewN N)
        have ha := HR.out.1.far kN
        have hqq := HR.out.2.1.far kN
        by_cases hle : V2 * 2 ^ i ≤ R
        · have hcv : decide (cmpV (V2 * 2 ^ i) R ≤ 0) = true := by
            apply decide_eq_true
            unfold cmpV
            split
            · omega
            · rw [if_neg (by omega)]; omega
          have HSb := Lib.hid (sub_any a b3 n c n3 c3 R _ (w2.drewN N) ha hd hle (by omega) (by omega))
          have HQ3 := Lib.hid (And.intro hqq kN)
          have HLE := Lib.hid hle
          clear hle ha hd hqq kN
          go_wp2_with fail
          refine HSb.out.mono ?_
          rintro e w4 ⟨a4, n4, c4, rfl, g1, g2⟩
          have H4 := Lib.hid (And.intro g1 g2)
          have HBt := Lib.hid (bit_any i w4 (by omega))
          clear g1 g2
          go_wp2_with fail
          refine HBt.out.mono ?_
          rintro e w5 ⟨a5, n5, c5, rfl, g1, g2⟩
          have hn5 : n5 ≤ i + 1 := g1.len (by
            have h1 := HPp.out.2
            have h2 := SBn_pos i
            rw [SB_succ]
            have : SB ^ i * SB = 65536 * SB ^ i := by unfold SB; rw [Int.mul_comm]
            omega)
          have HAd := Lib.hid (add_any q a5 m d n5 c5 Q _ w5 (HQ3.out.1.far (H4.out.2.trans g2 (fun _ _ _ h => h))) g1 (by omega) (by omega))
          have H5 := Lib.hid (And.intro (H4.out.1.far g2) (((HQ3.out.2.trans H4.out.2 (fun _ _ _ h => h)).trans g2 (fun _ _ _ h => h))))
          clear g1 g2
          go_wp2_with fail
          refine HAd.out.mono ?_
          rintro e w6 ⟨a6, n6, c6, rfl, g1, g2⟩
          have H6 := Lib.hid (And.intro g1 g2)
          clear g1 g2
          go_wp2
          go_roundg (gk - 1)
          case measure => have := HG.out; omega
          case rel =>
            obtain ⟨r1, r2, r3, r4, r5⟩ := HR.out
            have hg := HG.out
            refine ⟨a4, n4, c4, a6, n6, c6, (i : Int) - 1, R - V2 * 2 ^ i, Q + 2 ^ i, rfl, rfl, by go_num, by omega, by omega, ?_, H5.out.1.far H6.out.2, H6.out.1, ?_, ?_, (r5.trans H5.out.2 (fun _ _ _ h => h)).trans H6.out.2 (fun _ _ _ h => h)⟩
            · show (0 ≤ (i : Int) - 1 ∧ gk - 1 = ((i : Int) - 1).toNat + 1) ∨ ((i : Int) - 1 < 0 ∧ gk - 1 = 0)
              omega
            · rw [Int.add_mul, Int.mul_comm (2 ^ i) V2]; omega
            · rw [hg, Nat.add_sub_cancel]
              rw [hg, Int.pow_succ, Int.mul_assoc, Int.mul_comm 2 V2, ← Int.mul_assoc] at r4
              rw [Int.mul_comm V2]
              omega
        · have hcv : decide (cmpV (V2 * 2 ^ i) R ≤ 0) = false := by
            apply decide_eq_false
            unfold cmpV
            rw [if_neg (by omega), if_pos (by omega)]
            omega
          have HQ3 := Lib.hid (And.intro ha (And.intro hqq kN))
          have HLE := Lib.hid hle
          clear hle ha hd hqq kN
          go_wp2
          go_roundg (gk - 1)
          case measure => have := HG.out; omega
          case rel =>
            obtain ⟨r1, r2, r3, r4, r5⟩ := HR.out
            have hg := HG.out
            refine ⟨a, n, c, q, m, d, (i : Int) - 1, R, Q, rfl, rfl, by go_num, by omega, by omega, ?_, HQ3.out.1, HQ3.out.2.1, r3, ?_, r5.trans HQ3.out.2.2 (fun _ _ _ h => h)⟩
            · show (0 ≤ (i : Int) - 1 ∧ gk - 1 = ((i : Int) - 1).toNat + 1) ∨ ((i : Int) - 1 < 0 ∧ gk - 1 = 0)
              omega
            · rw [hg, Nat.add_sub_cancel, Int.mul_comm]
              have := HLE.out
              omega
end Go.Proofs.YtmgfajamanakcaaGreatDoor.Si
namespace Go.Proofs.YtmgfajamanakcaaGreatDoor.Si
set_option linter.unusedVariables false
set_option linter.unusedSimpArgs false
def SRnd (neg : Bool) (N D : Int) (P : Nat) (md q k acc : Int) : Prop := ∃ m t, Rounded neg N D P md m t acc ∧ DyEq q k m t
theorem srnd_cut {neg : Bool} {V md : Int} {L P : Nat} (hP : 1 ≤ P) (hL : P < L) (h1 : 2 ^ (L - 1) ≤ V) (h2 : V < 2 ^ L) : SRnd neg V 1 P md (rm neg V L P md false) ((L - P : Nat) : Int) (racc neg V L P md false) :=
  ⟨_, _, rounded_of (D := 1) (N := V) (by decide) (Int.ediv_one V).symm (by simp) hP hL h1 h2, DyEq.refl⟩
theorem srnd_low {neg : Bool} {V md : Int} {L P : Nat} (hP : 1 ≤ P) (hL1 : 1 ≤ L) (hL : L ≤ P) (h1 : 2 ^ (L - 1) ≤ V) (h2 : V < 2 ^ L) : SRnd neg V 1 P md V 0 0 :=
  ⟨_, _, rounded_exact hP hL h1 h2 hL1, P - L, 0, by omega, by simp⟩
theorem lftS_sticky {r H : Int} (hr : 0 ≤ r) (s : Bool) : lftS (2 * r + (if s then 1 else 0)) (2 * H) false = lftS r H s := by
  unfold lftS
  cases s with
  | true =>
    have e1 : (2 * r + 1 = 0) = False := eq_false (by omega)
    have e2 : (2 * r + 1 < 2 * H) ↔ r < H := by omega
    have e3 : (2 * r + 1 = 2 * H) = False := eq_false (by omega)
    simp [e1, e2, e3]
  | false =>
    simp only [Bool.false_eq_true, if_false, Int.add_zero]
    have e1 : (2 * r = 0) ↔ (r = 0) := by omega
    have e2 : (2 * r < 2 * H) ↔ r < H := by omega
    have e3 : (2 * r = 2 * H) ↔ (r = H) := by omega
    simp only [e1, e2, e3]
theorem sticky_digits {M Q : Int} {sb : Bool} {j : Nat} (hQ : Q = 2 * M + (if sb then 1 else 0)) : Q / 2 ^ (j + 1) = M / 2 ^ j ∧ Q % 2 ^ (j + 1) = 2 * (M % 2 ^ j) + (if sb then 1 else 0) := by
  have hp : (0 : Int) < 2 ^ j := Int.pow_pos (by decide)
  have e := Int.emod_add_mul_ediv M (2 ^ j)
  have r0 := Int.emod_nonneg M (show (2 : Int) ^ j ≠ 0 by omega)
  have r1 := Int.emod_lt_of_pos M hp
  have hs : (0 : Int) ≤ (if sb then 1 else 0) ∧ (if sb then 1 else 0 : Int) ≤ 1 := by cases sb <;> simp
  have hp1 : (2 : Int) ^ (j + 1) = 2 * 2 ^ j := by rw [Int.pow_succ]; omega
  generalize (if sb = true then (1 : Int) else 0) = s at *
  have e2 : Q = (2 * (M % 2 ^ j) + s) + 2 ^ (j + 1) * (M / 2 ^ j) := by
    rw [hp1, hQ, Int.mul_assoc]; omega
  constructor
  · rw [e2, Int.add_mul_ediv_left _ _ (by omega), Int.ediv_eq_zero_of_lt (by omega) (by omega), Int.zero_add]
  · rw [e2, Int.add_mul_emod_self_left, Int.emod_eq_of_lt (by omega) (by omega)]
theorem ahead_round {neg : Bool} {N D M Q md q k acc : Int} {L P : Nat} {sb : Bool} (hD : 0 < D) (hM : M = N / D) (hsb : sb = true ↔ N % D ≠ 0) (hQ : Q = 2 * M + (if sb then 1 else 0)) (hP : 1 ≤ P) (hL : P + 1 < L) (h1 : 2 ^ (L - 1) ≤ Q) (h2 : Q < 2 ^ L)
    (h : SRnd neg Q 1 P md q k acc) : SRnd neg N D P md q (k - 1) acc := by
  obtain ⟨m, t, hR, hE⟩ := h
  have hQ1 := rounded_of (neg := neg) (md := md) (N := Q) (D := 1) (sb := false) (by decide) (Int.ediv_one Q).symm (by simp) hP (show P < L by omega) h1 h2
  obtain ⟨rfl, rfl, rfl⟩ := hR.unique (by decide) hP hQ1
  obtain ⟨j, hj⟩ : ∃ j, L - P = j + 1 + 1 := ⟨L - P - 2, by omega⟩
  obtain ⟨d1, d2⟩ := sticky_digits (j := j + 1) hQ
  obtain ⟨g1, g2⟩ := sticky_digits (j := L - 1 - 1) hQ
  have hs : (0 : Int) ≤ (if sb then 1 else 0) ∧ (if sb then 1 else 0 : Int) ≤ 1 := by cases sb <;> simp
  have m1 : 2 ^ (L - 1 - 1) ≤ M := by
    have : (2 : Int) ^ (L - 1) = 2 * 2 ^ (L - 1 - 1) := by rw [show L - 1 = (L - 1 - 1) + 1 by omega, Int.pow_succ, Nat.add_sub_cancel]; omega
    omega
  have m2 : M < 2 ^ (L - 1) := by
    have : (2 : Int) ^ L = 2 * 2 ^ (L - 1) := by
      obtain ⟨i, rfl⟩ : ∃ i, L = i + 1 := ⟨L - 1, by omega⟩
      rw [Nat.add_sub_cancel, Int.pow_succ]; omega
    omega
  have hN := rounded_of (neg := neg) (md := md) hD hM hsb hP (show P < L - 1 by omega) m1 m2
  have hq : rq Q L P = rq M (L - 1) P := by
    unfold rq
    rw [hj, d1, show L - 1 - P = j + 1 by omega]
  have hl : rl Q L P false = rl M (L - 1) P sb := by
    unfold rl
    rw [hj, d2, show L - 1 - P = j + 1 by omega, Nat.add_sub_cancel, Nat.add_sub_cancel, show (2 : Int) ^ (j + 1) = 2 * 2 ^ j by rw [Int.pow_succ]; omega]
    exact lftS_sticky (Int.emod_nonneg _ (by have : (0 : Int) < 2 ^ j := Int.pow_pos (by decide); omega)) sb
  have hi : rinc neg Q L P md false = rinc neg M (L - 1) P md sb := by unfold rinc; rw [hq, hl]
  refine ⟨rm neg M (L - 1) P md sb, ((L - 1 - P : Nat) : Int), ?_, ?_⟩
  · rw [show racc neg Q L P md false = racc neg M (L - 1) P md sb by unfold racc; rw [hi, hl]]
    exact hN
  · rw [show rm neg M (L - 1) P md sb = rm neg Q L P md false by unfold rm; rw [hi, hq]]
    obtain ⟨a, b, e1, e2⟩ := hE
    exact ⟨a, b, by omega, e2⟩
theorem SRnd.shift {neg : Bool} {N D md q k acc : Int} {P c d : Nat} (h : SRnd neg (N * 2 ^ c) (D * 2 ^ d) P md q k acc) : SRnd neg N D P md q (k + d - c) acc := by
  obtain ⟨m, t, h1, a, b, e1, e2⟩ := h
  exact ⟨m, _, h1.unshift, a, b, by omega, e2⟩
theorem dy_low {A B e f : Int} {t u : Nat} (h : DyEq A e B f) (h1 : LowZ A t) (h2 : LowZ B u) : A / 2 ^ t = B / 2 ^ u ∧ e + t = f + u := by
  obtain ⟨a, b, e1, e2⟩ := h
  obtain ⟨x, hx⟩ := h1
  obtain ⟨y, hy⟩ := h2
  have l1 : LowZ (A * 2 ^ a) (t + a) := ⟨x, by rw [hx, Int.pow_add, Int.mul_assoc, Int.mul_comm _ (2 ^ a), ← Int.mul_assoc]⟩
  have l2 : LowZ (B * 2 ^ b) (u + b) := ⟨y, by rw [hy, Int.pow_add, Int.mul_assoc, Int.mul_comm _ (2 ^ b), ← Int.mul_assoc]⟩
  have ht := l1.unique (e2 ▸ l2)
  refine ⟨?_, by omega⟩
  have hp1 : (0 : Int) < 2 ^ t := Int.pow_pos (by decide)
  have hp2 : (0 : Int) < 2 ^ u := Int.pow_pos (by decide)
  have hp3 : (0 : Int) < 2 ^ (t + a) := Int.pow_pos (by decide)
  have hxy : 2 ^ (t + a) * (2 * x + 1) = 2 ^ (t + a) * (2 * y + 1) := by
    have a1 : A * 2 ^ a = 2 ^ (t + a) * (2 * x + 1) := by rw [hx, Int.pow_add, Int.mul_assoc, Int.mul_comm _ (2 ^ a), ← Int.mul_assoc]
    have a2 : B * 2 ^ b = 2 ^ (t + a) * (2 * y + 1) := by rw [hy, ht, Int.pow_add, Int.mul_assoc, Int.mul_comm _ (2 ^ b), ← Int.mul_assoc]
    rw [← a1, ← a2, e2]
  have := Int.eq_of_mul_eq_mul_left (show (2 : Int) ^ (t + a) ≠ 0 by omega) hxy
  rw [hx, hy, Int.mul_ediv_cancel_left _ (by omega), Int.mul_ediv_cancel_left _ (by omega)]
  exact this
end Go.Proofs.YtmgfajamanakcaaGreatDoor.Si
namespace Go.Proofs.YtmgfajamanakcaaGreatDoor
set_option linter.unusedVariables false
set_option linter.unusedSimpArgs false
open Go Go.RowKit
set_option maxRecDepth 100000
theorem or_low {a x : Int} {r : Nat} (hr : r < 4) (ha : 0 ≤ a ∧ a < 2 ^ (16 * r)) (hx : 0 ≤ x ∧ x < 65536) : bits BinOp.or IntKind.u64 a (IntKind.u64.wrap (x * 2 ^ (16 * r))) = a + x * 2 ^ (16 * r) ∧ a + x * 2 ^ (16 * r) < 2 ^ (16 * (r + 1)) := by
  obtain ⟨m, rfl⟩ : ∃ m : Nat, a = (m : Int) := ⟨a.toNat, by omega⟩; obtain ⟨k, rfl⟩ : ∃ k : Nat, x = (k : Int) := ⟨x.toNat, by omega⟩; have hk : k < 65536 := by omega
  obtain rfl | hr0 : r = 0 ∨ 0 < r := by omega
  · have hm : m = 0 := by have := ha.2; simp at this; omega
    subst hm; have hw : IntKind.u64.wrap ((k : Int) * 2 ^ (16 * 0)) = k := by rw [IntKind.wrap_u64]; simp; omega
    rw [hw]; refine ⟨?_, by simp; omega⟩; have h1 : (BitVec.ofInt 64 ((0 : Nat) : Int)).toNat = 0 := by decide
    have h2 : (BitVec.ofInt 64 (k : Int)).toNat = k := by rw [BitVec.toNat_ofInt]; omega
    show IntKind.u64.wrap ((BitVec.ofInt 64 ((0 : Nat) : Int) ||| BitVec.ofInt 64 (k : Int)).toNat : Int) = _
    rw [BitVec.toNat_or, h1, h2, Nat.zero_or, IntKind.wrap_u64]
    simp; omega
  · have h16 : 16 * r = 64 - (64 - 16 * r) := by omega
    have hs : 64 - 16 * r < 64 := by omega
    have hb : k < 2 ^ (64 - 16 * r) := by
      obtain rfl | rfl | rfl : r = 1 ∨ r = 2 ∨ r = 3 := by omega
      all_goals (simp; omega)
    have ha' : m < 2 ^ (64 - (64 - 16 * r)) := by
      rw [← h16]; have := ha.2; have e : ((2 ^ (16 * r) : Nat) : Int) = 2 ^ (16 * r) := by push_cast; rfl
      omega
    have e := or_nat m k (64 - 16 * r) ha' hs hb; have hw := wrap_shl k (64 - 16 * r) hs; rw [← h16] at hw e; rw [Nat.mod_eq_of_lt hb] at hw; rw [hw, e]; refine ⟨by push_cast; rfl, ?_⟩; have e1 : (2 : Int) ^ (16 * (r + 1)) = 2 ^ (16 * r) * 65536 := by rw [show 16 * (r + 1) = 16 * r + 16 by omega, Int.pow_add]; rfl
    have hp : (0 : Int) < 2 ^ (16 * r) := Int.pow_pos (by decide); rw [e1]; have := Int.mul_le_mul_of_nonneg_right (show (k : Int) ≤ 65535 by omega) (Int.le_of_lt hp); have := ha.2
    push_cast
    omega
theorem run_shl64 (x : Int) (s : Nat) (w : World) (hs : s < 64) : (Op.shift BinOp.shl IntKind.u64 x IntKind.i64 (s : Int)).run Tryz.prog w = .ok (.int .u64 (IntKind.u64.wrap (x * 2 ^ s))) w := by
  unfold Op.shift; rw [if_neg (by omega)]
  have e : min (s : Int).toNat IntKind.u64.bits = s := by
    show min (s : Int).toNat 64 = s
    omega
  simp only [e]; rfl
structure WIn (A : Nat → Int) (i m : Nat) (W : Nat → Int) : Prop where
  hm : m = (i + 3) / 4
  wf : WF W m
  vl : val W m = vs A i
theorem SB_four (k : Nat) : SB ^ (4 * k) = BB ^ k := by
  rw [Int.pow_mul]; rfl
theorem WIn.top {A : Nat → Int} {i m : Nat} {W : Nat → Int} (h : WIn A i m W) (hA : DF A i) (hr : i % 4 ≠ 0) : m = i / 4 + 1 ∧ 0 ≤ W (i / 4) ∧ W (i / 4) < 2 ^ (16 * (i % 4)) := by
  obtain ⟨h1, h2, h3⟩ := h; have hm : m = i / 4 + 1 := by omega
  subst hm; refine ⟨rfl, (h2 (i / 4) (by omega)).1, ?_⟩; have e : val W (i / 4 + 1) = val W (i / 4) + BB ^ (i / 4) * W (i / 4) := by rw [val_add, val_one]; rfl
  have hv := vs_lt hA; have h0 := val_nonneg (h2.le (show i / 4 ≤ i / 4 + 1 by omega)); have hb := BBn_pos (i / 4)
  have e2 : SB ^ i = BB ^ (i / 4) * 2 ^ (16 * (i % 4)) := by
    rw [← SB_four, ← Si.SB_pow, ← Int.pow_add]
    congr 1
    omega
  rcases Int.lt_or_le (W (i / 4)) (2 ^ (16 * (i % 4))) with g | g
  · exact g
  · exfalso
    have := Int.mul_le_mul_of_nonneg_left g (Int.le_of_lt hb); rw [← e2] at this; omega
theorem WIn.zero {A : Nat → Int} {i m : Nat} {W : Nat → Int} (h : WIn A i m W) (hr : i % 4 = 0) : m = i / 4 ∧ WF (upd W m 0) (m + 1) ∧ val (upd W m 0) (m + 1) = vs A i := by
  obtain ⟨h1, h2, h3⟩ := h; have hm : m = i / 4 := by omega
  refine ⟨hm, ?_, ?_⟩
  · intro j hj
    by_cases hjm : j = m
    · subst hjm; rw [upd_same]; exact ⟨by omega, by omega⟩
    · rw [upd_other _ _ hjm]; exact h2 j (by omega)
  · rw [val_add, val_one, val_congr (X := upd W m 0) (Y := W) (fun j hj => upd_other _ _ (by omega)), h3]
    show vs A i + BB ^ m * upd W m 0 m = _
    rw [upd_same]; omega
theorem WIn.put {A : Nat → Int} {i : Nat} {W : Nat → Int} {y : Int} (hw : WF W (i / 4 + 1)) (hv : val W (i / 4 + 1) = vs A i) (hy : y = W (i / 4) + A i * 2 ^ (16 * (i % 4))) (hy1 : 0 ≤ y) (hy2 : y < 18446744073709551616) : WIn A (i + 1) (i / 4 + 1) (upd W (i / 4) y) := by
  refine ⟨by omega, ?_, ?_⟩
  · intro j hj
    by_cases hjm : j = i / 4
    · subst hjm; rw [upd_same]; exact ⟨hy1, hy2⟩
    · rw [upd_other _ _ hjm]; exact hw j hj
  · have e1 : val W (i / 4 + 1) = val W (i / 4) + BB ^ (i / 4) * W (i / 4) := by rw [val_add, val_one]; rfl
    have e2 : val (upd W (i / 4) y) (i / 4 + 1) = val W (i / 4) + BB ^ (i / 4) * y := by
      rw [val_add, val_one, val_congr (X := upd W (i / 4) y) (Y := W) (fun j hj => upd_other _ _ (by omega))]; show val W (i / 4) + BB ^ (i / 4) * upd W (i / 4) y (i / 4) = _
      rw [upd_same]
    have e3 : SB ^ i = BB ^ (i / 4) * 2 ^ (16 * (i % 4)) := by
      rw [← SB_four, ← Si.SB_pow, ← Int.pow_add]
      congr 1
      omega
    rw [e2, hy, Int.mul_add]; simp only [vs]; rw [← hv, e1, e3]
    generalize BB ^ (i / 4) = b
    generalize (2 : Int) ^ (16 * (i % 4)) = t
    rw [← Int.mul_assoc, Int.mul_comm b (A i), Int.mul_assoc]; omega
def WordsP (w : World) (V : Int) (e : Ending) (w' : World) : Prop :=
  ∃ b m d W, e = .returned (.slice b m d) ∧ m ≤ d ∧ Rd w' b m W ∧ WF W m ∧ Norm W m ∧ val W m = V ∧ m < 1048576 ∧ Chg zNone w w'
def SWRel (w : World) (A : Nat → Int) (n : Nat) (gk : Nat) (s3 s9 : Value) (wc : World) : Prop :=
  ∃ (i m : Nat) (a : Option Addr) (c : Nat) (W : Nat → Int), s3 = .slice a m c ∧ s9 = .int .i64 (i : Int) ∧ i + gk = n ∧ Hid (m ≤ c ∧ ZOK wc a c ∧ Fresh w a ∧ Rd wc a m W ∧ WIn A i m W ∧ Chg zNone w wc)
def SWMid (w : World) (A : Nat → Int) (i : Nat) (s3 : Value) (wc : World) : Prop :=
  ∃ (b o c : Nat) (W : Nat → Int), s3 = .slice (some ⟨b, o, none⟩) (i / 4 + 1) c ∧ Hid (i / 4 + 1 ≤ c ∧ ZOK wc (some ⟨b, o, none⟩) c ∧ w.heap.size ≤ b ∧ Words wc b o (i / 4 + 1) W ∧ WF W (i / 4 + 1) ∧ val W (i / 4 + 1) = vs A i ∧ W (i / 4) < 2 ^ (16 * (i % 4)) ∧ Chg zNone w wc)
theorem put_word {w wc : World} {A W2 : Nat → Int} {i j r s L b o c2 : Nat} {x y v : Int} (hL : i / 4 + 1 = L) (hj : i / 4 = j) (hr : i % 4 = r) (hx : A i = x) (hs : 16 * r = s) (hy : W2 (i / 4) = y) (hv : y + x * 2 ^ s = v) (hv0 : 0 ≤ v) (hv1 : v < 2 ^ (16 * (r + 1))) (hr4 : r < 4)
    (HM : i / 4 + 1 ≤ c2 ∧ ZOK wc (some ⟨b, o, none⟩) c2 ∧ w.heap.size ≤ b ∧ Words wc b o (i / 4 + 1) W2 ∧ WF W2 (i / 4 + 1) ∧ val W2 (i / 4 + 1) = vs A i ∧ W2 (i / 4) < 2 ^ (16 * (i % 4)) ∧ Chg zNone w wc) :
    Hid (L ≤ c2 ∧ ZOK (wc.drew.setCell ⟨b, o + j, none⟩ (.int .u64 v)) (some ⟨b, o, none⟩) c2 ∧ Fresh w (some ⟨b, o, none⟩) ∧ Rd (wc.drew.setCell ⟨b, o + j, none⟩ (.int .u64 v)) (some ⟨b, o, none⟩) L (upd W2 j v) ∧ WIn A (i + 1) L (upd W2 j v) ∧ Chg zNone w (wc.drew.setCell ⟨b, o + j, none⟩ (.int .u64 v))) := by
  subst hL; subst hj; subst hr; subst hx; subst hs; subst hy; obtain ⟨g1, g2, g3, g4, g5, g6, g7, g8⟩ := HM; have kd : Chg zNone wc wc.drew := (Chg.refl _ _).drew
  have hv2 : v < 18446744073709551616 := by
    have h1 : (2 : Int) ^ (16 * (i % 4 + 1)) ≤ 2 ^ 64 := ipow_le (by decide) (by omega); have h2 : (2 : Int) ^ 64 = 18446744073709551616 := by decide
    omega
  refine ⟨g1, ZOK.setInt (g2.chg kd (fun _ _ _ h => h)) _ _ _, Or.inr ⟨_, _, rfl, g3⟩, Or.inr ⟨b, o, rfl, fun q hq => ?_⟩, WIn.put g5 g6 hv.symm hv0 hv2, (g8.trans kd (fun _ _ _ h => h)).setCell b _ _ (fun hb => absurd hb (by omega))⟩
  by_cases hqj : q = i / 4
  · subst hqj
    rw [upd_same]; exact cs_same (kd.cell (g4 (i / 4) (by omega)) (fun h => h))
  · rw [upd_other _ _ hqj, cs_other (by omega)]
    exact kd.cell (g4 q hq) (fun h => h)
set_option maxHeartbeats 4000000 in
theorem words_any (a : Option Addr) (n c : Nat) (V : Int) (w : World) (h : Si.NatV w a n c V) (hn : n < 1048576) :
    Calls Tryz.prog 94 #[.slice a n c] w (WordsP w V) := by
  obtain ⟨l1, z1, A, r1, f1, t1, rfl⟩ := h; have HA := Lib.hid (And.intro r1 (And.intro f1 t1)); clear r1 f1 t1 z1
  go_enter Tryz.func94, Tryz.ntmps94
  go_wp2_with fail
  go_loopg [3, 4, 5, 9] n (fun gk s3 s4 s5 s9 wc => SWRel w A n gk s3 s9 wc)
  case atStart =>
    have kal : Chg zNone w (w.alloc (.cells #[] 22)) := (Chg.refl _ _).alloc _; refine ⟨0, 0, _, 0, fun _ => 0, rfl, rfl, by omega, Nat.le_refl _, Or.inr ⟨_, _, rfl, PB.new w _ _, fun i hi => by omega, by omega⟩, Or.inr ⟨_, _, rfl, Nat.le_refl _⟩, Or.inl rfl, ⟨rfl, fun i hi => by omega, by simp [val, vs]⟩, kal⟩
  case round =>
    obtain ⟨i, m, a', c', W, rfl, rfl, hk, H⟩ := hrel
    by_cases hi : i < n
    · have h1 : decide ((i : Int) < (n : Int)) = true := decide_eq_true (by omega)
      have h2 : (0 : Int) ≤ (i : Int) := by omega
      have h3 : (i : Int) < (n : Int) := by omega
      have e1 : (i : Int).tmod 4 = ((i % 4 : Nat) : Int) := by rw [Int.tmod_eq_emod_of_nonneg (by omega)]; omega
      have e2 : (i : Int).tdiv 4 = ((i / 4 : Nat) : Int) := by rw [Int.tdiv_eq_ediv_of_nonneg (by omega)]; omega
      obtain ⟨r, hr⟩ : ∃ r, i % 4 = r := ⟨_, rfl⟩; obtain ⟨j, hj⟩ : ∃ j, i / 4 = j := ⟨_, rfl⟩; rw [hr] at e1; rw [hj] at e2; have hr4 : r < 4 := by omega
      obtain ⟨bx, ox, rfl, hcell⟩ := (HA.out.1.chg H.out.2.2.2.2.2 (fun _ _ _ _ _ h => h)).at hi; have hx := HA.out.2.1 i hi; obtain ⟨x, hxx⟩ : ∃ x, A i = x := ⟨_, rfl⟩; rw [hxx] at hcell hx; obtain ⟨hx0, hx1⟩ := hx; have HX := Lib.hid (And.intro hr (And.intro hj hxx)); clear hr hj hxx; go_upto_if 16 with fail; go_cut [3] (fun s3 wc => SWMid w A i s3 wc)
      case first => as_aux_lemma =>
        by_cases h0 : r = 0
        · have d1 : (((r : Nat) : Int) == 0) = true := by simp [h0]
          have HZ := Lib.hid (H.out.2.2.2.2.1.zero (by rw [HX.out.1]; exact h0)); have kal : Chg zNone wr (wr.alloc (.cells #[.int .u64 0] 22)) := (Chg.refl _ _).alloc _
          have HXX := Lib.hid (show ZOK (wr.alloc (.cells #[.int .u64 0] 22)) a' c' ∧ Rd (wr.alloc (.cells #[.int .u64 0] 22)) a' m W ∧ (wr.alloc (.cells #[.int .u64 0] 22)).cell? ⟨wr.heap.size, 0, none⟩ = some (.int .u64 0) from
            ⟨H.out.2.1.chg kal (fun _ _ _ h => h), rd_far H.out.2.2.2.1 kal (fun _ _ _ _ _ h => h), cell?_alloc_new wr #[.int .u64 0] 22 0 (.int .u64 0) rfl⟩)
          have HK := Lib.hid (H.out.2.2.2.2.2.trans kal (fun _ _ _ h => h)); have x3 := H.out.1; have x4 : m < 1099511627776 := by have := HZ.out.1; have := HX.out.2.1; omega
          have H0 := Lib.hid h0; clear kal h0; go_wp2_with (refine wpList_append_uint rfl (.tmp 17) (.tmp 18) rfl a' m c' W _ _ rfl rfl HXX.out.1 HXX.out.2.1 x3 x4 HXX.out.2.2 ?_; rintro a2 c2 w2 h2; have H2 := Lib.hid h2; clear h2); go_meet; obtain ⟨g1, g2, g3, g4, g5⟩ := H2.out; obtain ⟨q1, q2, q3⟩ := HZ.out; subst q1
          rcases g3 with g3 | ⟨b2, o2, e, hw⟩
          · omega
          · subst e
            refine ⟨b2, o2, c2, _, rfl, g1, g2, ?_, hw, q2, q3, ?_, HK.out.trans g5 ?_⟩
            · rcases fresh_home H.out.2.2.1 g4 HK.out.size with e | ⟨b3, o3, e, hb⟩
              · cases e
              · injection e with e; injection e with e3 _; omega
            · rw [upd_same, HX.out.1, H0.out]; decide
            · rintro b' o' hb ⟨p, e, _⟩
              exact (fresh_far H.out.2.2.1 hb e rfl).elim
        · have d1 : (((r : Nat) : Int) == 0) = false := by simp; omega
          have HT := Lib.hid (H.out.2.2.2.2.1.top (fun q hq => HA.out.2.1 q (by omega)) (by rw [HX.out.1]; exact h0)); clear h0; go_wp2; go_meet; obtain ⟨q1, q2, q3⟩ := HT.out; subst q1; obtain ⟨g1, g2, g3, g4, g5, g6⟩ := H.out
          rcases g4 with g4 | ⟨b2, o2, e, hw⟩
          · omega
          · subst e
            refine ⟨b2, o2, c', W, rfl, g1, g2, ?_, hw, g5.wf, g5.vl, q3, g6⟩
            rcases g3 with e | ⟨b3, o3, e, hb⟩
            · cases e
            · injection e with e; injection e with e3 _; omega
      case rest => as_aux_lemma =>
        obtain ⟨b, o, c2, W2, rfl, HM⟩ := hcut; have hwf := HM.out.2.2.2.2.1 (i / 4) (by omega); have hlt := HM.out.2.2.2.2.2.2.1; have hcl := HM.out.2.2.2.1 (i / 4) (by omega); obtain ⟨y, hy⟩ : ∃ y, W2 (i / 4) = y := ⟨_, rfl⟩; rw [hy] at hwf hlt hcl; rw [HX.out.1] at hlt; have hor := or_low hr4 ⟨hwf.1, hlt⟩ ⟨hx0, hx1⟩; rw [HX.out.2.1] at hcl
        have hfr : wc.frozen? ⟨b, o + j, none⟩ = false := by
          obtain ⟨_, hz, _⟩ := HM.out
          rcases hz with ⟨e, _⟩ | ⟨b3, o3, e, _, hroom, _⟩
          · cases e
          · injection e with e; injection e with e3 e4; subst e3; subst e4
            exact (hroom j (by have := HX.out.2.1; omega)).2
        obtain ⟨s, hs⟩ : ∃ s, 16 * r = s := ⟨_, rfl⟩; have e3 : 16 * ((r : Nat) : Int) = (s : Int) := by omega
        have hs64 : s < 64 := by omega
        have s0 : ¬ ((s : Int) < 0) := by omega
        rw [hs] at hor; obtain ⟨v, hv⟩ : ∃ v, y + x * 2 ^ s = v := ⟨_, rfl⟩; rw [hv] at hor; have HV := Lib.hid (And.intro hor.2 (And.intro hv (And.intro hs (And.intro hy hwf))))
        have hv0 : 0 ≤ v := by
          rw [← hv]; have : (0 : Int) < 2 ^ s := Int.pow_pos (by decide); have := Int.mul_nonneg hx0 (Int.le_of_lt this); have := hwf.1; omega
        have ej := hor.1; have j0 : (0 : Int) ≤ (j : Int) := by omega
        have j1 : (j : Int) < ((i / 4 + 1 : Nat) : Int) := by have := HX.out.2.1; omega
        have wj : IntKind.i64.wrap (j : Int) = j := IntWalk.i64_in _ (by have := HX.out.2.1; omega); have wx : IntKind.u64.wrap x = x := by rw [IntKind.wrap_u64]; omega
        have ws : IntKind.i64.wrap (s : Int) = s := IntWalk.i64_in _ (by omega); have hsh : ∀ w9 : World, (Op.shift BinOp.shl IntKind.u64 x IntKind.i64 (s : Int)).run Tryz.prog w9 = .ok (.int .u64 (IntKind.u64.wrap (x * 2 ^ s))) w9 := fun w9 => run_shl64 x s w9 hs64
        obtain ⟨L, hL⟩ : ∃ L, i / 4 + 1 = L := ⟨_, rfl⟩; have HLL := Lib.hid hL; rw [hL] at j1 ⊢; have wv : 0 ≤ v := hv0; clear hor hv hs hy hlt hL hv0; go_wp2_with fail; refine wp_region_noPanic ?_; refine wp_region_any (by kernel_rfl) ?_; change wpAny _ _ _ _ _ _ _ (World.drew _); refine wpAny_take (i := 0) (v := ?_) rfl (by kernel_rfl) (by kernel_rfl) (by kernel_rfl) (fun _ _ _ h => False.elim h) (Or.inl ⟨by rfl, ?_⟩) ?_; rotate_left 1
        · intro w9
          go_simp; (try with_reducible rfl)
        (try simp only [Act.put, List.getElem_toArray, List.getElem_cons_zero, List.getElem_cons_succ, List.setIfInBounds_toArray, List.set_cons_zero, List.set_cons_succ]); refine wpAny_take (i := 1) (v := ?_) rfl (by kernel_rfl) (by kernel_rfl) (by kernel_rfl) (fun _ _ _ h => False.elim h) (Or.inl ⟨by rfl, ?_⟩) ?_; rotate_left 1
        · intro w9
          go_simp; (try with_reducible rfl)
        (try simp only [Act.put, List.getElem_toArray, List.getElem_cons_zero, List.getElem_cons_succ, List.setIfInBounds_toArray, List.set_cons_zero, List.set_cons_succ]); refine wpAny_take (i := 2) (v := ?_) rfl (by kernel_rfl) (by kernel_rfl) (by kernel_rfl) (fun _ _ _ h => False.elim h) (Or.inl ⟨by rfl, ?_⟩) ?_; rotate_left 1
        · intro w9
          go_simp; (try with_reducible rfl)
        (try simp only [Act.put, List.getElem_toArray, List.getElem_cons_zero, List.getElem_cons_succ, List.setIfInBounds_toArray, List.set_cons_zero, List.set_cons_succ]); refine wpAny_take (i := 3) (v := ?_) rfl (by kernel_rfl) (by kernel_rfl) (by kernel_rfl) (fun _ _ _ h => False.elim h) (Or.inl ⟨by rfl, ?_⟩) ?_; rotate_left 1
        · intro w9
          go_simp; (try with_reducible rfl)
        (try simp only [Act.put, List.getElem_toArray, List.getElem_cons_zero, List.getElem_cons_succ, List.setIfInBounds_toArray, List.set_cons_zero, List.set_cons_succ]); refine wpAny_take (i := 5) (v := ?_) rfl (by kernel_rfl) (by kernel_rfl) (by kernel_rfl) (fun _ _ _ h => False.elim h) (Or.inl ⟨by rfl, ?_⟩) ?_; rotate_left 1
        · intro w9
          go_simp; (try with_reducible rfl)
        (try simp only [Act.put, List.getElem_toArray, List.getElem_cons_zero, List.getElem_cons_succ, List.setIfInBounds_toArray, List.set_cons_zero, List.set_cons_succ]); refine wpAny_take (i := 6) (v := ?_) rfl (by kernel_rfl) (by kernel_rfl) (by kernel_rfl) (fun _ _ _ h => False.elim h) (Or.inl ⟨by rfl, ?_⟩) ?_; rotate_left 1
        · intro w9
          go_simp; (try with_reducible rfl)
        (try simp only [Act.put, List.getElem_toArray, List.getElem_cons_zero, List.getElem_cons_succ, List.setIfInBounds_toArray, List.set_cons_zero, List.set_cons_succ]); refine wpAny_take (i := 7) (v := ?_) rfl (by kernel_rfl) (by kernel_rfl) (by kernel_rfl) (fun _ _ _ h => False.elim h) (Or.inl ⟨by rfl, ?_⟩) ?_; rotate_left 1
        · intro w9
          go_simp; (try with_reducible rfl)
        (try simp only [Act.put, List.getElem_toArray, List.getElem_cons_zero, List.getElem_cons_succ, List.setIfInBounds_toArray, List.set_cons_zero, List.set_cons_succ]); refine wpAny_take (i := 8) (v := ?_) rfl (by kernel_rfl) (by kernel_rfl) (by kernel_rfl) (fun _ _ _ h => False.elim h) (Or.inl ⟨by rfl, ?_⟩) ?_; rotate_left 1
        · intro w9
          go_simp; (try with_reducible rfl)
        (try simp only [Act.put, List.getElem_toArray, List.getElem_cons_zero, List.getElem_cons_succ, List.setIfInBounds_toArray, List.set_cons_zero, List.set_cons_succ]); refine wpAny_take (i := 9) (v := ?_) rfl (by kernel_rfl) (by kernel_rfl) (by kernel_rfl) (fun _ _ _ h => False.elim h) (Or.inl ⟨by rfl, ?_⟩) ?_; rotate_left 1
        · intro w9
          go_simp; (try with_reducible rfl)
        (try simp only [Act.put, List.getElem_toArray, List.getElem_cons_zero, List.getElem_cons_succ, List.setIfInBounds_toArray, List.set_cons_zero, List.set_cons_succ]); refine wpAny_take (i := 10) (v := ?_) rfl (by kernel_rfl) (by kernel_rfl) (by kernel_rfl) (fun _ _ _ h => False.elim h) (Or.inl ⟨by rfl, ?_⟩) ?_; rotate_left 1
        · intro w9
          go_simp; (try with_reducible rfl)
        (try simp only [Act.put, List.getElem_toArray, List.getElem_cons_zero, List.getElem_cons_succ, List.setIfInBounds_toArray, List.set_cons_zero, List.set_cons_succ]); refine wpAny_ready (rs := [4]) (by kernel_rfl) (by simp) ?_; refine AllReady.cons rfl (fun K hK => ?_) AllReady.nil; go_simp; refine hK _ _ ?_; clear hK K; (try simp only [Act.put, List.getElem_toArray, List.getElem_cons_zero, List.getElem_cons_succ, List.setIfInBounds_toArray, List.set_cons_zero, List.set_cons_succ]); refine wpAny_take (i := 11) (v := ?_) rfl (by kernel_rfl) (by kernel_rfl) (by kernel_rfl) (fun _ _ _ h => False.elim h) (Or.inl ⟨by rfl, ?_⟩) ?_; rotate_left 1
        · intro w9
          go_simp; (try with_reducible rfl)
        (try simp only [Act.put, List.getElem_toArray, List.getElem_cons_zero, List.getElem_cons_succ, List.setIfInBounds_toArray, List.set_cons_zero, List.set_cons_succ]); refine wpAny_take (i := 12) (v := ?_) rfl (by kernel_rfl) (by kernel_rfl) (by kernel_rfl) (fun _ _ _ h => False.elim h) (Or.inl ⟨by rfl, ?_⟩) ?_; rotate_left 1
        · intro w9
          go_simp; (try with_reducible rfl)
        (try simp only [Act.put, List.getElem_toArray, List.getElem_cons_zero, List.getElem_cons_succ, List.setIfInBounds_toArray, List.set_cons_zero, List.set_cons_succ]); refine wpAny_ready (rs := [13]) (by kernel_rfl) (by simp) ?_; refine AllReady.cons rfl (fun K hK => ?_) AllReady.nil; go_simp; refine hK _ _ ?_; clear hK K; (try simp only [Act.put, List.getElem_toArray, List.getElem_cons_zero, List.getElem_cons_succ, List.setIfInBounds_toArray, List.set_cons_zero, List.set_cons_succ]); refine wpAny_done (by kernel_rfl) ?_ _; refine NoPanic.normal ?_; go_wp2; go_roundg (gk - 1)
        case measure => omega
        case rel => exact ⟨i + 1, _, _, c2, _, rfl, by go_num, by omega, put_word HLL.out HX.out.2.1 HX.out.1 HX.out.2.2 HV.out.2.2.1 HV.out.2.2.2.1 HV.out.2.1 wv HV.out.1 hr4 HM.out⟩
    · have h1 : decide ((i : Int) < (n : Int)) = false := decide_eq_false (by omega)
      obtain rfl : i = n := by omega
      go_wp2; go_ret; obtain ⟨g1, g2, g3, g4, g5, g6⟩ := H.out; refine ⟨a', m, c', W, rfl, g1, g4, g5.wf, ?_, g5.vl, by have := g5.hm; omega, g6⟩
      rcases Nat.eq_zero_or_pos m with h0 | h0
      · exact Or.inl h0
      · right
        intro hz; have hi0 : 0 < i := by have := g5.hm; omega
        have e : val W m = val W (m - 1) := by
          obtain ⟨k, rfl⟩ : ∃ k, m = k + 1 := ⟨m - 1, by omega⟩; rw [val_add, val_one]; show val W k + BB ^ k * W k = _
          rw [Nat.add_sub_cancel] at hz ⊢; rw [hz, Int.mul_zero, Int.add_zero]
        have h1 := val_lt (g5.wf.le (show m - 1 ≤ m by omega)); have h2 := vs_ge HA.out.2.1 HA.out.2.2 hi0; rw [← e, g5.vl, ← SB_four] at h1; have h3 := SB_mono (show 4 * (m - 1) ≤ i - 1 by have := g5.hm; omega); omega
end Go.Proofs.YtmgfajamanakcaaGreatDoor
