/- Part of the proof of FnParse: what the functions that it reaches do, as contracts. Conditions: those that each theorem names. -/
import Derived.Test.YtmgfajamanakcaaGreatDoorR38
import Derived.Test.YtmgfajamanakcaaGreatDoorR36
import Derived.Deep.QuietTactic
import Derived.OrdersHeld
namespace Go.Proofs.YtmgfajamanakcaaGreatDoor.Si
set_option linter.unusedVariables false
set_option linter.unusedSimpArgs false
open Go Go.RowKit
set_option maxRecDepth 100000
def Lof (V : Int) : Nat := if V = 0 then 0 else V.toNat.log2 + 1
theorem Lof_of {V : Int} {L : Nat} (h : (V = 0 ∧ L = 0) ∨ (1 ≤ L ∧ 2 ^ (L - 1) ≤ V ∧ V < 2 ^ L)) : L = Lof V := by
  unfold Lof
  rcases h with ⟨h1, h2⟩ | ⟨h1, h2, h3⟩
  · rw [if_pos h1, h2]
  · have hp : (0 : Int) < 2 ^ (L - 1) := Int.pow_pos (by decide)
    rw [if_neg (by omega)]; obtain ⟨m, rfl⟩ : ∃ m : Nat, V = (m : Int) := ⟨V.toNat, by omega⟩; rw [Int.toNat_natCast]; have e1 : ((2 ^ (L - 1) : Nat) : Int) = 2 ^ (L - 1) := by push_cast; rfl
    have e2 : ((2 ^ L : Nat) : Int) = 2 ^ L := by push_cast; rfl
    have h4 : m ≠ 0 := by omega
    have a1 := Nat.log2_self_le h4; have a2 := @Nat.lt_log2_self m
    have b1 : m.log2 < L := by
      rcases Nat.lt_or_ge m.log2 L with g | g
      · exact g
      · have := Nat.pow_le_pow_right (show 0 < 2 by decide) g; omega
    have b2 : L - 1 < m.log2 + 1 := by
      rcases Nat.lt_or_ge (L - 1) (m.log2 + 1) with g | g
      · exact g
      · have := Nat.pow_le_pow_right (show 0 < 2 by decide) g; omega
    omega
theorem Lof_spec {V : Int} (h : 0 < V) : 1 ≤ Lof V ∧ 2 ^ (Lof V - 1) ≤ V ∧ V < 2 ^ Lof V := by
  unfold Lof; rw [if_neg (by omega)]; obtain ⟨m, rfl⟩ : ∃ m : Nat, V = (m : Int) := ⟨V.toNat, by omega⟩; rw [Int.toNat_natCast]; have a1 := Nat.log2_self_le (show m ≠ 0 by omega); have a2 := @Nat.lt_log2_self m; have e1 : ((2 ^ m.log2 : Nat) : Int) = 2 ^ m.log2 := by push_cast; rfl
  have e2 : ((2 ^ (m.log2 + 1) : Nat) : Int) = 2 ^ (m.log2 + 1) := by push_cast; rfl
  refine ⟨by omega, ?_, ?_⟩
  · rw [Nat.add_sub_cancel]; omega
  · omega
theorem len_det (a : Option Addr) (n c : Nat) (V : Int) (w : World) (h : NatV w a n c V) (hn : n < 1073741824) :
    Calls Tryz.prog 40 #[.slice a n c] w fun e w' => e = .returned (.int .i64 (Lof V : Nat)) ∧ w' = w := by
  refine (len_any a n c V w h hn).mono ?_; rintro e w' ⟨L, rfl, _, h2, rfl⟩; rw [Lof_of h2]; exact ⟨rfl, rfl⟩
def aheadK (V1 V2 : Int) (N : Nat) : Nat := N + 1 + Lof V2 - Lof V1
def aheadQ (V1 V2 : Int) (N : Nat) : Int := V1 * 2 ^ aheadK V1 V2 N / V2 * 2 + (if V1 * 2 ^ aheadK V1 V2 N % V2 = 0 then 0 else 1)
def AheadP (w : World) (V1 V2 E1 E2 : Int) (N : Nat) (neg : Bool) (e : Ending) (w' : World) : Prop :=
  ∃ b m d, e = .returned (dyV neg b m d (E1 - E2 - aheadK V1 V2 N - 1)) ∧ NatV w' b m d (aheadQ V1 V2 N) ∧ m < 65536 ∧ Fresh w b ∧ Chg zNone w w'
def AhA (w : World) (s1 s2 : Bool) (a1 a2 : Option Addr) (n1 c1 n2 c2 : Nat) (V1 V2 E1 E2 : Int) (N : Nat) (t3 t4 t6 t7 : Value) (wc : World) : Prop :=
  ∃ p1 p2 p3, t3 = .pointer (some ⟨p1, 0, none⟩) ∧ t4 = .pointer (some ⟨p2, 0, none⟩) ∧ t6 = .pointer (some ⟨p3, 0, none⟩) ∧ t7 = .int .i64 (aheadK V1 V2 N : Nat) ∧
    Hid (DyC wc p1 s1 a1 n1 c1 E1 ∧ DyC wc p2 s2 a2 n2 c2 E2 ∧ DyC wc p3 false none 0 0 0 ∧ Sz3 wc p3 ∧ w.heap.size ≤ p3 ∧ Chg zNone w wc)
theorem three_dy (w : World) (s1 s2 : Bool) (a1 a2 : Option Addr) (n1 c1 n2 c2 : Nat) (V1 V2 E1 E2 : Int) (N : Nat) :
    AhA w s1 s2 a1 a2 n1 c1 n2 c2 V1 V2 E1 E2 N (.pointer (some ⟨w.heap.size, 0, none⟩)) (.pointer (some ⟨w.heap.size + 1, 0, none⟩)) (.pointer (some ⟨w.heap.size + 2, 0, none⟩)) (.int .i64 (aheadK V1 V2 N : Nat))
      (((w.alloc (.cells #[.bool s1, .slice a1 n1 c1, .int .i64 E1] 40)).alloc (.cells #[.bool s2, .slice a2 n2 c2, .int .i64 E2] 40)).alloc (.cells #[.bool false, .slice none 0 0, .int .i64 0] 40)) := by
  obtain ⟨w1, hw1⟩ : ∃ w1, w1 = w.alloc (.cells #[.bool s1, .slice a1 n1 c1, .int .i64 E1] 40) := ⟨_, rfl⟩; obtain ⟨w2, hw2⟩ : ∃ w2, w2 = w1.alloc (.cells #[.bool s2, .slice a2 n2 c2, .int .i64 E2] 40) := ⟨_, rfl⟩; have z1 : w1.heap.size = w.heap.size + 1 := by rw [hw1]; show (w.heap.push _).size = _; simp
  have z2 : w2.heap.size = w.heap.size + 2 := by rw [hw2]; show (w1.heap.push _).size = _; simp [z1]
  have k1 : Chg zNone w w1 := by rw [hw1]; exact (Chg.refl _ _).alloc _
  have k2 : Chg zNone w1 w2 := by rw [hw2]; exact (Chg.refl _ _).alloc _
  have k3 : Chg zNone w2 (w2.alloc (.cells #[.bool false, .slice none 0 0, .int .i64 0] 40)) := (Chg.refl _ _).alloc _; have d1 := newDy w s1 a1 n1 c1 E1 40; rw [← hw1] at d1; have d2 := newDy w1 s2 a2 n2 c2 E2 40; rw [← hw2, z1] at d2; have d3 := newDy w2 false none 0 0 0 40; have s3 := Sz3.new w2 (.bool false) (.slice none 0 0) (.int .i64 0) 40; rw [z2] at d3 s3; rw [← hw1, ← hw2]; exact ⟨_, _, _, rfl, rfl, rfl, rfl, (d1.chg k2 (fun _ h => h)).chg k3 (fun _ h => h), d2.chg k3 (fun _ h => h), d3, s3, by omega, (k1.trans k2 (fun _ _ _ h => h)).trans k3 (fun _ _ _ h => h)⟩
theorem AhA.drewN {w : World} {s1 s2 : Bool} {a1 a2 : Option Addr} {n1 c1 n2 c2 : Nat} {V1 V2 E1 E2 : Int} {N : Nat} {t3 t4 t6 t7 : Value} {wc : World} (h : AhA w s1 s2 a1 a2 n1 c1 n2 c2 V1 V2 E1 E2 N t3 t4 t6 t7 wc) (k : Nat) : AhA w s1 s2 a1 a2 n1 c1 n2 c2 V1 V2 E1 E2 N t3 t4 t6 t7 (wc.drewN k) := by
  obtain ⟨p1, p2, p3, e1, e2, e3, e4, g1, g2, g3, g4, g5, g6⟩ := h; have kk : Chg zNone wc (wc.drewN k) := (Chg.refl _ _).drewN k; exact ⟨p1, p2, p3, e1, e2, e3, e4, g1.chg kk (fun _ h => h), g2.chg kk (fun _ h => h), g3.chg kk (fun _ h => h), g4.chg kk, g5, g6.trans kk (fun _ _ _ h => h)⟩
theorem ahead_bits {V1 V2 : Int} {N : Nat} (h1 : 0 < V1) (h2 : 0 < V2) : 2 ^ N ≤ V1 * 2 ^ aheadK V1 V2 N / V2 := by
  obtain ⟨a1, a2, a3⟩ := Lof_spec h1; obtain ⟨b1, b2, b3⟩ := Lof_spec h2; rw [Int.le_ediv_iff_mul_le h2]; have e1 : (2 : Int) ^ N * V2 ≤ 2 ^ N * 2 ^ Lof V2 := Int.mul_le_mul_of_nonneg_left (by omega) (Int.le_of_lt (Int.pow_pos (by decide))); have e2 : (2 : Int) ^ (Lof V1 - 1) * 2 ^ aheadK V1 V2 N ≤ V1 * 2 ^ aheadK V1 V2 N := Int.mul_le_mul_of_nonneg_right a2 (Int.le_of_lt (Int.pow_pos (by decide))); rw [← Int.pow_add] at e1 e2; have e3 := ipow_le (b := 2) (by decide) (show N + Lof V2 ≤ Lof V1 - 1 + aheadK V1 V2 N by unfold aheadK; omega); omega
theorem aheadQ_pos {V1 V2 : Int} {N : Nat} (h1 : 0 < V1) (h2 : 0 < V2) : 2 ^ (N + 1) ≤ aheadQ V1 V2 N := by
  have := ahead_bits (N := N) h1 h2; unfold aheadQ; rw [Int.pow_succ]
  split <;> omega
set_option maxHeartbeats 1000000 in
theorem ahead_any (s1 s2 : Bool) (a1 a2 : Option Addr) (n1 c1 n2 c2 : Nat) (V1 V2 E1 E2 : Int) (N : Nat) (w : World) (h1 : NatV w a1 n1 c1 V1) (h2 : NatV w a2 n2 c2 V2) (hV1 : 0 < V1) (hV2 : 0 < V2) (hn1 : n1 < 1024) (hn2 : n2 < 1024) (hN : N < 65536)
    (hE1 : -1099511627776 < E1 ∧ E1 < 1099511627776) (hE2 : -1099511627776 < E2 ∧ E2 < 1099511627776) :
    Calls Tryz.prog 33 #[dyV s1 a1 n1 c1 E1, dyV s2 a2 n2 c2 E2, .int .i64 (N : Int)] w (AheadP w V1 V2 E1 E2 N (s1 != s2)) := by
  have HA0 := Lib.hid (three_dy w s1 s2 a1 a2 n1 c1 n2 c2 V1 V2 E1 E2 N); have kal : Chg zNone w (((w.alloc (.cells #[.bool s1, .slice a1 n1 c1, .int .i64 E1] 40)).alloc (.cells #[.bool s2, .slice a2 n2 c2, .int .i64 E2] 40)).alloc (.cells #[.bool false, .slice none 0 0, .int .i64 0] 40)) := (((Chg.refl _ _).alloc _).alloc _).alloc _; obtain ⟨WA, hWA⟩ : ∃ WA, WA = ((w.alloc (.cells #[.bool s1, .slice a1 n1 c1, .int .i64 E1] 40)).alloc (.cells #[.bool s2, .slice a2 n2 c2, .int .i64 E2] 40)).alloc (.cells #[.bool false, .slice none 0 0, .int .i64 0] 40) := ⟨_, rfl⟩; rw [← hWA] at kal HA0; have HL1 : Hid (∀ k, Calls Tryz.prog 40 #[.slice a1 n1 c1] (WA.drewN k) fun e w' => e = .returned (.int .i64 (Lof V1 : Nat)) ∧ w' = WA.drewN k) := fun k => len_det a1 n1 c1 V1 _ (h1.far (kal.drewN k)) (by omega)
  have HL2 : Hid (∀ k, Calls Tryz.prog 40 #[.slice a2 n2 c2] (WA.drewN k) fun e w' => e = .returned (.int .i64 (Lof V2 : Nat)) ∧ w' = WA.drewN k) := fun k => len_det a2 n2 c2 V2 _ (h2.far (kal.drewN k)) (by omega)
  have HK := Lib.hid kal; have H12 := Lib.hid (And.intro h1 (And.intro h2 (And.intro hV1 hV2)))
  have hL1 : Lof V1 ≤ 16 * n1 := by
    have := (Lof_spec hV1).2.1; have g := nat_lt h1; rw [SB_pow] at g
    rcases Nat.lt_or_ge (16 * n1) (Lof V1) with g2 | g2
    · have := ipow_le (b := 2) (by decide) (show 16 * n1 ≤ Lof V1 - 1 by omega); omega
    · exact g2
  have hL2 : Lof V2 ≤ 16 * n2 := by
    have := (Lof_spec hV2).2.1; have g := nat_lt h2; rw [SB_pow] at g
    rcases Nat.lt_or_ge (16 * n2) (Lof V2) with g2 | g2
    · have := ipow_le (b := 2) (by decide) (show 16 * n2 ≤ Lof V2 - 1 by omega); omega
    · exact g2
  have hmax : max 0 ((N : Int) + 1 + (Lof V2 : Nat) - (Lof V1 : Nat)) = (aheadK V1 V2 N : Nat) := by unfold aheadK; omega
  have hKb : aheadK V1 V2 N < 131072 := by unfold aheadK; omega
  obtain ⟨L1, e1⟩ : ∃ L, Lof V1 = L := ⟨_, rfl⟩; obtain ⟨L2, e2⟩ : ∃ L, Lof V2 = L := ⟨_, rfl⟩; rw [e1] at HL1 hL1 hmax; rw [e2] at HL2 hL2 hmax; clear kal h1 h2 e1 e2; unfold dyV
  go_enter Tryz.func33, Tryz.ntmps33
  go_upto_region 2 with fail; go_cut [3, 4, 6, 7] (fun t3 t4 t6 t7 wc => AhA w s1 s2 a1 a2 n1 c1 n2 c2 V1 V2 E1 E2 N t3 t4 t6 t7 wc)
  case first => as_aux_lemma =>
    go_wp2; rw [← hWA]; clear hWA; obtain ⟨_, _, _, e1, e2, e3, _, g⟩ := HA0.out; injection e1 with e1; injection e1 with e1; injection e1 with e1 _; injection e2 with e2; injection e2 with e2; injection e2 with e2 _; subst e1; subst e2; obtain ⟨⟨i0, i1, i2, _⟩, ⟨l0, l1, l2, _⟩, _⟩ := g
    go_quiet ((go_at_call 40; first | with_reducible exact Calls.quiet_of_same (HL1.out _) | with_reducible exact Calls.quiet_of_same (HL2.out _)))
    go_wp2; go_meet; exact HA0.out.drewN nq
  case rest => as_aux_lemma =>
    obtain ⟨p1, p2, p3, rfl, rfl, rfl, e7, HX0⟩ := hcut; obtain ⟨wB, hwB⟩ : ∃ wB, wB = wc := ⟨_, rfl⟩; subst hwB; obtain ⟨i0, i1, i2, _⟩ := HX0.out.1; obtain ⟨j0, j1, j2, _⟩ := HX0.out.2.1; have HX := Lib.hid (And.intro HX0.out.1 (And.intro HX0.out.2.1 HX0.out.2.2.2.2.2)); obtain ⟨K, hK⟩ : ∃ K, aheadK V1 V2 N = K := ⟨_, rfl⟩; rw [hK] at hKb e7; subst e7; have HK' := Lib.hid hK; have HS : Hid (∀ W, Chg zNone w W → Calls Tryz.prog 66 #[.slice a1 n1 c1, .int .i64 (K : Int)] W (NRes W (V1 * 2 ^ K))) := fun W k => shl_any a1 n1 c1 K V1 W (H12.out.1.far k) (by omega) (by omega)
    have hVb := nat_lt H12.out.1
    have hSb : V1 * 2 ^ K < SB ^ 16383 := by
      have h1 : V1 * 2 ^ K ≤ SB ^ n1 * 2 ^ K := Int.mul_le_mul_of_nonneg_right (by omega) (Int.le_of_lt (Int.pow_pos (by decide))); have h2 : SB ^ n1 * (2 : Int) ^ K = 2 ^ (16 * n1 + K) := by rw [SB_pow, ← Int.pow_add]
      have h3 : (2 : Int) ^ (16 * n1 + K) < 2 ^ (16 * 16383) := by
        have h4 := ipow_le (b := 2) (by decide) (show 16 * n1 + K + 1 ≤ 16 * 16383 by omega); rw [Int.pow_succ] at h4; have h5 : (0 : Int) < 2 ^ (16 * n1 + K) := Int.pow_pos (by decide); omega
      rw [SB_pow]; omega
    have HSB := Lib.hid hSb
    have HDV : Hid (∀ W b m d, NatV W b m d (V1 * 2 ^ K) → Chg zNone w W → Calls Tryz.prog 56 #[.slice b m d, .slice a2 n2 c2] W (DivPost W (V1 * 2 ^ K) V2)) := fun W b m d h k =>
      divmod_any b a2 m d n2 c2 _ V2 W h (H12.out.2.1.far k) H12.out.2.2.2 (by have := h.len HSB.out; omega) (by omega)
    clear hVb hSb hK; go_upto_region 3 with fail; go_cut [8, 9] (fun t8 t9 wd => ∃ qa qn qc ra rn rc, t8 = .slice qa qn qc ∧ t9 = .slice ra rn rc ∧ Hid (NatV wd qa qn qc (V1 * 2 ^ K / V2) ∧ NatV wd ra rn rc (V1 * 2 ^ K % V2) ∧ Chg zNone wB wd))
    case first => as_aux_lemma =>
      go_wp2; refine wp_region_noPanic ?_; refine wp_region_any (by kernel_rfl) ?_; change wpAny _ _ _ _ _ _ _ (World.drew _); refine wpAny_take (i := 0) (v := ?_) rfl (by kernel_rfl) (by kernel_rfl) (by kernel_rfl) (fun _ _ _ h => False.elim h) (Or.inl ⟨by rfl, ?_⟩) ?_; rotate_left 1
      · intro w9
        go_simp; (try with_reducible rfl)
      (try simp only [putL, putN, List.set_cons_zero, List.set_cons_succ]); refine wpAny_take (i := 2) (v := ?_) rfl (by kernel_rfl) (by kernel_rfl) (by kernel_rfl) (fun _ _ _ h => False.elim h) (Or.inl ⟨by rfl, ?_⟩) ?_; rotate_left 1
      · intro w9
        go_simp; (try with_reducible rfl)
      (try simp only [putL, putN, List.set_cons_zero, List.set_cons_succ]); refine wpAny_take (i := 4) (v := ?_) rfl (by kernel_rfl) (by kernel_rfl) (by kernel_rfl) (fun _ _ _ h => False.elim h) (Or.inl ⟨by rfl, ?_⟩) ?_; rotate_left 1
      · intro w9
        go_simp; (try with_reducible rfl)
      (try simp only [putL, putN, List.set_cons_zero, List.set_cons_succ]); refine wpAny_ready (rs := [1, 5]) (by kernel_rfl) (by simp) ?_; refine AllReady.cons rfl (fun K hK => ?_) (AllReady.cons rfl (fun K hK => ?_) AllReady.nil)
      · skip
        go_simp; refine hK _ _ ?_; clear hK K; (try simp only [putL, putN, List.set_cons_zero, List.set_cons_succ]); refine wpAny_ready (rs := [3, 5]) (by kernel_rfl) (by simp) ?_; refine AllReady.cons rfl (fun K hK => ?_) (AllReady.cons rfl (fun K hK => ?_) AllReady.nil)
        · skip
          go_simp; go_wp2_with (go_at_call 66; go_loud (refine (HS.out wB.drew HX.out.2.2.drew).mono ?_; rintro e wf ⟨b, m, d, rfl, g1, g2⟩; obtain ⟨j0, j1, j2, _⟩ := HX.out.2.1.chg (g2.base_drew) (fun _ h => h); have HF := Lib.hid (And.intro g1 g2); clear g1 g2)); (try simp only [putL, putN, List.set_cons_zero, List.set_cons_succ]); refine wpAny_ready (rs := [5]) (by kernel_rfl) (by simp) ?_; refine AllReady.cons rfl (fun K hK => ?_) AllReady.nil; go_simp; refine hK _ _ ?_; clear hK K; (try simp only [putL, putN, List.set_cons_zero, List.set_cons_succ]); refine wpAny_ready (rs := [6]) (by kernel_rfl) (by simp) ?_; refine AllReady.cons rfl (fun K hK => ?_) AllReady.nil; go_simp; go_wp2_with (go_at_call 56; go_loud (refine (HDV.out wf b m d HF.out.1 (HX.out.2.2.trans HF.out.2.base_drew (fun _ _ _ h => h))).mono ?_; rintro e wg ⟨qa, qn, qc, ra, rn, rc, rfl, g1, g2, g3⟩; have HG := Lib.hid (And.intro g1 (And.intro g2 g3)); clear g1 g2 g3)); (try simp only [putL, putN, List.set_cons_zero, List.set_cons_succ]); refine wpAny_take (i := 7) (v := ?_) rfl (by kernel_rfl) (by kernel_rfl) (by kernel_rfl) (fun _ _ _ h => False.elim h) (Or.inl ⟨by rfl, ?_⟩) ?_; rotate_left 1
          · intro w9
            go_simp; (try with_reducible rfl)
          (try simp only [putL, putN, List.set_cons_zero, List.set_cons_succ]); refine wpAny_take (i := 8) (v := ?_) rfl (by kernel_rfl) (by kernel_rfl) (by kernel_rfl) (fun _ _ _ h => False.elim h) (Or.inl ⟨by rfl, ?_⟩) ?_; rotate_left 1
          · intro w9
            go_simp; (try with_reducible rfl)
          (try simp only [putL, putN, List.set_cons_zero, List.set_cons_succ]); refine wpAny_take (i := 9) (v := ?_) rfl (by kernel_rfl) (by kernel_rfl) (by kernel_rfl) (fun _ _ _ h => False.elim h) (Or.inl ⟨by rfl, ?_⟩) ?_; rotate_left 1
          · intro w9
            go_simp; (try with_reducible rfl)
          (try simp only [putL, putN, List.set_cons_zero, List.set_cons_succ]); refine wpAny_take (i := 10) (v := ?_) rfl (by kernel_rfl) (by kernel_rfl) (by kernel_rfl) (fun _ _ _ h => False.elim h) (Or.inl ⟨by rfl, ?_⟩) ?_; rotate_left 1
          · intro w9
            go_simp; (try with_reducible rfl)
          (try simp only [putL, putN, List.set_cons_zero, List.set_cons_succ]); refine wpAny_take (i := 11) (v := ?_) rfl (by kernel_rfl) (by kernel_rfl) (by kernel_rfl) (fun _ _ _ h => False.elim h) (Or.inl ⟨by rfl, ?_⟩) ?_; rotate_left 1
          · intro w9
            go_simp; (try with_reducible rfl)
          (try simp only [putL, putN, List.set_cons_zero, List.set_cons_succ]); refine wpAny_done (by kernel_rfl) ?_ _; refine NoPanic.normal ?_; go_wp2; go_meet; exact ⟨qa, qn, qc, ra, rn, rc, rfl, rfl, HG.out.1, HG.out.2.1, HF.out.2.base_drew.trans HG.out.2.2 (fun _ _ _ h => h)⟩
        · skip
          go_simp; refine hK _ _ ?_; clear hK K; (try simp only [putL, putN, List.set_cons_zero, List.set_cons_succ]); refine wpAny_ready (rs := [3]) (by kernel_rfl) (by simp) ?_; refine AllReady.cons rfl (fun K hK => ?_) AllReady.nil; go_simp; go_wp2_with (go_at_call 66; go_loud (refine (HS.out wB.drew HX.out.2.2.drew).mono ?_; rintro e wf ⟨b, m, d, rfl, g1, g2⟩; obtain ⟨j0, j1, j2, _⟩ := HX.out.2.1.chg (g2.base_drew) (fun _ h => h); have HF := Lib.hid (And.intro g1 g2); clear g1 g2)); (try simp only [putL, putN, List.set_cons_zero, List.set_cons_succ]); refine wpAny_ready (rs := [6]) (by kernel_rfl) (by simp) ?_; refine AllReady.cons rfl (fun K hK => ?_) AllReady.nil; go_simp; go_wp2_with (go_at_call 56; go_loud (refine (HDV.out wf b m d HF.out.1 (HX.out.2.2.trans HF.out.2.base_drew (fun _ _ _ h => h))).mono ?_; rintro e wg ⟨qa, qn, qc, ra, rn, rc, rfl, g1, g2, g3⟩; have HG := Lib.hid (And.intro g1 (And.intro g2 g3)); clear g1 g2 g3)); (try simp only [putL, putN, List.set_cons_zero, List.set_cons_succ]); refine wpAny_take (i := 7) (v := ?_) rfl (by kernel_rfl) (by kernel_rfl) (by kernel_rfl) (fun _ _ _ h => False.elim h) (Or.inl ⟨by rfl, ?_⟩) ?_; rotate_left 1
          · intro w9
            go_simp; (try with_reducible rfl)
          (try simp only [putL, putN, List.set_cons_zero, List.set_cons_succ]); refine wpAny_take (i := 8) (v := ?_) rfl (by kernel_rfl) (by kernel_rfl) (by kernel_rfl) (fun _ _ _ h => False.elim h) (Or.inl ⟨by rfl, ?_⟩) ?_; rotate_left 1
          · intro w9
            go_simp; (try with_reducible rfl)
          (try simp only [putL, putN, List.set_cons_zero, List.set_cons_succ]); refine wpAny_take (i := 9) (v := ?_) rfl (by kernel_rfl) (by kernel_rfl) (by kernel_rfl) (fun _ _ _ h => False.elim h) (Or.inl ⟨by rfl, ?_⟩) ?_; rotate_left 1
          · intro w9
            go_simp; (try with_reducible rfl)
          (try simp only [putL, putN, List.set_cons_zero, List.set_cons_succ]); refine wpAny_take (i := 10) (v := ?_) rfl (by kernel_rfl) (by kernel_rfl) (by kernel_rfl) (fun _ _ _ h => False.elim h) (Or.inl ⟨by rfl, ?_⟩) ?_; rotate_left 1
          · intro w9
            go_simp; (try with_reducible rfl)
          (try simp only [putL, putN, List.set_cons_zero, List.set_cons_succ]); refine wpAny_take (i := 11) (v := ?_) rfl (by kernel_rfl) (by kernel_rfl) (by kernel_rfl) (fun _ _ _ h => False.elim h) (Or.inl ⟨by rfl, ?_⟩) ?_; rotate_left 1
          · intro w9
            go_simp; (try with_reducible rfl)
          (try simp only [putL, putN, List.set_cons_zero, List.set_cons_succ]); refine wpAny_done (by kernel_rfl) ?_ _; refine NoPanic.normal ?_; go_wp2; go_meet; exact ⟨qa, qn, qc, ra, rn, rc, rfl, rfl, HG.out.1, HG.out.2.1, HF.out.2.base_drew.trans HG.out.2.2 (fun _ _ _ h => h)⟩
      · skip
        go_simp; refine hK _ _ ?_; clear hK K; (try simp only [putL, putN, List.set_cons_zero, List.set_cons_succ]); refine wpAny_ready (rs := [1]) (by kernel_rfl) (by simp) ?_; refine AllReady.cons rfl (fun K hK => ?_) AllReady.nil; go_simp; refine hK _ _ ?_; clear hK K; (try simp only [putL, putN, List.set_cons_zero, List.set_cons_succ]); refine wpAny_ready (rs := [3]) (by kernel_rfl) (by simp) ?_; refine AllReady.cons rfl (fun K hK => ?_) AllReady.nil; go_simp; go_wp2_with (go_at_call 66; go_loud (refine (HS.out wB.drew HX.out.2.2.drew).mono ?_; rintro e wf ⟨b, m, d, rfl, g1, g2⟩; obtain ⟨j0, j1, j2, _⟩ := HX.out.2.1.chg (g2.base_drew) (fun _ h => h); have HF := Lib.hid (And.intro g1 g2); clear g1 g2)); (try simp only [putL, putN, List.set_cons_zero, List.set_cons_succ]); refine wpAny_ready (rs := [6]) (by kernel_rfl) (by simp) ?_; refine AllReady.cons rfl (fun K hK => ?_) AllReady.nil; go_simp; go_wp2_with (go_at_call 56; go_loud (refine (HDV.out wf b m d HF.out.1 (HX.out.2.2.trans HF.out.2.base_drew (fun _ _ _ h => h))).mono ?_; rintro e wg ⟨qa, qn, qc, ra, rn, rc, rfl, g1, g2, g3⟩; have HG := Lib.hid (And.intro g1 (And.intro g2 g3)); clear g1 g2 g3)); (try simp only [putL, putN, List.set_cons_zero, List.set_cons_succ]); refine wpAny_take (i := 7) (v := ?_) rfl (by kernel_rfl) (by kernel_rfl) (by kernel_rfl) (fun _ _ _ h => False.elim h) (Or.inl ⟨by rfl, ?_⟩) ?_; rotate_left 1
        · intro w9
          go_simp; (try with_reducible rfl)
        (try simp only [putL, putN, List.set_cons_zero, List.set_cons_succ]); refine wpAny_take (i := 8) (v := ?_) rfl (by kernel_rfl) (by kernel_rfl) (by kernel_rfl) (fun _ _ _ h => False.elim h) (Or.inl ⟨by rfl, ?_⟩) ?_; rotate_left 1
        · intro w9
          go_simp; (try with_reducible rfl)
        (try simp only [putL, putN, List.set_cons_zero, List.set_cons_succ]); refine wpAny_take (i := 9) (v := ?_) rfl (by kernel_rfl) (by kernel_rfl) (by kernel_rfl) (fun _ _ _ h => False.elim h) (Or.inl ⟨by rfl, ?_⟩) ?_; rotate_left 1
        · intro w9
          go_simp; (try with_reducible rfl)
        (try simp only [putL, putN, List.set_cons_zero, List.set_cons_succ]); refine wpAny_take (i := 10) (v := ?_) rfl (by kernel_rfl) (by kernel_rfl) (by kernel_rfl) (fun _ _ _ h => False.elim h) (Or.inl ⟨by rfl, ?_⟩) ?_; rotate_left 1
        · intro w9
          go_simp; (try with_reducible rfl)
        (try simp only [putL, putN, List.set_cons_zero, List.set_cons_succ]); refine wpAny_take (i := 11) (v := ?_) rfl (by kernel_rfl) (by kernel_rfl) (by kernel_rfl) (fun _ _ _ h => False.elim h) (Or.inl ⟨by rfl, ?_⟩) ?_; rotate_left 1
        · intro w9
          go_simp; (try with_reducible rfl)
        (try simp only [putL, putN, List.set_cons_zero, List.set_cons_succ]); refine wpAny_done (by kernel_rfl) ?_ _; refine NoPanic.normal ?_; go_wp2; go_meet; exact ⟨qa, qn, qc, ra, rn, rc, rfl, rfl, HG.out.1, HG.out.2.1, HF.out.2.base_drew.trans HG.out.2.2 (fun _ _ _ h => h)⟩
    case rest => as_aux_lemma =>
      obtain ⟨qa, qn, qc, ra, rn, rc, rfl, rfl, HQ⟩ := hcut; have hD0 : 0 ≤ V1 * 2 ^ K := Int.mul_nonneg (Int.le_of_lt hV1) (Int.le_of_lt (Int.pow_pos (by decide))); have hle : V1 * 2 ^ K / V2 ≤ V1 * 2 ^ K := Int.ediv_le_self _ hD0; have hqn : qn ≤ 16383 := HQ.out.1.len (by have := HSB.out; omega)
      have hqn0 : qn ≠ 0 := fun h0 => by
        have h1 := HQ.out.1.zero.1 h0; have h2 := ahead_bits (N := N) hV1 H12.out.2.2.2; rw [HK'.out, h1] at h2; have h3 : (0 : Int) < 2 ^ N := Int.pow_pos (by decide); omega
      have HS2 := Lib.hid (shl_fresh qa qn qc 1 _ wc HQ.out.1 hqn0 (by omega) (by omega)); have HZ := Lib.hid HQ.out.2.1.zero; have HW := Lib.hid hle; clear hD0 hle i0 i1 i2 j0 j1 j2; go_wp2_with fail; refine HS2.out.mono ?_; rintro e w3 ⟨b, m, d, rfl, g1, g2, g3⟩; rw [Int.pow_one] at g1
      have hm : m ≤ 16384 := g1.len (by
        rw [show SB ^ 16384 = SB ^ 16383 * SB from SB_succ _]; have := HSB.out; have := HW.out; have h3 : SB ^ 16383 * SB = SB ^ 16383 * 65536 := rfl; have h5 : (0 : Int) < SB ^ 16383 := Int.pow_pos (by decide)
        omega)
      have H3 := Lib.hid (And.intro g1 ((HQ.out.2.2.trans g2 (fun _ _ _ h => h)))); have HFr : Hid (Fresh w b) := fresh_in (HX.out.2.2.trans HQ.out.2.2 (fun _ _ _ h => h)) (HX.out.2.2.trans HQ.out.2.2 (fun _ _ _ h => h)) g3; clear g1 g2 g3
      by_cases h0 : rn = 0
      · have d1 : decide ((0 : Int) < (rn : Int)) = false := decide_eq_false (by omega)
        have d1' : decide (0 < rn) = false := decide_eq_false (by omega); have H0 := Lib.hid (HZ.out.1 h0); clear h0; obtain ⟨i0, i1, i2, _⟩ := HX0.out.1.chg H3.out.2 (fun _ h => h); obtain ⟨j0, j1, j2, _⟩ := HX0.out.2.1.chg H3.out.2 (fun _ h => h); have hC3 := HX0.out.2.2.1.chg H3.out.2 (fun _ h => h); have hZ3 := HX0.out.2.2.2.1.chg H3.out.2; obtain ⟨l0, l1, l2, lp⟩ := hC3; have f0 := lp.fz 0; have f1 := lp.fz 1; have f2 := lp.fz 2; have HC3 := Lib.hid (And.intro (DyC.mk l0 l1 l2 lp) hZ3); clear lp hZ3; go_wp2; refine bodyPost_ret (v := dyV (s1 != s2) b m d (E1 - E2 - (K : Int) - 1)) (res33 (HC3.out.1.three _ _ _ _ _) rfl) rfl ?_; have k3 := dy_row w3 p3 (.bool (s1 != s2)) (.slice b m d) (.int .i64 (E1 - E2 - (K : Int) - 1)); have hQ : V1 * 2 ^ K / V2 * 2 = aheadQ V1 V2 N := by unfold aheadQ; rw [HK'.out, if_pos H0.out, Int.add_zero]
        have hQ0 : 0 < aheadQ V1 V2 N := by have := aheadQ_pos (N := N) hV1 H12.out.2.2.2; have h5 : (0 : Int) < 2 ^ (N + 1) := Int.pow_pos (by decide); omega
        refine ⟨b, m, d, by rw [HK'.out], ?_, by omega, HFr.out, (HX.out.2.2.trans H3.out.2 (fun _ _ _ h => h)).trans k3 (fun b' o hb hh => by have := hh.1; have := HX0.out.2.2.2.2.1; omega)⟩; rw [← hQ]; exact H3.out.1.chg k3 (far3 H3.out.1 (by rw [hQ]; exact hQ0) HC3.out.1 HC3.out.2)
      · have d1 : decide ((0 : Int) < (rn : Int)) = true := decide_eq_true (by omega)
        have d1' : decide (0 < rn) = true := decide_eq_true (by omega); have H0 := Lib.hid (fun hh => h0 (HZ.out.2 hh)); have HS3 := Lib.hid (small_any 1 w3 (by omega)); clear h0; go_wp2_with fail; refine HS3.out.mono ?_; rintro e w4 ⟨b4, m4, d4, rfl, g1, g2⟩; have hm4 : m4 ≤ 1 := g1.len (by rw [Int.pow_one]; decide); have HS4 := Lib.hid (add_fresh b b4 m d m4 d4 _ _ w4 (H3.out.1.far g2) g1 (by omega) (by omega)); have K4 := Lib.hid (H3.out.2.trans g2 (fun _ _ _ h => h)); clear g1 g2; go_wp2_with fail; refine HS4.out.mono ?_; rintro e w5 ⟨b5, m5, d5, rfl, g1, g2, g3⟩
        have hm5 : m5 ≤ 16384 := g1.len (by
          rw [show SB ^ 16384 = SB ^ 16383 * SB from SB_succ _]; have := HSB.out; have := HW.out; have h3 : SB ^ 16383 * SB = SB ^ 16383 * 65536 := rfl; have h5 : (0 : Int) < SB ^ 16383 := Int.pow_pos (by decide)
          omega)
        have K5 := Lib.hid (And.intro g1 (K4.out.trans g2 (fun _ _ _ h => h))); have HFr5 : Hid (Fresh w b5) := fresh_in (HX.out.2.2.trans K4.out (fun _ _ _ h => h)) (HX.out.2.2.trans K4.out (fun _ _ _ h => h)) g3; clear g1 g2 g3; obtain ⟨i0, i1, i2, _⟩ := HX0.out.1.chg K5.out.2 (fun _ h => h); obtain ⟨j0, j1, j2, _⟩ := HX0.out.2.1.chg K5.out.2 (fun _ h => h); have hC3 := HX0.out.2.2.1.chg K5.out.2 (fun _ h => h); have hZ3 := HX0.out.2.2.2.1.chg K5.out.2; obtain ⟨l0, l1, l2, lp⟩ := hC3; have f0 := lp.fz 0; have f1 := lp.fz 1; have f2 := lp.fz 2; have HC3 := Lib.hid (And.intro (DyC.mk l0 l1 l2 lp) hZ3); clear lp hZ3; go_wp2; refine bodyPost_ret (v := dyV (s1 != s2) b5 m5 d5 (E1 - E2 - (K : Int) - 1)) (res33 (HC3.out.1.three _ _ _ _ _) rfl) rfl ?_; have k3 := dy_row w5 p3 (.bool (s1 != s2)) (.slice b5 m5 d5) (.int .i64 (E1 - E2 - (K : Int) - 1)); have hQ : V1 * 2 ^ K / V2 * 2 + 1 = aheadQ V1 V2 N := by unfold aheadQ; rw [HK'.out, if_neg H0.out]
        have hq0 : 0 ≤ V1 * 2 ^ K / V2 := HQ.out.1.nonneg; refine ⟨b5, m5, d5, by rw [HK'.out], ?_, by omega, HFr5.out, (HX.out.2.2.trans K5.out.2 (fun _ _ _ h => h)).trans k3 (fun b' o hb hh => by have := hh.1; have := HX0.out.2.2.2.2.1; omega)⟩; rw [← hQ]; exact K5.out.1.chg k3 (far3 K5.out.1 (by omega) HC3.out.1 HC3.out.2)
end Go.Proofs.YtmgfajamanakcaaGreatDoor.Si
