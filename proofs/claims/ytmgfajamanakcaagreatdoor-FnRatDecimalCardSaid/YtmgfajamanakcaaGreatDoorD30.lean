/- Part of the proof of FnParse: what the functions that it reaches do, as contracts. Conditions: those that each theorem names. -/
import Derived.Test.YtmgfajamanakcaaGreatDoorD29
import Derived.Deep.DeepCutAuto
import Derived.Deep.CutBlock
import Derived.Outline
namespace Go.Proofs.YtmgfajamanakcaaGreatDoor
set_option linter.unusedVariables false
set_option linter.unusedSimpArgs false
open Go.RowKit
set_option maxRecDepth 100000
def DLs (w wc : World) (az : Option Addr) (zc xn n p : Nat) (d d1 : Option SD) (a2 : Option Addr) (c2 bv ov bu ou cu s : Nat) (X V : Nat → Int) : Prop :=
  ∃ U V', DLb w wc az zc xn n p d d1 a2 c2 bv ov bu ou cu U V' ∧ WF U (xn + 1) ∧ WF V' n ∧ val U (xn + 1) = val X xn * 2 ^ s ∧ val V' n = val V n * 2 ^ s ∧ U xn < V' (n - 1) ∧ BB ≤ 2 * V' (n - 1)
theorem rd_rows {w w' : World} {b o n : Nat} {Z : Zone} {X : Nat → Int} (h : Rd w (some ⟨b, o, none⟩) n X) (k : Chg Z w w') (hz : ∀ i, i < n → ¬ Z b (o + i)) : Rd w' (some ⟨b, o, none⟩) n X := by
  rcases h with h | ⟨b2, o2, e, hw⟩
  · exact Or.inl h
  · injection e with e; injection e with e1 e2; subst e1; subst e2
    exact Or.inr ⟨b, o, rfl, hw.chg k hz⟩
set_option maxHeartbeats 8000000 in
theorem divLarge_any (az a2 ax av : Option Addr) (zl zc l2 c2 xn xc n cv p : Nat) (d : Option SD) (X V : Nat → Int) (w : World) (h : DLin w az zc a2 c2 ax xn xc av n cv p d X V) (h40 : n < 40) :
    Calls Tryz.prog 156 #[.slice az zl zc, .pointer (some ⟨p, 0, none⟩), .slice a2 l2 c2, .slice ax xn xc, .slice av n cv] w (DLRes w az zc a2 c2 p d (val X xn) (val V n)) := by
  obtain ⟨bX, oX, rfl, hX⟩ := h.x.words (by have := h.nx; have := h.n2; omega)
  obtain ⟨bV, oV, rfl, hV⟩ := h.v.words (by have := h.n2; omega)
  have HS := Lib.hid (save_any p d w h.s)
  have HN := Lib.hid (nat_any p d n w h.s (by have := h.n2; omega) (by have := h.nx; have := h.xs; omega) (by have := h.sl; omega))
  have n2 := h.n2
  have nx := h.nx
  have xs := h.xs
  have hvt := h.v.wf (n - 1) (by omega)
  have vt := h.vt
  have hsp := nlz_spec (x := V (n - 1)) (by have := hvt.1; omega) hvt.2
  have HL := Lib.hid (nlz_any (V (n - 1)) w hvt)
  have hc := hV (n - 1) (by omega)
  obtain ⟨vn, hvn⟩ : ∃ x, V (n - 1) = x := ⟨_, rfl⟩
  rw [hvn] at hc HL hsp
  obtain ⟨s, hs⟩ : ∃ s, nlzOf vn = s := ⟨_, rfl⟩
  rw [hs] at hsp HL
  have Hsp := Lib.hid (show V (n - 1) = vn ∧ 9223372036854775808 ≤ vn * 2 ^ s ∧ vn * 2 ^ s < 18446744073709551616 from ⟨hvn, hsp.2⟩)
  have hs64 : s < 64 := hsp.1
  have H := Lib.hid h
  have f1 : (0 : Int) ≤ (n : Int) - 1 := by omega
  have f2 : (n : Int) - 1 < (n : Int) := by omega
  have f3 : ((n : Int) - 1).toNat = n - 1 := by omega
  have f4 : IntKind.i64.wrap ((xn : Int) - (n : Int)) = (xn : Int) - (n : Int) := IntWalk.i64_in _ (by omega)
  have f5 : IntKind.i64.wrap ((xn : Int) + 1) = ((xn + 1 : Nat) : Int) := by rw [IntWalk.i64_in _ (by omega)]; omega
  have f6 : IntKind.i64.wrap ((xn : Int) - (n : Int) + 1) = ((xn + 1 - n : Nat) : Int) := by rw [IntWalk.i64_in _ (by omega)]; omega
  clear h hX hV hvt vt hsp hvn hs
  go_enter_defers Tryz.func156, Tryz.ntmps156
  go_wp2_with fail
  refine HS.out.mono ?_
  rintro e w0 ⟨rfl, rfl⟩
  go_wp2_with fail
  refine HL.out.mono ?_
  rintro e w1 ⟨rfl, rfl⟩
  clear hc
  go_wp2_with fail
  refine HN.out.mono ?_
  rintro e w1 ⟨d1, bv, ov, c1, rfl, g1, g2, g3, g4, g5, g6, g7, g8, g9, g10⟩
  have HG := Lib.hid (And.intro g1 (And.intro g2 (And.intro g3 (And.intro g4 (And.intro g5 (And.intro g6 (And.intro g7 (And.intro g8 (And.intro g9 g10)))))))))
  have z21 : ZOK w1 a2 c2 := H.out.z2.chg g10 (by rintro b o ⟨po, e, _⟩ hh; exact H.out.z2s b po e o hh)
  have HM := Lib.hid (make_any a2 l2 c2 (xn + 1) w1 z21 (by omega))
  have vc : n ≤ c1 := g1
  clear g1 g2 g3 g4 g5 g6 g7 g8 g9 g10 z21
  go_wp2_with fail
  refine HM.out.mono ?_
  rintro e w2 ⟨a, cu, rfl, m1, m2, m3, m4⟩
  obtain ⟨bu, ou, rfl, pu, ru⟩ := m2.room (by omega)
  have HA := Lib.hid (dl_a (bu := bu) (ou := ou) H.out HG.out.1 HG.out.2.1 HG.out.2.2.1 HG.out.2.2.2.2.1 HG.out.2.2.2.2.2.2.2.2.1 HG.out.2.2.2.2.2.2.2.2.2 m1 m2 m3 m4)
  have ucu : xn + 1 ≤ cu := m1
  clear m1 m2 m3 m4 pu ru HM HN HS HL
  have j1 : (0 : Int) ≤ (xn : Int) := by omega
  have j2 : (xn : Int) ≤ (cu : Int) := by omega
  have j3 : (xn : Int) < ((xn + 1 : Nat) : Int) := by omega
  go_upto_if 40 with fail
  go_cut [14] from 16 to 100 (fun s14 wc => s14 = .int .u64 (s : Int) ∧ Hid (DLs w0 wc az zc xn n p d d1 a2 c2 bv ov bu ou cu s X V))
  case first => as_aux_lemma =>
    by_cases h0 : s = 0
    · have hb : ((s : Int) == 0) = true := by simp [h0]
      have H0 := Lib.hid h0
      clear h0
      have HR1 := Lib.hid HA.out.rv
      go_upto_region 9 with (with_reducible refine wpList_copy_word rfl (.tmp 41) (.tmp 42) 120 120 rfl Tryz.underlying120 bv ov n c1 (some ⟨bV, oV, none⟩) n cv n V rfl rfl (Nat.min_self n).symm HA.out.hv HR1.out ?_; rintro w3 hw3; have HW3 := Lib.hid hw3; clear hw3)
      have HRX : Hid (Rd w3 (some ⟨bX, oX, none⟩) xn X) := rd_rows HA.out.rx HW3.out.1 (fun i hi => HA.out.xv bX oX i rfl hi)
      have HU3 : Hid (Room w3 bu ou (xn + 1)) := HW3.out.2.2 _ _ _ HA.out.hu
      go_upto_region 10 with (refine wpList_copy_word rfl (.tmp 47) (.tmp 48) 120 120 rfl Tryz.underlying120 bu ou xn cu (some ⟨bX, oX, none⟩) xn xc xn X rfl rfl (Nat.min_self xn).symm (HU3.out.le (by omega)) HRX.out ?_; rintro w4 hw4; have HW4 := Lib.hid hw4; clear hw4)
      obtain ⟨⟨z0, hz0⟩, hz1⟩ := HW4.out.2.2 _ _ _ HU3.out xn (by omega)
      go_wp2_with fail
      go_meet
      refine ⟨rfl, cutW X xn, V, ?_⟩
      have k5 := chg_cell w4 bu (ou + xn) (.int .u64 0)
      have q1 : Words (w4.setCell ⟨bu, ou + xn, none⟩ (.int .u64 0)) bu ou (xn + 1) (cutW X xn) := by
        intro i hi
        by_cases hx : i < xn
        · rw [cutW_in hx]
          exact k5.cell (HW4.out.2.1 i hx) (fun hh => by have := hh.2.1; omega)
        · obtain rfl : i = xn := by omega
          rw [cutW_out (Nat.le_refl _)]
          exact cs_same hz0
      have q2 : Words (w4.setCell ⟨bu, ou + xn, none⟩ (.int .u64 0)) bv ov n V :=
        (HW3.out.2.1.chg HW4.out.1 (fun i hi hh => HA.out.uv hh.1.symm)).chg k5 (fun i hi hh => HA.out.uv hh.1.symm)
      have q3 : Chg (zUV bv ov n bu ou (xn + 1)) w2 (w4.setCell ⟨bu, ou + xn, none⟩ (.int .u64 0)) :=
        ((HW3.out.1.mono (fun _ _ _ h => Or.inl h)).trans HW4.out.1 (fun b o _ h => Or.inr ⟨h.1, h.2.1, by have := h.2.2; omega⟩)).trans k5 (fun b o _ h => Or.inr ⟨h.1, by have := h.2.1; omega, by have := h.2.2; omega⟩)
      have hs0 := H0.out
      have e1 := Hsp.out
      rw [hs0, Int.pow_zero, Int.mul_one] at e1
      refine ⟨dl_b HA.out HG.out.2.2.2.2.2.1 HG.out.2.2.2.2.2.2.1 (fun i hi => HG.out.2.2.2.2.2.2.2.1 i (by omega)) ucu q3 q1 q2, ?_, H.out.v.wf, ?_, ?_, ?_, ?_⟩
      · intro i hi
        by_cases hx : i < xn
        · rw [cutW_in hx]; exact H.out.x.wf i hx
        · rw [cutW_out (by omega)]; exact ⟨by decide, by decide⟩
      · rw [hs0, Int.pow_zero, Int.mul_one, val_top (show xn ≤ xn + 1 by omega) (fun i h1 h2 => cutW_out h1)]
        exact val_congr (fun i hi => cutW_in hi)
      · rw [hs0, Int.pow_zero, Int.mul_one]
      · rw [cutW_out (Nat.le_refl _), e1.1]; omega
      · rw [e1.1]; unfold BB; omega
    · have hb : ((s : Int) == 0) = false := by simp; omega
      obtain ⟨_, _, e9, hwV⟩ : ∃ b o, (some ⟨bV, oV, none⟩ : Option Addr) = some ⟨b, o, none⟩ ∧ Words w2 b o n V := by
        rcases HA.out.rv with hh | hh
        · omega
        · exact hh
      injection e9 with e9; injection e9 with e7 e8; subst e7; subst e8
      have HLV := Lib.hid (lshVU_any bV oV bv ov n cv c1 V s w2 (by omega) (by omega) hwV H.out.v.wf HA.out.hv (by
        rcases HA.out.vv bV oV rfl with hh | hh | hh
        · exact Or.inl hh
        · exact Or.inr (Or.inl (by omega))
        · exact Or.inr (Or.inr hh)) (by omega) hs64)
      clear hwV
      go_wp2_with fail
      refine HLV.out.mono ?_
      rintro e w3 ⟨cv2, rfl, V', v1, v2, v3, v4, v5⟩
      have HV3 := Lib.hid (And.intro v1 (And.intro v2 (And.intro v3 (And.intro v4 v5))))
      have hRX := rd_rows HA.out.rx v1 (fun i hi => HA.out.xv bX oX i rfl hi)
      obtain ⟨_, _, e9, hwX⟩ : ∃ b o, (some ⟨bX, oX, none⟩ : Option Addr) = some ⟨b, o, none⟩ ∧ Words w3 b o xn X := by
        rcases hRX with hh | hh
        · omega
        · exact hh
      injection e9 with e9; injection e9 with e7 e8; subst e7; subst e8
      have hU3 : Room w3 bu ou (xn + 1) := HA.out.hu.chg v1 (fun i hi hh => HA.out.uv hh.1)
      have HLU := Lib.hid (lshVU_any bX oX bu ou xn xc cu X s w3 (by omega) (by omega) hwX H.out.x.wf (hU3.le (by omega)) (by
        rcases HA.out.xu bX oX rfl with hh | hh | hh
        · exact Or.inl hh
        · exact Or.inr (Or.inl (by omega))
        · exact Or.inr (Or.inr (by omega))) (by omega) hs64)
      have HU3 := Lib.hid hU3
      clear v1 v2 v3 v4 v5 hRX hwX hU3
      go_wp2_with fail
      refine HLU.out.mono ?_
      rintro e w4 ⟨cu2, rfl, Z, u1, u2, u3, u4, u5⟩
      have HU4 := Lib.hid (And.intro u1 (And.intro u2 (And.intro u3 (And.intro u4 u5))))
      obtain ⟨⟨z3, hz3⟩, hz4⟩ := HU3.out xn (by omega)
      have hz0 := u1.cell hz3 (fun hh => by have := hh.2.2; omega)
      have hz1 := (u1.frozen hz3 (ou + xn)).trans hz4
      clear u1 u2 u3 u4 u5 hz3 hz4
      go_wp2_with fail
      go_meet
      obtain ⟨v1, v2, v3, v4, v5⟩ := HV3.out
      obtain ⟨u1, u2, u3, u4, u5⟩ := HU4.out
      refine ⟨rfl, upd Z xn cu2, V', ?_⟩
      have k5 := chg_cell w4 bu (ou + xn) (.int .u64 cu2)
      have q1 : Words (w4.setCell ⟨bu, ou + xn, none⟩ (.int .u64 cu2)) bu ou (xn + 1) (upd Z xn cu2) := u2.snoc (by rw [hz0]; rfl)
      have q2 : Words (w4.setCell ⟨bu, ou + xn, none⟩ (.int .u64 cu2)) bv ov n V' :=
        (v2.chg u1 (fun i hi hh => HA.out.uv hh.1.symm)).chg k5 (fun i hi hh => HA.out.uv hh.1.symm)
      have q3 : Chg (zUV bv ov n bu ou (xn + 1)) w2 (w4.setCell ⟨bu, ou + xn, none⟩ (.int .u64 cu2)) :=
        ((v1.mono (fun _ _ _ h => Or.inl h)).trans u1 (fun b o _ h => Or.inr ⟨h.1, h.2.1, by have := h.2.2; omega⟩)).trans k5 (fun b o _ h => Or.inr ⟨h.1, by have := h.2.1; omega, by have := h.2.2; omega⟩)
      obtain ⟨k, hk⟩ : ∃ k, n = k + 1 := ⟨n - 1, by omega⟩
      have e1 := Hsp.out
      subst hk
      simp only [Nat.add_sub_cancel] at e1
      obtain ⟨n1, n2'⟩ := norm_shift (k := k) H.out.v.wf v3 v4.1 (by rw [e1.1]; exact e1.2.1) (by rw [e1.1]; exact e1.2.2) hs64 v5
      subst n1
      have hcs := carry_small H.out.x.wf u3 u5
      have hp63 := pow_le_63 hs64
      refine ⟨dl_b HA.out HG.out.2.2.2.2.2.1 HG.out.2.2.2.2.2.2.1 (fun i hi => HG.out.2.2.2.2.2.2.2.1 i (by omega)) ucu q3 q1 q2, WF_upd u3 u4, v3, ?_, ?_, ?_, ?_⟩
      · exact val_carry u5 (fun i hi => upd_other _ _ (by omega)) (upd_same _ _ _)
      · rw [Int.zero_mul, Int.add_zero] at v5; exact v5
      · rw [upd_same, Nat.add_sub_cancel]; omega
      · rw [Nat.add_sub_cancel]; unfold BB; omega
  case rest => as_aux_lemma =>
    obtain ⟨rfl, HD⟩ := hcut
    obtain ⟨U, V', hb, hUw, hVw, eU, eV, htop, hbit⟩ := HD.out
    have hal : aliasB az zc (some ⟨bu, ou, none⟩) cu = false := by
      rcases H.out.z with ⟨rfl, _⟩ | ⟨b, o, rfl, _⟩
      · rfl
      · unfold aliasB
        simp [hb.zu b o rfl]
    have HAl := Lib.hid (alias_any az (some ⟨bu, ou, none⟩) zl zc (xn + 1) cu wc hb.z.aok hb.zk.aok)
    obtain ⟨mq, hmq⟩ : ∃ mq, mq + n = xn + 1 := ⟨xn + 1 - n, by omega⟩
    have em : (xn : Int) - (n : Int) + 1 = (mq : Int) := by omega
    have HMq := Lib.hid (fun k => make_any az zl zc mq (wc.drewN k) (hb.z.chg ((Chg.refl zNone wc).drewN k) (fun _ _ _ h => h)) (by omega))
    have HB0 := Lib.hid hb
    have HUV := Lib.hid (And.intro hUw (And.intro hVw (And.intro eU (And.intro eV (And.intro htop hbit)))))
    have Hal := Lib.hid hal
    clear hb hUw hVw eU eV htop hbit hal HA
    go_wp2_with fail
    refine HAl.out.mono ?_
    rintro e w3 ⟨rfl, k3, rfl⟩
    rw [Hal.out]
    go_wp2_with fail
    refine (HMq.out k3).mono ?_
    rintro e w6 ⟨aq, cq, rfl, q1, q2, q3, q4⟩
    obtain ⟨bq, oq, rfl, pq, rq⟩ := q2.room (by omega)
    have k36 : Chg zNone wc w6 := ((Chg.refl zNone wc).drewN k3).trans q4 (fun _ _ _ h => h)
    have q3' : Home wc az zc (some ⟨bq, oq, none⟩) cq := q3
    have hq := dl_q HB0.out H.out.z (by omega) H.out.zS HG.out.2.2.1 q2 q3' k36
    have hk4 := hq.b.k4
    have d40 : decide ((n : Int) < 40) = true := by simp; omega
    have d40' : decide (n < 40) = true := by simp; omega
    have HB := Lib.hid (divBasic_any bq oq cq bu ou cu bv ov c1 p mq n d1 U V' w6 (by omega) n2 (by omega) (rq.le q1) (by rw [hmq]; exact hq.b.hU) (by rw [hmq]; exact hq.b.fU) (by rw [hmq]; exact HUV.out.1) hq.b.hV HUV.out.2.1
      (by rw [hmq, show xn + 1 - 1 = xn by omega]; exact HUV.out.2.2.2.2.1) HUV.out.2.2.2.2.2 hq.b.s (by have := HG.out.2.2.2.1; have := H.out.sl; omega) (by omega) hq.qu hq.qv hq.b.uv (fun i hi => hq.qs _) (fun i hi => hq.b.us _) hq.b.vs)
    rw [hmq] at HB
    have HQ := Lib.hid hq
    have mqc : mq ≤ cq := q1
    have Hem := Lib.hid em
    clear q1 q2 q3 q4 pq rq k36 q3' hq HAl HMq
    go_wp2_with fail
    refine HB.out.mono ?_
    rintro e w7 ⟨rfl, Q, R, d2, b1, b2, b3, b4, b5, b6, b7, b8, b9, b10⟩
    obtain ⟨i0, hi, hz0, hz1, hz2⟩ := info_parts info153
    have cq9 : cq < 9223372036854775808 := HQ.out.q.cap
    have cu9 : cu < 9223372036854775808 := HQ.out.b.zk.cap
    have HNq := Lib.hid (norm_any (some ⟨bq, oq, none⟩) mq cq Q w7 (Or.inr ⟨bq, oq, rfl, b1⟩) mqc cq9)
    have hVp : 0 < val V' n := val_top_pos HUV.out.2.1 (by omega) (by have := HUV.out.2.2.2.2.2; unfold BB at this; omega)
    have hp : (0 : Int) < 2 ^ s := Int.pow_pos (by decide)
    have hQv : val Q mq = val X xn / val V n := by
      rw [b5, hmq, HUV.out.2.2.1, HUV.out.2.2.2.1, scale_div hp]
    have hRv : val R (xn + 1) = val X xn % val V n * 2 ^ s := by
      rw [← hmq, b6, hmq, HUV.out.2.2.1, HUV.out.2.2.2.1, scale_mod hp]
    have HR := Lib.hid (And.intro hQv hRv)
    rw [hmq] at b3 b4
    have HBx := Lib.hid (And.intro b1 (And.intro b2 (And.intro b3 (And.intro b4 (And.intro b7 (And.intro b8 (And.intro b9 b10)))))))
    clear b1 b2 b3 b4 b5 b6 b7 b8 b9 b10 hVp hp hQv hRv HB hz0 hz1 hz2 hi
    go_wp2_with fail
    refine HNq.out.mono ?_
    rintro e w8 ⟨iq, rfl, n1, n2', n3, rfl⟩
    have HI := Lib.hid (And.intro n1 (And.intro n2' n3))
    clear n1 n2' n3 HNq
    by_cases h0 : s = 0
    · have hne : ((s : Int) != 0) = false := by simp [h0]
      have HNr := Lib.hid (norm_any (some ⟨bu, ou, none⟩) (xn + 1) cu R w7 (Or.inr ⟨bu, ou, rfl, HBx.out.2.2.1⟩) ucu cu9)
      have H0 := Lib.hid h0
      clear h0
      go_wp2_with fail
      refine HNr.out.mono ?_
      rintro e w9 ⟨ir, rfl, t1, t2, t3, rfl⟩
      have HT := Lib.hid (And.intro t1 (And.intro t2 t3))
      clear t1 t2 t3 HNr
      go_wp2
      refine leaves_cons (f := 167) (args := #[.pointer (some ⟨p, 0, none⟩), .int .i64 (stkL d)]) (by simp) (by simp [go_sem]) ?_
      refine (restore_d p d2 (stkL d) .returning _ HBx.out.2.2.2.2.1 (by have h1 := HBx.out.2.2.2.2.2.2.1; have h2 := HG.out.2.2.1.le; omega)).mono ?_
      rintro e u' w'' ⟨rfl, rfl, hrest⟩
      refine ⟨_, results_tmp2 rfl _ _ _, ?_⟩
      obtain ⟨c1', c2', c3', c4', c5', c6', c7', c8'⟩ := HBx.out
      have hR := HR.out.2
      rw [H0.out, Int.pow_zero, Int.mul_one] at hR
      refine dl_end HQ.out HG.out.2.2.1 H.out.z hmq mqc ucu c1' c2' c5' c6' c8' (Chg.refl _ _) c3' c4' HI.out.1 HI.out.2.2 ?_ HT.out.1 HT.out.2.2 ?_ hrest
      · rw [← HR.out.1]; exact (val_top HI.out.1 HI.out.2.1).symm
      · rw [← hR]; exact (val_top HT.out.1 HT.out.2.1).symm
    · have hne : ((s : Int) != 0) = true := by simp; omega
      have hfree : Room w7 bu ou (xn + 1) := HBx.out.2.2.1.room (fun i hi => by
        rw [HBx.out.2.2.2.2.2.2.2.frozen (HQ.out.b.hU i hi)]; exact HQ.out.b.fU i hi)
      have HS2 := Lib.hid (rshVU_any bu ou bu ou (xn + 1) cu cu R s w7 (by omega) (by omega) HBx.out.2.2.1 HBx.out.2.2.2.1 hfree (Or.inr (Or.inl (Nat.le_refl _))) (by omega) hs64)
      clear hfree h0
      go_wp2_with fail
      refine HS2.out.mono ?_
      rintro e w8 ⟨cy, rfl, R2, r1, r2, r3, r4⟩
      have HR2 := Lib.hid (And.intro r1 (And.intro r2 (And.intro r3 (shr_of_post r4))))
      have HNr := Lib.hid (norm_any (some ⟨bu, ou, none⟩) (xn + 1) cu R2 w8 (Or.inr ⟨bu, ou, rfl, r2⟩) ucu cu9)
      clear r1 r2 r3 r4 HS2
      go_wp2_with fail
      refine HNr.out.mono ?_
      rintro e w9 ⟨ir, rfl, t1, t2, t3, rfl⟩
      have HT := Lib.hid (And.intro t1 (And.intro t2 t3))
      clear t1 t2 t3 HNr
      go_wp2
      have hs8 : Stk w8 p d2 := by
        have us2 : ∀ o, ¬ zStk p d2 bu o := fun o hh => HQ.out.b.us o (HBx.out.2.2.2.2.2.1.zone _ _ HQ.out.b.pu.lt hh)
        refine HBx.out.2.2.2.2.1.chg HR2.out.1 (fun hh => us2 0 (by rw [← hh.1]; exact zStk_p)) (fun s' e => ⟨fun hh => us2 0 (by rw [← hh.1, e]; exact zStk_q), ?_⟩)
        rintro b o _ ⟨rfl, h1, h2⟩
        have hy := HR2.out.2.1 (o - ou) (by omega)
        rw [show ou + (o - ou) = o by omega] at hy
        exact ⟨_, hy⟩
      refine leaves_cons (f := 167) (args := #[.pointer (some ⟨p, 0, none⟩), .int .i64 (stkL d)]) (by simp) (by simp [go_sem]) ?_
      refine (restore_d p d2 (stkL d) .returning _ hs8 (by have h1 := HBx.out.2.2.2.2.2.2.1; have h2 := HG.out.2.2.1.le; omega)).mono ?_
      rintro e u' w'' ⟨rfl, rfl, hrest⟩
      refine ⟨_, results_tmp2 rfl _ _ _, ?_⟩
      obtain ⟨c1', c2', c3', c4', c5', c6', c7', c8'⟩ := HBx.out
      have hp : (0 : Int) < 2 ^ s := Int.pow_pos (by decide)
      refine dl_end HQ.out HG.out.2.2.1 H.out.z hmq mqc ucu c1' c2' c5' c6' c8' HR2.out.1 HR2.out.2.1 HR2.out.2.2.1 HI.out.1 HI.out.2.2 ?_ HT.out.1 HT.out.2.2 ?_ hrest
      · rw [← HR.out.1]; exact (val_top HI.out.1 HI.out.2.1).symm
      · rw [← val_top HT.out.1 HT.out.2.1, HR2.out.2.2.2, HR.out.2, Int.mul_ediv_cancel _ (by omega)]
structure DGin (w : World) (az : Option Addr) (zc : Nat) (a2 : Option Addr) (c2 : Nat) (ax : Option Addr) (xn xc : Nat) (av : Option Addr) (n cv p : Nat) (d : Option SD) (X V : Nat → Int) : Prop where
  z : ZOK w az zc
  z2 : ZOK w a2 c2
  x : NatIn w ax xn xc X
  v : NatIn w av n cv V
  xN : Norm X xn
  vt : V (n - 1) ≠ 0
  n1 : 1 ≤ n
  xs : xn < 4294967296
  s : Stk w p d
  sl : stkL d < 34359738368
  k4 : w.cell? ⟨4, 0, none⟩ = some (.int .i64 40)
  zz : ∀ b o b' o', az = some ⟨b, o, none⟩ → a2 = some ⟨b', o', none⟩ → b ≠ b'
  zS : ∀ b o, az = some ⟨b, o, none⟩ → SepB p d b
  z2S : ∀ b o, a2 = some ⟨b, o, none⟩ → SepB p d b
  xS : ∀ b o i, ax = some ⟨b, o, none⟩ → i < xn → ¬ zStk p d b (o + i)
  vS : ∀ b o i, av = some ⟨b, o, none⟩ → i < n → ¬ zStk p d b (o + i)
  x2 : Disj a2 c2 ax xn
  v2 : Disj a2 c2 av n
  xa : Apart az zc ax xn
  k4s : ¬ zStk p d 4 0
  k42 : ¬ zAddr a2 c2 4 0
theorem dlres_two {w w' : World} {az : Option Addr} {zc : Nat} {a2 : Option Addr} {c2 p : Nat} {d : Option SD} {u v : Int} {e : Ending} (hs : Stk w p d) (zS : ∀ b o, az = some ⟨b, o, none⟩ → SepB p d b) (z2S : ∀ b o, a2 = some ⟨b, o, none⟩ → SepB p d b)
    (h : DivRes w az zc a2 c2 u v (zTwo az zc a2 c2) e w') : DLRes w az zc a2 c2 p d u v e w' := by
  obtain ⟨qa, qn, qc, Q, ra, rn, rc, R, rfl, h2, h3, h4, h5⟩ := h
  have hz : ∀ b o, zTwo az zc a2 c2 b o → SepB p d b := by
    rintro b o (⟨po, e1, _⟩ | ⟨po, e1, _⟩)
    · exact zS b po e1
    · exact z2S b po e1
  have home : ∀ {az' a : Option Addr} {zc' c' : Nat}, (∀ b o, az' = some ⟨b, o, none⟩ → SepB p d b) → Home w az' zc' a c' → ∀ b o, a = some ⟨b, o, none⟩ → SepB p d b := by
    intro az' a zc' c' hS hh b o e
    rcases hh with ⟨g, _⟩ | ⟨b2, o2, g, hb⟩
    · exact hS b o (g.symm.trans e)
    · rw [g] at e; injection e with e; injection e with e3 _; exact hs.sep_new (by omega)
  refine ⟨d, ?_, StkFrom.refl, rfl, ⟨qa, qn, qc, Q, ra, rn, rc, R, rfl, h2, h3, h4.mono (fun _ _ _ h => Or.inl h), h5⟩, SepE.of (home zS h2.2.2.2.2.2.2) (home z2S h3.2.2.2.2.2.2)⟩
  refine hs.chg h4 (fun hh => (hz _ _ hh).1 rfl) (fun s e => ⟨fun hh => ((hz _ _ hh).2 s e).1 rfl, ?_⟩)
  rintro b o ⟨po, e1, _⟩ hh
  exact absurd rfl (((hz _ _ hh).2 s e).2 b po e1)
set_option maxHeartbeats 4000000 in
theorem div_large (az a2 ax av : Option Addr) (zl zc l2 c2 xn xc n cv p : Nat) (d : Option SD) (X V : Nat → Int) (w : World) (h : DGin w az zc a2 c2 ax xn xc av n cv p d X V) (n2 : 2 ≤ n) (hlt : val V n ≤ val X xn) (h40 : n < 40) :
    Calls Tryz.prog 102 #[.slice az zl zc, .pointer (some ⟨p, 0, none⟩), .slice a2 l2 c2, .slice ax xn xc, .slice av n cv] w (DLRes w az zc a2 c2 p d (val X xn) (val V n)) := by
  have hxn : n ≤ xn := by
    by_cases hh : n ≤ xn
    · exact hh
    · exfalso
      have h1 := val_lt (h.x.wf)
      obtain ⟨k, hk⟩ : ∃ k, n = k + 1 := ⟨n - 1, by omega⟩
      have h2 := val_snoc V k
      have h3 := val_nonneg (h.v.wf.le (show k ≤ n by omega))
      have h4 := (h.v.wf (n - 1) (by omega)).1
      have h5 := h.vt
      rw [hk, Nat.add_sub_cancel] at h4 h5
      have h6 := Int.mul_le_mul_of_nonneg_left (show 1 ≤ V k by omega) (Int.le_of_lt (BBn_pos k))
      have h7 : BB ^ xn ≤ BB ^ k := by
        obtain ⟨j, hj⟩ : ∃ j, k = xn + j := ⟨k - xn, by omega⟩
        rw [hj, Int.pow_add]
        have := Int.mul_le_mul_of_nonneg_left (show 1 ≤ BB ^ j by have := BBn_pos j; omega) (Int.le_of_lt (BBn_pos xn))
        omega
      rw [hk] at hlt
      omega
  have d0 : ((n : Int) == 0) = false := beq_false_of_ne (by omega)
  have d1 : ((n : Int) == 1) = false := beq_false_of_ne (by omega)
  have hnv : Norm V n := Or.inr h.vt
  have HC := Lib.hid (cmp_any ax av xn xc n cv X V w h.x h.v h.xN hnv)
  have hcv : ¬ cmpV (val X xn) (val V n) < 0 := by unfold cmpV; split <;> (try split) <;> omega
  obtain ⟨cc, hcc⟩ : ∃ c, cmpV (val X xn) (val V n) = c := ⟨_, rfl⟩
  rw [hcc] at hcv
  have Hcc := Lib.hid hcc
  have d2 : decide (cc < 0) = false := by simp; omega
  have HD := Lib.hid (fun k => divLarge_any az a2 ax av zl zc l2 c2 xn xc n cv p d X V (w.drewN k) ⟨h.z, h.z2, ⟨h.x.rd, h.x.wf, h.x.le, h.x.small, h.x.aok⟩, ⟨h.v.rd, h.v.wf, h.v.le, h.v.small, h.v.aok⟩, h.vt, n2, hxn, h.xs, h.s, h.sl, h.k4, h.zz, h.zS, h.z2S, h.xS, h.vS, h.x2, h.v2, h.k4s, h.k42⟩ h40)
  clear h hlt hnv hcc
  go_enter Tryz.func102, Tryz.ntmps102
  go_wp2_with fail
  refine HC.out.mono ?_
  rintro e w1 ⟨rfl, k, rfl⟩
  rw [Hcc.out]
  go_wp2_with fail
  refine (HD.out k).mono ?_
  rintro e w2 ⟨d', s1, s2, s3, ⟨qa, qn, qc, Q, ra, rn, rc, R, rfl, h2, h3, h4, h5⟩, h6⟩
  have H2 := Lib.hid (And.intro s1 (And.intro s2 (And.intro s3 (And.intro h2 (And.intro h3 (And.intro h4 (And.intro h5 h6)))))))
  clear s1 s2 s3 h2 h3 h4 h5 h6
  go_wp2
  go_ret2
  obtain ⟨s1, s2, s3, h2, h3, h4, h5, h6⟩ := H2.out
  exact ⟨d', s1, s2, s3, ⟨qa, qn, qc, Q, ra, rn, rc, R, rfl, h2, h3, ⟨h4.os, h4.tape, h4.output, h4.size, h4.same, h4.cells⟩, h5⟩, h6⟩
theorem div_any (az a2 ax av : Option Addr) (zl zc l2 c2 xn xc n cv p : Nat) (d : Option SD) (X V : Nat → Int) (w : World) (h : DGin w az zc a2 c2 ax xn xc av n cv p d X V) (h40 : n < 40) :
    Calls Tryz.prog 102 #[.slice az zl zc, .pointer (some ⟨p, 0, none⟩), .slice a2 l2 c2, .slice ax xn xc, .slice av n cv] w (DLRes w az zc a2 c2 p d (val X xn) (val V n)) := by
  by_cases h1 : n = 1
  · subst h1
    refine (div_word az a2 ax av zl zc l2 c2 xn xc cv (.pointer (some ⟨p, 0, none⟩)) X V w h.z h.z2 h.x h.xN h.xa h.v h.vt h.zz).mono ?_
    intro e w' hh
    exact dlres_two h.s h.zS h.z2S hh
  · have n2 : 2 ≤ n := by have := h.n1; omega
    by_cases hlt : val X xn < val V n
    · refine (div_less az a2 ax av zl zc l2 c2 xn xc n cv (.pointer (some ⟨p, 0, none⟩)) X V w h.z h.z2 h.x h.xN h.v (Or.inr h.vt) n2 hlt h.zz).mono ?_
      intro e w' hh
      exact dlres_two h.s h.zS h.z2S hh
    · exact div_large az a2 ax av zl zc l2 c2 xn xc n cv p d X V w h n2 (by omega) h40
end Go.Proofs.YtmgfajamanakcaaGreatDoor
