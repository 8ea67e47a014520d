/- Part of the proof of FnParse: what the functions that it reaches do, as contracts. Conditions: those that each theorem names. -/
import Derived.Test.YtmgfajamanakcaaGreatDoorT40
import Derived.Test.YtmgfajamanakcaaGreatDoorT41
import Derived.Test.YtmgfajamanakcaaGreatDoorT37
import Derived.Test.YtmgfajamanakcaaGreatDoorT01
import Derived.Test.YtmgfajamanakcaaGreatDoorTie
import Derived.Test.YtmgfajamanakcaaGreatDoorCards
import Derived.SevenTiedAt
import Derived.OpenShut
import Derived.LaidLaws
import Derived.MakeChecks
import Derived.ChangeMaps5
namespace Go.Proofs.YtmgfajamanakcaaGreatDoor
set_option linter.unusedVariables false
set_option linter.unusedSimpArgs false
open Go Go.RowKit Si
set_option maxRecDepth 100000
theorem DecS.small {t : ByteArray} {V : Int} (h : DecS t V) (hV : V < BB ^ 20) : t.size ≤ 400 := by
  obtain ⟨_, h2, h3⟩ := h
  rcases Nat.lt_or_ge 400 t.size with h | h
  · exfalso
    rcases h3 with h3 | h3
    · omega
    · have h4 := ten_le (show 400 ≤ t.size - 1 by omega)
      have h5 : BB ^ 20 < (10 : Int) ^ 400 := by decide +kernel
      omega
  · exact h
set_option maxHeartbeats 8000000 in
theorem law4 (xn : Bool) (ua : Option Addr) (un uc : Nat) (U : Nat → Int) (da : Option Addr) (dn dc : Nat) (D : Nat → Int) (w : World) (hu : Rd w ua un U) (hU : WF U un) (hd : Rd w da dn D) (hD : WF D dn) (hg : Glob w) :
    Calls Tryz.prog 4 #[fracV xn ua un uc da dn dc] w fun e w' => e = .returned (.bool true) ∧ Chg zNone w w' := by
  obtain ⟨wA, hwA⟩ : ∃ wA, wA = w.alloc (.cells #[.bool xn, .slice ua un uc, .slice da dn dc] 31) := ⟨_, rfl⟩
  have kA : Chg zNone w wA := by rw [hwA]; exact (Chg.refl _ _).alloc _
  have hF : ∀ i v, (#[Value.bool xn, .slice ua un uc, .slice da dn dc])[i]? = some v → wA.cell? ⟨w.heap.size, i, none⟩ = some v := fun i v h => by
    rw [hwA]; exact three_cells w _ _ _ 31 i v h
  have far : ∀ {W : World}, Chg zNone wA W → Chg zNone w W := fun k => kA.trans k (fun _ _ _ h => h)
  have HFit : Hid (∀ W, Calls Tryz.prog 17 #[fracV xn ua un uc da dn dc] W (FitsP W (decide (un ≤ 2147483647) && decide (dn ≤ 2147483647)))) := fun W => fits3_any xn ua un uc da dn dc W
  have HFr : Hid (∀ W, Chg zNone wA W → un < 4611686018427387904 → dn < 4611686018427387904 → Calls Tryz.prog 18 #[fracV xn ua un uc da dn dc, .int .i64 20] W (FracLP W xn U un D dn)) := fun W k hun hdn => fraction18_any xn ua un uc U da dn dc D W (rd_far hu (far k) (fun _ _ _ _ _ h => h)) hU (rd_far hd (far k) (fun _ _ _ _ _ h => h)) hD hun hdn
  have HTx : Hid (∀ W, Chg zNone wA W → un ≤ 20 → dn ≤ 20 → val D dn ≠ 0 → Calls Tryz.prog 22 #[fracV xn ua un uc da dn dc] W (StrP W (xn && decide (val U un ≠ 0)) (val U un) (val D dn))) := fun W k h1 h2 h3 => rattext_any xn ua un uc U da dn dc D W (rd_far hu (far k) (fun _ _ _ _ _ h => h)) hU (by omega) (rd_far hd (far k) (fun _ _ _ _ _ h => h)) hD (by omega) h3 (hg.far (far k))
  have HSh : Hid (∀ W, Chg zNone wA W → un ≤ 20 → dn ≤ 20 → val D dn ≠ 0 → Calls Tryz.prog 23 #[fracV xn ua un uc da dn dc] W (ShortP W (xn && decide (val U un ≠ 0)) (val U un) (val D dn))) := fun W k h1 h2 h3 => ratshort_any xn ua un uc U da dn dc D W (rd_far hu (far k) (fun _ _ _ _ _ h => h)) hU (by omega) (rd_far hd (far k) (fun _ _ _ _ _ h => h)) hD (by omega) h3 (hg.far (far k))
  have HUU := Lib.hid (And.intro hU hD)
  have HA := Lib.hid (And.intro kA (And.intro hF hwA))
  have f0 := hF 0 _ rfl
  have f1 := hF 1 _ rfl
  have f2 := hF 2 _ rfl
  rw [hwA] at f0 f1 f2
  clear hu hU hd hD kA hF hwA far hg
  unfold fracV at *
  go_enter Tryz.func4, Tryz.ntmps4
  go_wp2_with fail
  rw [← HA.out.2.2]
  refine (HFit.out wA).mono ?_
  rintro e w1 ⟨rfl, k1⟩
  obtain ⟨fb, hfb⟩ : ∃ b, (decide (un ≤ 2147483647) && decide (dn ≤ 2147483647)) = b := ⟨_, rfl⟩
  rw [hfb]
  have K1 := Lib.hid k1
  have x0 := k1.cell (HA.out.2.1 0 _ rfl) (fun h => h)
  have x1 := k1.cell (HA.out.2.1 1 _ rfl) (fun h => h)
  have x2 := k1.cell (HA.out.2.1 2 _ rfl) (fun h => h)
  have HFB := Lib.hid hfb
  clear k1 f0 f1 f2 hfb
  cases fb with
  | false =>
    go_wp2_with fail
    go_ret
    exact ⟨rfl, HA.out.1.trans K1.out (fun _ _ _ h => h)⟩
  | true =>
    have hsz : Hid (un < 4611686018427387904 ∧ dn < 4611686018427387904) := by
      have h := HFB.out
      rw [Bool.and_eq_true, decide_eq_true_eq, decide_eq_true_eq] at h
      exact Lib.hid ⟨by omega, by omega⟩
    go_wp2_with fail
    refine (HFr.out w1 K1.out hsz.out.1 hsz.out.2).mono ?_
    rintro e w2 ⟨ng, a, n, c, b, m, d, r, rfl, k2, hr⟩
    have K2 := Lib.hid (K1.out.trans k2 (fun _ _ _ h => h))
    have Hr := Lib.hid hr
    clear k2 x0 x1 x2
    unfold ratV
    have hr' := hr
    clear hr
    cases r with
    | false =>
      clear hr'
      go_wp2_with fail
      go_ret
      exact ⟨rfl, HA.out.1.trans (K2.out.alloc _) (fun _ _ _ h => h)⟩
    | true =>
      obtain ⟨r1, r2, r3, rfl, r5, r6, r7, r8, r9, r10, r11⟩ := hr' rfl
      have kal : Chg zNone w2 (w2.alloc (.cells #[.bool ng, .slice a n c, .slice b m d] 45)) := (Chg.refl _ _).alloc _
      obtain ⟨w3, hw3⟩ : ∃ w3, w3 = w2.alloc (.cells #[.bool ng, .slice a n c, .slice b m d] 45) := ⟨_, rfl⟩
      have hC : C3 w3 w2.heap.size (.bool ng) (.slice a n c) (.slice b m d) := by rw [hw3]; exact newC3 w2 _ _ _ 45
      rw [← hw3] at kal
      have HD1 := Lib.hid (Si.digits_any a n c (val U un) w3 (r7.far kal) (by omega))
      have HB := Lib.hid (And.intro hC (And.intro kal (And.intro r7 (And.intro r10 (And.intro r9 (And.intro r5 (And.intro r1 (And.intro r2 r3))))))))
      have HW3 := Lib.hid hw3
      clear hr' r1 r2 r3 r5 r6 r7 r8 r9 r10 r11 kal hC hw3
      go_wp2_with fail
      rw [← HW3.out]
      refine HD1.out.mono ?_
      rintro e w4 ⟨t1, rfl, p1, p2⟩
      have hC4 := HB.out.1.chg p2 (fun _ h => h)
      have l0 := hC4.c0
      have l1 := hC4.c1
      have l2 := hC4.c2
      have hsz1 : t1.size ≤ 400 := p1.small (Int.lt_of_lt_of_le (val_lt HUU.out.1) (ipow_le (show (1 : Int) ≤ BB by decide) HB.out.2.2.2.2.2.2.1))
      have H4 := Lib.hid (And.intro p1 (And.intro p2 hC4))
      clear p1 p2 hC4
      go_upto_if 21 with fail
      go_cut [5] (fun s5 wc => s5 = .string (if ng = true then (⟨#[45]⟩ : ByteArray) ++ t1 else t1) ∧ wc = w4)
      case first => as_aux_lemma =>
        cases ng with
        | true =>
          go_wp2_with fail
          go_meet
          exact ⟨rfl, rfl⟩
        | false =>
          go_wp2_with fail
          go_meet
          exact ⟨rfl, rfl⟩
      case rest =>
        obtain ⟨s1, hs1⟩ : ∃ x, x = (if ng = true then (⟨#[45]⟩ : ByteArray) ++ t1 else t1) := ⟨_, rfl⟩
        rw [← hs1] at hcut
        obtain ⟨rfl, rfl⟩ := hcut
        have hszs : s1.size ≤ 401 := by
          rw [hs1]
          split
          · rw [ByteArray.size_append]; have : (⟨#[45]⟩ : ByteArray).size = 1 := rfl; omega
          · omega
        have hsc : (s1 ++ (⟨#[47]⟩ : ByteArray)).size ≤ 402 := by rw [ByteArray.size_append]; have : (⟨#[47]⟩ : ByteArray).size = 1 := rfl; omega
        have HS1 := Lib.hid hs1
        clear hs1
        have HD2 := Lib.hid (Si.digits_any b m d (val D dn) wc ((HB.out.2.2.2.1.far HB.out.2.1).far H4.out.2.1) (by have := HB.out.2.2.2.2.1; have := HB.out.2.2.2.2.2.2.2.1; omega))
        go_wp2_with fail
        refine HD2.out.mono ?_
        rintro e w5 ⟨t2, rfl, p1, p2⟩
        have hC5 := H4.out.2.2.chg p2 (fun _ h => h)
        have m0 := hC5.c0
        have m1 := hC5.c1
        have m2 := hC5.c2
        have hsz2 : t2.size ≤ 400 := p1.small (Int.lt_of_lt_of_le (val_lt HUU.out.2) (ipow_le (show (1 : Int) ≤ BB by decide) HB.out.2.2.2.2.2.2.2.1))
        have H5 := Lib.hid (And.intro p1 (And.intro p2 hC5))
        clear p1 p2 hC5 l0 l1 l2
        have hNb : Si.NatV w5 b m d (val D dn) := (((HB.out.2.2.2.1.far HB.out.2.1).far H4.out.2.1).far H5.out.2.1)
        obtain ⟨z, hz⟩ : ∃ z, cmpV (val D dn) 1 = z := ⟨_, rfl⟩
        have HCp : Hid (∀ W oa on oc, Chg zNone w5 W → Si.NatV W oa on oc 1 → Calls Tryz.prog 20 #[.slice b m d, .slice oa on oc] W fun e w' => e = .returned (.int .i64 z) ∧ Chg zNone W w') := fun W oa on oc k h => by
          refine (Si.cmp_any b oa m d on oc (val D dn) 1 W (hNb.far k) h (by have := HB.out.2.2.2.2.1; have := HB.out.2.2.2.2.2.2.2.1; omega) (by have := h.len (k := 1) (by rw [Int.pow_one]; unfold SB; omega); omega)).mono ?_
          rintro e w' ⟨rfl, k, rfl⟩
          exact ⟨by rw [hz], (Chg.refl _ _).drewN k⟩
        have Hz := Lib.hid hz
        clear hNb hz
        go_upto_region 10 with fail
        go_cut [34] (fun s34 wc => s34 = .bool (z == 0) ∧ Hid (Chg zNone w5 wc))
        case first => as_aux_lemma =>
          refine wp_region_noPanic ?_
          refine wp_region_any (by kernel_rfl) ?_
          change wpAny _ _ _ _ _ _ _ (World.drew _)
          refine wpAny_take (i := 0) (v := ?_) rfl (by kernel_rfl) (by kernel_rfl) (by kernel_rfl) (fun _ _ _ h => False.elim h) (Or.inl ⟨by rfl, ?_⟩) ?_
          rotate_left 1
          · intro w9
            go_simp
            try with_reducible rfl
          try simp only [putL, putN, List.set_cons_zero, List.set_cons_succ]
          refine wpAny_ready (rs := [1, 2]) (by kernel_rfl) (by simp) ?_
          refine AllReady.cons rfl (fun K hK => ?_) (AllReady.cons rfl (fun K hK => ?_) AllReady.nil)
          · skip
            go_simp
            refine hK _ _ ?_
            clear hK K
            try simp only [putL, putN, List.set_cons_zero, List.set_cons_succ]
            refine wpAny_ready (rs := [2]) (by kernel_rfl) (by simp) ?_
            refine AllReady.cons rfl (fun K hK => ?_) AllReady.nil
            go_simp
            go_wp2_with (go_at_call 21; go_loud (refine (Si.small_any 1 _ (by decide)).mono ?_; rintro e w6 ⟨oa, on, oc, rfl, g1, k1⟩; have m2 := k1.cell m2 (fun h => h); have HS6 := Lib.hid (And.intro g1 ((Chg.refl zNone w5).drew.trans k1 (fun _ _ _ h => h))); clear g1 k1))
            try simp only [putL, putN, List.set_cons_zero, List.set_cons_succ]
            refine wpAny_ready (rs := [3]) (by kernel_rfl) (by simp) ?_
            refine AllReady.cons rfl (fun K hK => ?_) AllReady.nil
            go_simp
            go_wp2_with (go_at_call 20; go_loud (refine (HCp.out _ oa on oc HS6.out.2 HS6.out.1).mono ?_; rintro e w7 ⟨rfl, k7⟩; have HK7 := Lib.hid (HS6.out.2.trans k7 (fun _ _ _ h => h)); clear k7))
            try simp only [putL, putN, List.set_cons_zero, List.set_cons_succ]
            refine wpAny_take (i := 4) (v := ?_) rfl (by kernel_rfl) (by kernel_rfl) (by kernel_rfl) (fun _ _ _ h => False.elim h) (Or.inl ⟨by rfl, ?_⟩) ?_
            rotate_left 1
            · intro w9
              go_simp
              try with_reducible rfl
            try simp only [putL, putN, List.set_cons_zero, List.set_cons_succ]
            refine wpAny_done (by kernel_rfl) ?_ _
            refine NoPanic.normal ?_
            go_wp2
            go_meet
            exact ⟨rfl, HK7.out⟩
          · skip
            go_simp
            go_wp2_with (go_at_call 21; go_loud (refine (Si.small_any 1 _ (by decide)).mono ?_; rintro e w6 ⟨oa, on, oc, rfl, g1, k1⟩; have m2 := k1.cell m2 (fun h => h); have HS6 := Lib.hid (And.intro g1 ((Chg.refl zNone w5).drew.trans k1 (fun _ _ _ h => h))); clear g1 k1))
            try simp only [putL, putN, List.set_cons_zero, List.set_cons_succ]
            refine wpAny_ready (rs := [1]) (by kernel_rfl) (by simp) ?_
            refine AllReady.cons rfl (fun K hK => ?_) AllReady.nil
            go_simp
            refine hK _ _ ?_
            clear hK K
            try simp only [putL, putN, List.set_cons_zero, List.set_cons_succ]
            refine wpAny_ready (rs := [3]) (by kernel_rfl) (by simp) ?_
            refine AllReady.cons rfl (fun K hK => ?_) AllReady.nil
            go_simp
            go_wp2_with (go_at_call 20; go_loud (refine (HCp.out _ oa on oc HS6.out.2 HS6.out.1).mono ?_; rintro e w7 ⟨rfl, k7⟩; have HK7 := Lib.hid (HS6.out.2.trans k7 (fun _ _ _ h => h)); clear k7))
            try simp only [putL, putN, List.set_cons_zero, List.set_cons_succ]
            refine wpAny_take (i := 4) (v := ?_) rfl (by kernel_rfl) (by kernel_rfl) (by kernel_rfl) (fun _ _ _ h => False.elim h) (Or.inl ⟨by rfl, ?_⟩) ?_
            rotate_left 1
            · intro w9
              go_simp
              try with_reducible rfl
            try simp only [putL, putN, List.set_cons_zero, List.set_cons_succ]
            refine wpAny_done (by kernel_rfl) ?_ _
            refine NoPanic.normal ?_
            go_wp2
            go_meet
            exact ⟨rfl, HK7.out⟩
        case rest =>
          obtain ⟨rfl, HK⟩ := hcut
          have hr1 := HB.out.2.2.2.2.2.2.1
          have hr2 := HB.out.2.2.2.2.2.2.2.1
          have hr3 := HB.out.2.2.2.2.2.2.2.2
          have hsg : ((ng && decide (val U un ≠ 0)) && decide (val U un ≠ 0)) = ng := by
            have h := HB.out.2.2.2.2.2.1
            rw [← h, ← h]
          have hk : Chg zNone wA wc := (((K2.out.trans HB.out.2.1 (fun _ _ _ h => h)).trans H4.out.2.1 (fun _ _ _ h => h)).trans H5.out.2.1 (fun _ _ _ h => h)).trans HK.out (fun _ _ _ h => h)
          have HKA := Lib.hid hk
          have y0 := hk.cell (HA.out.2.1 0 _ rfl) (fun h => h)
          have y1 := hk.cell (HA.out.2.1 1 _ rfl) (fun h => h)
          have y2 := hk.cell (HA.out.2.1 2 _ rfl) (fun h => h)
          have HT2 := Lib.hid (HTx.out wc hk hr1 hr2 hr3)
          have HT3 : Hid (∀ W, Chg zNone wA W → Calls Tryz.prog 23 #[.agg #[.bool ng, .slice ua un uc, .slice da dn dc]] W (ShortP W (ng && decide (val U un ≠ 0)) (val U un) (val D dn))) := fun W k => HSh.out W k hr1 hr2 hr3
          have HE : Hid (∀ s, FracS s ((ng && decide (val U un ≠ 0)) && decide (val U un ≠ 0)) (val U un) (val D dn) → s = s1 ++ (⟨#[47]⟩ : ByteArray) ++ t2) := fun s h => by
            rw [hsg] at h
            rw [h.eq H4.out.1 H5.out.1, HS1.out]
          have HE1 : Hid (∀ s, NumS s ((ng && decide (val U un ≠ 0)) && decide (val U un ≠ 0)) (val U un) → s = s1) := fun s h => by
            rw [hsg] at h
            rw [h.eq H4.out.1, HS1.out]
          clear hr1 hr2 hr3 hsg hk m0 m1 m2
          by_cases hD : val D dn = 1
          · have hz0 : (z == 0) = true := by
              rw [← Hz.out, hD]; rfl
            have HDD := Lib.hid hD
            rw [hz0]
            clear hz0 hD
            go_wp2_with fail
            refine HT2.out.mono ?_
            rintro e w8 ⟨sa, rfl, g1, g2⟩
            obtain rfl := HE.out sa g1
            have v0 := g2.cell y0 (fun h => h)
            have v1 := g2.cell y1 (fun h => h)
            have v2 := g2.cell y2 (fun h => h)
            have HK8 := Lib.hid (HKA.out.trans g2 (fun _ _ _ h => h))
            clear g1 g2 y0 y1 y2
            go_wp2_with fail
            refine (HT3.out w8 HK8.out).mono ?_
            rintro e w9 ⟨sb, rfl, g3, g4, g5⟩
            obtain rfl := HE1.out sb (g3 HDD.out)
            have HK9 := Lib.hid (HK8.out.trans g5 (fun _ _ _ h => h))
            clear g3 g4 g5
            go_wp2_with fail
            go_ret
            exact ⟨by simp, HA.out.1.trans HK9.out (fun _ _ _ h => h)⟩
          · have hz0 : (z == 0) = false := by
              rw [← Hz.out]; unfold cmpV; split
              · rfl
              · split
                · rfl
                · omega
            have HDD := Lib.hid hD
            rw [hz0]
            clear hz0 hD
            go_wp2_with fail
            refine HT2.out.mono ?_
            rintro e w8 ⟨sa, rfl, g1, g2⟩
            obtain rfl := HE.out sa g1
            have v0 := g2.cell y0 (fun h => h)
            have v1 := g2.cell y1 (fun h => h)
            have v2 := g2.cell y2 (fun h => h)
            have HK8 := Lib.hid (HKA.out.trans g2 (fun _ _ _ h => h))
            clear g1 g2 y0 y1 y2
            go_wp2_with fail
            refine (HT3.out w8 HK8.out).mono ?_
            rintro e w9 ⟨sb, rfl, g3, g4, g5⟩
            obtain rfl := HE.out sb (g4 HDD.out)
            have HK9 := Lib.hid (HK8.out.trans g5 (fun _ _ _ h => h))
            clear g3 g4 g5
            go_wp2_with fail
            go_ret
            exact ⟨by simp, HA.out.1.trans HK9.out (fun _ _ _ h => h)⟩
end Go.Proofs.YtmgfajamanakcaaGreatDoor
namespace Go.Proofs.YtmgfajamanakcaaGreatDoor
set_option linter.unusedVariables false
set_option linter.unusedSimpArgs false
open Go.ChangeShapes Go.WideShapes Go.ChangeAt Go.RowKit
set_option maxRecDepth 100000
theorem rt_door (os : Os) (args : Array Value) : laidMetH Tryz.prog Rows.fnRatTextRow.laid ((World.doorLaid Tryz.prog 400 os).forCall (fun _ _ => 0) ⟨#[], args, []⟩).memory :=
  laidMetH_of_parts3 (fuel := 8) (laidMet_of_run' 8 (by kernel_rfl) (by kernel_rfl)) (by kernel_rfl) (by kernel_rfl)
theorem rt_globals {w : World} (h : laidMetH Tryz.prog Rows.fnRatTextRow.laid w) : Glob w := by
  rw [MakeChecks.laidMetH_plain _ _ _ (by kernel_rfl)] at h
  exact glob_of h (by unfold Rows.fnRatTextRow Rows.laid_loop_example_pub_g03235_pub_bigall_leafSize; simp) (by unfold Rows.fnRatTextRow Rows.laid_loop_example_pub_g03235_pub_bigall_divRecursiveThreshold; simp) (by unfold Rows.fnRatTextRow Rows.laid_loop_example_pub_g03235_pub_bigall_karatsubaThreshold; simp) (by unfold Rows.fnRatTextRow Rows.laid_loop_example_pub_g03235_pub_bigall_basicSqrThreshold; simp) (by unfold Rows.fnRatTextRow Rows.laid_loop_example_pub_g03235_pub_bigall_karatsubaSqrThreshold; simp)
theorem chg_low1 {Z : Zone} {w w' : World} (h : Chg Z w w') {B : Nat} (hB : B ≤ w.heap.size) (hZ : ∀ b o, b < B → ¬ Z b o) : Below B w w' :=
  ⟨h.os, h.tape, h.output, h.size, fun b hb => h.same b (Nat.lt_of_lt_of_le hb hB) (fun o => hZ b o hb)⟩
theorem rt_lifted (os : Os) (started : os.Started) (H : Type) (enc : TypeId × Value → H) :
    ReturnsInHanded {} Tryz.checked os 4 .any (fun w args => (Rows.fnRatTextSpec.pre enc Tryz.prog Tryz.f4 [] false w args ∧ laidMetH Tryz.prog Rows.fnRatTextRow.laid w) ∧ sizedMet enc Tryz.prog Tryz.f4 (OpenSpec.ofChange Rows.fnRatTextSpec) false w args)
      (Rows.fnRatTextSpec.post enc Tryz.prog Tryz.f4 false true false false) := by
  refine returnsInHanded_of_change_and (C := Tryz.checked) (X := fun w _ => laidMetH Tryz.prog Rows.fnRatTextRow.laid w) (fun _ _ _ hh h => h.of_heap hh) own started (by kernel_rfl) Tryz.func4
    (ChangeSpec.witness_shaped (enc := enc) (C := Tryz.checked) (os := os) (X := fun w _ => laidMetH Tryz.prog Rows.fnRatTextRow.laid w) false (World.doorLaid Tryz.prog 400 os) #[.agg #[.bool false, .slice none 0 0, .slice none 0 0]] 8 rfl (World.shaped_of_RefB (by kernel_rfl) (by kernel_rfl)) (by kernel_rfl) (by kernel_rfl) (by kernel_rfl) (rt_door os _)) ?_
  intro W base args ds gs before hval0 hW _ _ hL _
  have hval : ∀ (j : Nat) t v, Tryz.f4.params[j]? = some t → args[j]? = some v → Value.okWide Tryz.prog W .any base t v := hval0
  have hW' := hW
  obtain ⟨p, q, hA0, hV, rfl, hfz, hnd⟩ := hW
  have hA : DataW.TrodAll enc Tryz.prog W 0 (fun _ => true) true Tryz.f4.params.toList args.toList ds p := hA0
  rw [Tryz.params4] at hA hval
  obtain ⟨v0, vs0, d0, ds0, p0, q0, hargs, rfl, rfl, h0, r0⟩ := trodAll_cons hA
  obtain ⟨rfl, rfl, rfl⟩ := trodAll_nil r0
  obtain rfl : args = #[v0] := by cases args; simp_all
  obtain ⟨xn, ua, un, uc, U, da, dn, dc, D, rfl, hu, hU, hd, hD⟩ := open_frac (hval 0 31 v0 rfl rfl) h0
  refine (law4 xn ua un uc U da dn dc D W hu hU hd hD (rt_globals hL)).mono fun e W' ⟨he, hk⟩ => ?_
  subst he
  refine ⟨_, rfl, post_law hW' (chg_low1 hk (Nat.le_refl _) (fun _ _ _ h => h)) ?_ rfl (by kernel_rfl) (by kernel_rfl)⟩
  obtain ⟨g1, g2, g3, g4, g5, rfl⟩ := list_five (trodVars_length hV)
  rfl
theorem rt_holds : Rows.FnRatTextSaid :=
  OpenClaim.holds_of_wide 4 Tryz.f4 rfl rfl rfl rfl rfl rfl rfl ⟨rfl, rfl, rfl, rfl, rfl⟩ rfl rfl rfl rfl rfl fnRatText_named Tryz.func4 fnRatText_closed
    fnRatText_inst fnRatText_wrap (fun os started H enc _ => rt_lifted os started H enc)
theorem rt_stand : ([31].all fun u => !Tryz.prog.wantsStandIn u) = true := by kernel_rfl
theorem rt_card : Rows.FnRatTextCardSaid :=
  Claim7.holds_tied_plain_at .later [] [.data, .data, .data, .data, .data, .data, .data] true (true, "afd8faaed94fe7cf717e9c1444daa084e5465dd580c5b40265b1581e65e19822") true
    rt_holds (fun _ h => by cases h) fnRatText_text (fun _ h => by cases h) fnRatText_row_tie rfl ⟨rfl, rfl⟩ fnRatText_main rfl
    (fun f fn hf hfn => by
      obtain rfl : f = 4 := Option.some.inj (fnRatText_named.symm.trans hf) |>.symm
      obtain rfl : fn = Tryz.f4 := (Option.some.inj (Tryz.func4.symm.trans hfn)).symm
      exact ⟨fnRatText_looks, fun j t ht => by
        rw [Tryz.params4] at ht
        have hm : t ∈ [31] := by simpa using Array.mem_of_getElem? ht
        exact (show Tryz.prog.wantsStandIn t = false by simpa using List.all_eq_true.1 rt_stand t hm)⟩)
    fnRatText_goes
#print axioms rt_card
end Go.Proofs.YtmgfajamanakcaaGreatDoor
