/- Part of the proof of FnParse: what the functions that it reaches do, as contracts. Conditions: those that each theorem names. -/
import Derived.Test.YtmgfajamanakcaaGreatDoorD45
import Derived.Test.YtmgfajamanakcaaGreatDoorD47
import Derived.Test.YtmgfajamanakcaaGreatDoorD48
namespace Go.Proofs.YtmgfajamanakcaaGreatDoor
set_option linter.unusedVariables false
set_option linter.unusedSimpArgs false
open Go Go.RowKit Si
set_option maxRecDepth 100000
theorem ten_sb {k : Nat} (hk : k ≤ 100) : (10 : Int) ^ k < SB ^ 21 := Int.lt_of_le_of_lt (ten_le hk) (by decide +kernel)
theorem bb_sb10 : (BB ^ 10 : Int) = SB ^ 40 := by decide +kernel
theorem sb_lt {a b : Int} {n m : Nat} (h0 : 0 ≤ a) (ha : a < SB ^ n) (hb0 : 0 ≤ b) (hb : b < SB ^ m) : a * b < SB ^ (n + m) := by
  rw [Int.pow_add]
  have hp : (0 : Int) < SB ^ m := Int.pow_pos (by decide)
  have h1 : a * b ≤ a * SB ^ m := Int.mul_le_mul_of_nonneg_left (Int.le_of_lt hb) h0
  have h2 : a * SB ^ m < SB ^ n * SB ^ m := Int.mul_lt_mul_of_pos_right ha hp
  omega
set_option maxHeartbeats 8000000 in
theorem law5 (xn : Bool) (ua : Option Addr) (un uc : Nat) (U : Nat → Int) (da : Option Addr) (dn dc : Nat) (D : Nat → Int) (kk : Int) (w : World) (hk0 : 0 ≤ kk) (hk1 : kk ≤ 255) (hu : Rd w ua un U) (hU : WF U un) (hd : Rd w da dn D) (hD : WF D dn) (hg : Glob w) :
    Calls Tryz.prog 5 #[fracV xn ua un uc da dn dc, .int .u8 kk] w fun e w' => e = .returned (.bool true) ∧ Chg zNone w w' := by
  obtain ⟨wA, hwA⟩ : ∃ wA, wA = w.alloc (.cells #[.bool xn, .slice ua un uc, .slice da dn dc] 31) := ⟨_, rfl⟩
  have kA : Chg zNone w wA := by rw [hwA]; exact (Chg.refl _ _).alloc _
  have hF : ∀ i v, (#[Value.bool xn, .slice ua un uc, .slice da dn dc])[i]? = some v → wA.cell? ⟨w.heap.size, i, none⟩ = some v := fun i v h => by
    rw [hwA]; exact three_cells w _ _ _ 31 i v h
  have far : ∀ {W : World}, Chg zNone wA W → Chg zNone w W := fun k => kA.trans k (fun _ _ _ h => h)
  have HFit : Hid (∀ W, Calls Tryz.prog 17 #[fracV xn ua un uc da dn dc] W (FitsP W (decide (un ≤ 2147483647) && decide (dn ≤ 2147483647)))) := fun W => fits3_any xn ua un uc da dn dc W
  have HFr : Hid (∀ W, Chg zNone wA W → un < 4611686018427387904 → dn < 4611686018427387904 → Calls Tryz.prog 18 #[fracV xn ua un uc da dn dc, .int .i64 10] W (FracLT W xn U un D dn)) := fun W k hun hdn => fraction18_ten xn ua un uc U da dn dc D W (rd_far hu (far k) (fun _ _ _ _ _ h => h)) hU (rd_far hd (far k) (fun _ _ _ _ _ h => h)) hD hun hdn
  obtain ⟨k, hk⟩ : ∃ k : Nat, kk % 101 = (k : Int) := ⟨(kk % 101).toNat, by omega⟩
  have hk100 : k ≤ 100 := by omega
  have e1 : kk.tmod 101 = (k : Int) := by rw [Int.tmod_eq_emod_of_nonneg hk0, hk]
  have HDc : Hid (∀ W, Chg zNone wA W → un ≤ 10 → dn ≤ 10 → val D dn ≠ 0 → Calls Tryz.prog 27 #[fracV xn ua un uc da dn dc, .int .i64 (k : Int)] W (FsP W (xn && decide (val U un ≠ 0)) (decQ (val U un) (val D dn) (10 ^ k)) k)) := fun W kW h1 h2 h3 => ratdec_any xn ua un uc U da dn dc D k W (rd_far hu (far kW) (fun _ _ _ _ _ h => h)) hU h1 (rd_far hd (far kW) (fun _ _ _ _ _ h => h)) hD h2 h3 (hg.far (far kW)) hk100
  have HUU := Lib.hid (And.intro hU hD)
  have HA := Lib.hid (And.intro kA (And.intro hF hwA))
  have f0 := hF 0 _ rfl
  have f1 := hF 1 _ rfl
  have f2 := hF 2 _ rfl
  rw [hwA] at f0 f1 f2
  clear hu hU hd hD kA hF hwA far hg hk
  unfold fracV at *
  go_enter Tryz.func5, Tryz.ntmps5
  go_wp2_with fail
  rw [← HA.out.2.2]
  refine (HFit.out wA).mono ?_
  rintro e w1 ⟨rfl, k1⟩
  obtain ⟨fb, hfb⟩ : ∃ b, (decide (un ≤ 2147483647) && decide (dn ≤ 2147483647)) = b := ⟨_, rfl⟩
  rw [hfb]
  have K1 := Lib.hid k1
  have x0 := k1.cell (HA.out.2.1 0 _ rfl) (fun h => h)
  have x1 := k1.cell (HA.out.2.1 1 _ rfl) (fun h => h)
  have x2 := k1.cell (HA.out.2.1 2 _ rfl) (fun h => h)
  have HFB := Lib.hid hfb
  clear k1 f0 f1 f2 hfb
  cases fb with
  | false =>
    go_wp2_with fail
    go_ret
    exact ⟨rfl, HA.out.1.trans K1.out (fun _ _ _ h => h)⟩
  | true =>
    have hsz : Hid (un < 4611686018427387904 ∧ dn < 4611686018427387904) := by
      have h := HFB.out
      rw [Bool.and_eq_true, decide_eq_true_eq, decide_eq_true_eq] at h
      exact Lib.hid ⟨by omega, by omega⟩
    go_wp2_with fail
    refine (HFr.out w1 K1.out hsz.out.1 hsz.out.2).mono ?_
    rintro e w2 ⟨ng, a, n, c, b, m, d, r, rfl, k2, hr⟩
    have K2 := Lib.hid (K1.out.trans k2 (fun _ _ _ h => h))
    have Hr := Lib.hid hr
    clear k2 x0 x1 x2
    unfold ratV
    have hr' := hr
    clear hr
    cases r with
    | false =>
      clear hr'
      go_wp2_with fail
      go_ret
      exact ⟨rfl, HA.out.1.trans (K2.out.alloc _) (fun _ _ _ h => h)⟩
    | true =>
      obtain ⟨r1, r2, r3, rfl, r5, r6, r7, r8, r9, r10, r11⟩ := hr' rfl
      have kal : Chg zNone w2 (w2.alloc (.cells #[.bool ng, .slice a n c, .slice b m d] 45)) := (Chg.refl _ _).alloc _
      obtain ⟨w3, hw3⟩ : ∃ w3, w3 = w2.alloc (.cells #[.bool ng, .slice a n c, .slice b m d] 45) := ⟨_, rfl⟩
      have hC : C3 w3 w2.heap.size (.bool ng) (.slice a n c) (.slice b m d) := by rw [hw3]; exact newC3 w2 _ _ _ 45
      rw [← hw3] at kal
      have hUb : val U un < SB ^ 40 := by rw [← bb_sb10]; exact Int.lt_of_lt_of_le (val_lt HUU.out.1) (ipow_le (show (1 : Int) ≤ BB by decide) r1)
      have hDp : 0 < val D dn := by have := val_nonneg HUU.out.2; omega
      have hU0 := val_nonneg HUU.out.1
      have H26 : Hid (∀ W, Calls Tryz.prog 26 #[.int .i64 10, .int .i64 (k : Int)] W (Si.NRes W (10 ^ k))) := fun W => Si.power_any 10 k W (by omega) (by omega)
      have HMl : Hid (∀ W pa pn pc, Chg zNone w3 W → Si.NatV W pa pn pc (10 ^ k) → Calls Tryz.prog 25 #[.slice a n c, .slice pa pn pc] W (Si.NRes W (val U un * 10 ^ k))) := fun W pa pn pc kW h =>
        Si.mul_any a pa n c pn pc (val U un) (10 ^ k) W ((r7.far kal).far kW) h (by omega) (by have := h.len (ten_sb hk100); omega)
      have HNr : Hid (∀ W ma mn mc, Chg zNone w3 W → Si.NatV W ma mn mc (val U un * 10 ^ k) → Calls Tryz.prog 24 #[.slice ma mn mc, .slice b m d] W (Si.NearP W (val U un * 10 ^ k) (val D dn))) := fun W ma mn mc kW h =>
        Si.nearest_any ma b mn mc m d (val U un * 10 ^ k) (val D dn) W h ((r10.far kal).far kW) hDp (by have := h.len (sb_lt hU0 hUb (Int.le_of_lt (ten_pos k)) (ten_sb hk100)); omega) (by omega)
      have hQb : Hid (Si.nearQ (val U un * 10 ^ k) (val D dn) < SB ^ 62) := by
        have h1 := sb_lt hU0 hUb (Int.le_of_lt (ten_pos k)) (ten_sb hk100)
        have h2 := Int.ediv_le_self (val D dn) (Int.mul_nonneg hU0 (Int.le_of_lt (ten_pos k)))
        have h3 : SB ^ 62 = SB ^ (40 + 21) * SB := by rw [← Int.pow_succ]
        show Si.nearQ _ _ < _
        unfold Si.nearQ
        rw [h3]
        have h4 : (0 : Int) < SB ^ (40 + 21) := Int.pow_pos (by decide)
        unfold SB at *
        split <;> omega
      have HB := Lib.hid (And.intro hC (And.intro kal (And.intro r5 (And.intro r1 (And.intro r2 r3)))))
      have HW3 := Lib.hid hw3
      clear hr' r1 r2 r3 r5 r6 r7 r8 r9 r10 r11 kal hw3 hUb hDp hU0
      have l0 := hC.c0
      have l1 := hC.c1
      have l2 := hC.c2
      clear hC
      go_upto_region 7 with fail
      rw [← HW3.out]
      go_cut [8] (fun s8 wc => ∃ nb nn, s8 = .slice (some ⟨nb, 0, none⟩) (nn + 1) (nn + 1) ∧ nn ≤ 1 ∧ Hid (∃ qa qn qc, wc.cell? ⟨nb, nn, none⟩ = some (.slice qa qn qc) ∧ Si.NatV wc qa qn qc (Si.nearQ (val U un * 10 ^ k) (val D dn)) ∧ Chg zNone w3 wc))
      case first =>
        refine wp_region_noPanic ?_
        refine wp_region_any (by kernel_rfl) ?_
        change wpAny _ _ _ _ _ _ _ (World.drew _)
        refine wpAny_take (i := 0) (v := ?_) rfl (by kernel_rfl) (by kernel_rfl) (by kernel_rfl) (fun _ _ _ h => False.elim h) (Or.inl ⟨by rfl, ?_⟩) ?_
        rotate_left 1
        · intro w9
          go_simp
          try with_reducible rfl
        try simp only [putL, putN, List.set_cons_zero, List.set_cons_succ]
        refine wpAny_take (i := 2) (v := ?_) rfl (by kernel_rfl) (by kernel_rfl) (by kernel_rfl) (fun _ _ _ h => False.elim h) (Or.inl ⟨by rfl, ?_⟩) ?_
        rotate_left 1
        · intro w9
          go_simp
          try with_reducible rfl
        try simp only [putL, putN, List.set_cons_zero, List.set_cons_succ]
        refine wpAny_take (i := 5) (v := ?_) rfl (by kernel_rfl) (by kernel_rfl) (by kernel_rfl) (fun _ _ _ h => False.elim h) (Or.inl ⟨by rfl, ?_⟩) ?_
        rotate_left 1
        · intro w9
          go_simp
          try with_reducible rfl
        try simp only [putL, putN, List.set_cons_zero, List.set_cons_succ]
        refine wpAny_ready (rs := [1, 3, 6]) (by kernel_rfl) (by simp) ?_
        refine AllReady.cons rfl (fun K hK => ?_) (AllReady.cons rfl (fun K hK => ?_) (AllReady.cons rfl (fun K hK => ?_) AllReady.nil))
        · skip
          go_simp
          refine hK _ _ ?_
          clear hK K
          try simp only [putL, putN, List.set_cons_zero, List.set_cons_succ]
          refine wpAny_ready (rs := [3, 6]) (by kernel_rfl) (by simp) ?_
          refine AllReady.cons rfl (fun K hK => ?_) (AllReady.cons rfl (fun K hK => ?_) AllReady.nil)
          · skip
            go_simp
            go_wp2_with (go_at_call 26; go_loud (refine (H26.out _).mono ?_; rintro e w6 ⟨pa, pn, pc, rfl, g1, k1⟩; have l1 := k1.cell l1 (fun h => h); have l2 := k1.cell l2 (fun h => h); have HS6 := Lib.hid (And.intro g1 ((Chg.refl zNone w3).drew.trans k1 (fun _ _ _ h => h))); clear g1 k1))
            try simp only [putL, putN, List.set_cons_zero, List.set_cons_succ]
            refine wpAny_ready (rs := [4, 6]) (by kernel_rfl) (by simp) ?_
            refine AllReady.cons rfl (fun K hK => ?_) (AllReady.cons rfl (fun K hK => ?_) AllReady.nil)
            · skip
              go_simp
              go_wp2_with (go_at_call 25; go_loud (refine (HMl.out _ pa pn pc HS6.out.2 HS6.out.1).mono ?_; rintro e w7 ⟨ma, mn, mc, rfl, g1, k1⟩; have l2 := k1.cell l2 (fun h => h); have HS7 := Lib.hid (And.intro g1 (HS6.out.2.trans k1 (fun _ _ _ h => h))); clear g1 k1))
              try simp only [putL, putN, List.set_cons_zero, List.set_cons_succ]
              refine wpAny_ready (rs := [6]) (by kernel_rfl) (by simp) ?_
              refine AllReady.cons rfl (fun K hK => ?_) AllReady.nil
              go_simp
              refine hK _ _ ?_
              clear hK K
              try simp only [putL, putN, List.set_cons_zero, List.set_cons_succ]
              refine wpAny_ready (rs := [7]) (by kernel_rfl) (by simp) ?_
              refine AllReady.cons rfl (fun K hK => ?_) AllReady.nil
              go_simp
              go_wp2_with (go_at_call 24; go_loud (refine (HNr.out _ ma mn mc HS7.out.2 HS7.out.1).mono ?_; rintro e w8 ⟨nb, nn, qa, qn, qc, rfl, g0, g1, g2, k1⟩; have HS8 := Lib.hid (And.intro g1 (And.intro g2 (HS7.out.2.trans k1 (fun _ _ _ h => h)))); clear g1 g2 k1))
              try simp only [putL, putN, List.set_cons_zero, List.set_cons_succ]
              refine wpAny_take (i := 8) (v := ?_) rfl (by kernel_rfl) (by kernel_rfl) (by kernel_rfl) (fun _ _ _ h => False.elim h) (Or.inl ⟨by rfl, ?_⟩) ?_
              rotate_left 1
              · intro w9
                go_simp
                try with_reducible rfl
              try simp only [putL, putN, List.set_cons_zero, List.set_cons_succ]
              refine wpAny_done (by kernel_rfl) ?_ _
              refine NoPanic.normal ?_
              go_wp2
              go_meet
              exact ⟨nb, nn, rfl, g0, qa, qn, qc, HS8.out⟩
            · skip
              go_simp
              refine hK _ _ ?_
              clear hK K
              try simp only [putL, putN, List.set_cons_zero, List.set_cons_succ]
              refine wpAny_ready (rs := [4]) (by kernel_rfl) (by simp) ?_
              refine AllReady.cons rfl (fun K hK => ?_) AllReady.nil
              go_simp
              go_wp2_with (go_at_call 25; go_loud (refine (HMl.out _ pa pn pc HS6.out.2 HS6.out.1).mono ?_; rintro e w7 ⟨ma, mn, mc, rfl, g1, k1⟩; have l2 := k1.cell l2 (fun h => h); have HS7 := Lib.hid (And.intro g1 (HS6.out.2.trans k1 (fun _ _ _ h => h))); clear g1 k1))
              try simp only [putL, putN, List.set_cons_zero, List.set_cons_succ]
              refine wpAny_ready (rs := [7]) (by kernel_rfl) (by simp) ?_
              refine AllReady.cons rfl (fun K hK => ?_) AllReady.nil
              go_simp
              go_wp2_with (go_at_call 24; go_loud (refine (HNr.out _ ma mn mc HS7.out.2 HS7.out.1).mono ?_; rintro e w8 ⟨nb, nn, qa, qn, qc, rfl, g0, g1, g2, k1⟩; have HS8 := Lib.hid (And.intro g1 (And.intro g2 (HS7.out.2.trans k1 (fun _ _ _ h => h)))); clear g1 g2 k1))
              try simp only [putL, putN, List.set_cons_zero, List.set_cons_succ]
              refine wpAny_take (i := 8) (v := ?_) rfl (by kernel_rfl) (by kernel_rfl) (by kernel_rfl) (fun _ _ _ h => False.elim h) (Or.inl ⟨by rfl, ?_⟩) ?_
              rotate_left 1
              · intro w9
                go_simp
                try with_reducible rfl
              try simp only [putL, putN, List.set_cons_zero, List.set_cons_succ]
              refine wpAny_done (by kernel_rfl) ?_ _
              refine NoPanic.normal ?_
              go_wp2
              go_meet
              exact ⟨nb, nn, rfl, g0, qa, qn, qc, HS8.out⟩
          · skip
            go_simp
            refine hK _ _ ?_
            clear hK K
            try simp only [putL, putN, List.set_cons_zero, List.set_cons_succ]
            refine wpAny_ready (rs := [3]) (by kernel_rfl) (by simp) ?_
            refine AllReady.cons rfl (fun K hK => ?_) AllReady.nil
            go_simp
            go_wp2_with (go_at_call 26; go_loud (refine (H26.out _).mono ?_; rintro e w6 ⟨pa, pn, pc, rfl, g1, k1⟩; have l1 := k1.cell l1 (fun h => h); have l2 := k1.cell l2 (fun h => h); have HS6 := Lib.hid (And.intro g1 ((Chg.refl zNone w3).drew.trans k1 (fun _ _ _ h => h))); clear g1 k1))
            try simp only [putL, putN, List.set_cons_zero, List.set_cons_succ]
            refine wpAny_ready (rs := [4]) (by kernel_rfl) (by simp) ?_
            refine AllReady.cons rfl (fun K hK => ?_) AllReady.nil
            go_simp
            go_wp2_with (go_at_call 25; go_loud (refine (HMl.out _ pa pn pc HS6.out.2 HS6.out.1).mono ?_; rintro e w7 ⟨ma, mn, mc, rfl, g1, k1⟩; have l2 := k1.cell l2 (fun h => h); have HS7 := Lib.hid (And.intro g1 (HS6.out.2.trans k1 (fun _ _ _ h => h))); clear g1 k1))
            try simp only [putL, putN, List.set_cons_zero, List.set_cons_succ]
            refine wpAny_ready (rs := [7]) (by kernel_rfl) (by simp) ?_
            refine AllReady.cons rfl (fun K hK => ?_) AllReady.nil
            go_simp
            go_wp2_with (go_at_call 24; go_loud (refine (HNr.out _ ma mn mc HS7.out.2 HS7.out.1).mono ?_; rintro e w8 ⟨nb, nn, qa, qn, qc, rfl, g0, g1, g2, k1⟩; have HS8 := Lib.hid (And.intro g1 (And.intro g2 (HS7.out.2.trans k1 (fun _ _ _ h => h)))); clear g1 g2 k1))
            try simp only [putL, putN, List.set_cons_zero, List.set_cons_succ]
            refine wpAny_take (i := 8) (v := ?_) rfl (by kernel_rfl) (by kernel_rfl) (by kernel_rfl) (fun _ _ _ h => False.elim h) (Or.inl ⟨by rfl, ?_⟩) ?_
            rotate_left 1
            · intro w9
              go_simp
              try with_reducible rfl
            try simp only [putL, putN, List.set_cons_zero, List.set_cons_succ]
            refine wpAny_done (by kernel_rfl) ?_ _
            refine NoPanic.normal ?_
            go_wp2
            go_meet
            exact ⟨nb, nn, rfl, g0, qa, qn, qc, HS8.out⟩
        · skip
          go_simp
          go_wp2_with (go_at_call 26; go_loud (refine (H26.out _).mono ?_; rintro e w6 ⟨pa, pn, pc, rfl, g1, k1⟩; have l1 := k1.cell l1 (fun h => h); have l2 := k1.cell l2 (fun h => h); have HS6 := Lib.hid (And.intro g1 ((Chg.refl zNone w3).drew.trans k1 (fun _ _ _ h => h))); clear g1 k1))
          try simp only [putL, putN, List.set_cons_zero, List.set_cons_succ]
          refine wpAny_ready (rs := [1, 6]) (by kernel_rfl) (by simp) ?_
          refine AllReady.cons rfl (fun K hK => ?_) (AllReady.cons rfl (fun K hK => ?_) AllReady.nil)
          · skip
            go_simp
            refine hK _ _ ?_
            clear hK K
            try simp only [putL, putN, List.set_cons_zero, List.set_cons_succ]
            refine wpAny_ready (rs := [4, 6]) (by kernel_rfl) (by simp) ?_
            refine AllReady.cons rfl (fun K hK => ?_) (AllReady.cons rfl (fun K hK => ?_) AllReady.nil)
            · skip
              go_simp
              go_wp2_with (go_at_call 25; go_loud (refine (HMl.out _ pa pn pc HS6.out.2 HS6.out.1).mono ?_; rintro e w7 ⟨ma, mn, mc, rfl, g1, k1⟩; have l2 := k1.cell l2 (fun h => h); have HS7 := Lib.hid (And.intro g1 (HS6.out.2.trans k1 (fun _ _ _ h => h))); clear g1 k1))
              try simp only [putL, putN, List.set_cons_zero, List.set_cons_succ]
              refine wpAny_ready (rs := [6]) (by kernel_rfl) (by simp) ?_
              refine AllReady.cons rfl (fun K hK => ?_) AllReady.nil
              go_simp
              refine hK _ _ ?_
              clear hK K
              try simp only [putL, putN, List.set_cons_zero, List.set_cons_succ]
              refine wpAny_ready (rs := [7]) (by kernel_rfl) (by simp) ?_
              refine AllReady.cons rfl (fun K hK => ?_) AllReady.nil
              go_simp
              go_wp2_with (go_at_call 24; go_loud (refine (HNr.out _ ma mn mc HS7.out.2 HS7.out.1).mono ?_; rintro e w8 ⟨nb, nn, qa, qn, qc, rfl, g0, g1, g2, k1⟩; have HS8 := Lib.hid (And.intro g1 (And.intro g2 (HS7.out.2.trans k1 (fun _ _ _ h => h)))); clear g1 g2 k1))
              try simp only [putL, putN, List.set_cons_zero, List.set_cons_succ]
              refine wpAny_take (i := 8) (v := ?_) rfl (by kernel_rfl) (by kernel_rfl) (by kernel_rfl) (fun _ _ _ h => False.elim h) (Or.inl ⟨by rfl, ?_⟩) ?_
              rotate_left 1
              · intro w9
                go_simp
                try with_reducible rfl
              try simp only [putL, putN, List.set_cons_zero, List.set_cons_succ]
              refine wpAny_done (by kernel_rfl) ?_ _
              refine NoPanic.normal ?_
              go_wp2
              go_meet
              exact ⟨nb, nn, rfl, g0, qa, qn, qc, HS8.out⟩
            · skip
              go_simp
              refine hK _ _ ?_
              clear hK K
              try simp only [putL, putN, List.set_cons_zero, List.set_cons_succ]
              refine wpAny_ready (rs := [4]) (by kernel_rfl) (by simp) ?_
              refine AllReady.cons rfl (fun K hK => ?_) AllReady.nil
              go_simp
              go_wp2_with (go_at_call 25; go_loud (refine (HMl.out _ pa pn pc HS6.out.2 HS6.out.1).mono ?_; rintro e w7 ⟨ma, mn, mc, rfl, g1, k1⟩; have l2 := k1.cell l2 (fun h => h); have HS7 := Lib.hid (And.intro g1 (HS6.out.2.trans k1 (fun _ _ _ h => h))); clear g1 k1))
              try simp only [putL, putN, List.set_cons_zero, List.set_cons_succ]
              refine wpAny_ready (rs := [7]) (by kernel_rfl) (by simp) ?_
              refine AllReady.cons rfl (fun K hK => ?_) AllReady.nil
              go_simp
              go_wp2_with (go_at_call 24; go_loud (refine (HNr.out _ ma mn mc HS7.out.2 HS7.out.1).mono ?_; rintro e w8 ⟨nb, nn, qa, qn, qc, rfl, g0, g1, g2, k1⟩; have HS8 := Lib.hid (And.intro g1 (And.intro g2 (HS7.out.2.trans k1 (fun _ _ _ h => h)))); clear g1 g2 k1))
              try simp only [putL, putN, List.set_cons_zero, List.set_cons_succ]
              refine wpAny_take (i := 8) (v := ?_) rfl (by kernel_rfl) (by kernel_rfl) (by kernel_rfl) (fun _ _ _ h => False.elim h) (Or.inl ⟨by rfl, ?_⟩) ?_
              rotate_left 1
              · intro w9
                go_simp
                try with_reducible rfl
              try simp only [putL, putN, List.set_cons_zero, List.set_cons_succ]
              refine wpAny_done (by kernel_rfl) ?_ _
              refine NoPanic.normal ?_
              go_wp2
              go_meet
              exact ⟨nb, nn, rfl, g0, qa, qn, qc, HS8.out⟩
          · skip
            go_simp
            refine hK _ _ ?_
            clear hK K
            try simp only [putL, putN, List.set_cons_zero, List.set_cons_succ]
            refine wpAny_ready (rs := [1]) (by kernel_rfl) (by simp) ?_
            refine AllReady.cons rfl (fun K hK => ?_) AllReady.nil
            go_simp
            refine hK _ _ ?_
            clear hK K
            try simp only [putL, putN, List.set_cons_zero, List.set_cons_succ]
            refine wpAny_ready (rs := [4]) (by kernel_rfl) (by simp) ?_
            refine AllReady.cons rfl (fun K hK => ?_) AllReady.nil
            go_simp
            go_wp2_with (go_at_call 25; go_loud (refine (HMl.out _ pa pn pc HS6.out.2 HS6.out.1).mono ?_; rintro e w7 ⟨ma, mn, mc, rfl, g1, k1⟩; have l2 := k1.cell l2 (fun h => h); have HS7 := Lib.hid (And.intro g1 (HS6.out.2.trans k1 (fun _ _ _ h => h))); clear g1 k1))
            try simp only [putL, putN, List.set_cons_zero, List.set_cons_succ]
            refine wpAny_ready (rs := [7]) (by kernel_rfl) (by simp) ?_
            refine AllReady.cons rfl (fun K hK => ?_) AllReady.nil
            go_simp
            go_wp2_with (go_at_call 24; go_loud (refine (HNr.out _ ma mn mc HS7.out.2 HS7.out.1).mono ?_; rintro e w8 ⟨nb, nn, qa, qn, qc, rfl, g0, g1, g2, k1⟩; have HS8 := Lib.hid (And.intro g1 (And.intro g2 (HS7.out.2.trans k1 (fun _ _ _ h => h)))); clear g1 g2 k1))
            try simp only [putL, putN, List.set_cons_zero, List.set_cons_succ]
            refine wpAny_take (i := 8) (v := ?_) rfl (by kernel_rfl) (by kernel_rfl) (by kernel_rfl) (fun _ _ _ h => False.elim h) (Or.inl ⟨by rfl, ?_⟩) ?_
            rotate_left 1
            · intro w9
              go_simp
              try with_reducible rfl
            try simp only [putL, putN, List.set_cons_zero, List.set_cons_succ]
            refine wpAny_done (by kernel_rfl) ?_ _
            refine NoPanic.normal ?_
            go_wp2
            go_meet
            exact ⟨nb, nn, rfl, g0, qa, qn, qc, HS8.out⟩
        · skip
          go_simp
          refine hK _ _ ?_
          clear hK K
          try simp only [putL, putN, List.set_cons_zero, List.set_cons_succ]
          refine wpAny_ready (rs := [1, 3]) (by kernel_rfl) (by simp) ?_
          refine AllReady.cons rfl (fun K hK => ?_) (AllReady.cons rfl (fun K hK => ?_) AllReady.nil)
          · skip
            go_simp
            refine hK _ _ ?_
            clear hK K
            try simp only [putL, putN, List.set_cons_zero, List.set_cons_succ]
            refine wpAny_ready (rs := [3]) (by kernel_rfl) (by simp) ?_
            refine AllReady.cons rfl (fun K hK => ?_) AllReady.nil
            go_simp
            go_wp2_with (go_at_call 26; go_loud (refine (H26.out _).mono ?_; rintro e w6 ⟨pa, pn, pc, rfl, g1, k1⟩; have l1 := k1.cell l1 (fun h => h); have l2 := k1.cell l2 (fun h => h); have HS6 := Lib.hid (And.intro g1 ((Chg.refl zNone w3).drew.trans k1 (fun _ _ _ h => h))); clear g1 k1))
            try simp only [putL, putN, List.set_cons_zero, List.set_cons_succ]
            refine wpAny_ready (rs := [4]) (by kernel_rfl) (by simp) ?_
            refine AllReady.cons rfl (fun K hK => ?_) AllReady.nil
            go_simp
            go_wp2_with (go_at_call 25; go_loud (refine (HMl.out _ pa pn pc HS6.out.2 HS6.out.1).mono ?_; rintro e w7 ⟨ma, mn, mc, rfl, g1, k1⟩; have l2 := k1.cell l2 (fun h => h); have HS7 := Lib.hid (And.intro g1 (HS6.out.2.trans k1 (fun _ _ _ h => h))); clear g1 k1))
            try simp only [putL, putN, List.set_cons_zero, List.set_cons_succ]
            refine wpAny_ready (rs := [7]) (by kernel_rfl) (by simp) ?_
            refine AllReady.cons rfl (fun K hK => ?_) AllReady.nil
            go_simp
            go_wp2_with (go_at_call 24; go_loud (refine (HNr.out _ ma mn mc HS7.out.2 HS7.out.1).mono ?_; rintro e w8 ⟨nb, nn, qa, qn, qc, rfl, g0, g1, g2, k1⟩; have HS8 := Lib.hid (And.intro g1 (And.intro g2 (HS7.out.2.trans k1 (fun _ _ _ h => h)))); clear g1 g2 k1))
            try simp only [putL, putN, List.set_cons_zero, List.set_cons_succ]
            refine wpAny_take (i := 8) (v := ?_) rfl (by kernel_rfl) (by kernel_rfl) (by kernel_rfl) (fun _ _ _ h => False.elim h) (Or.inl ⟨by rfl, ?_⟩) ?_
            rotate_left 1
            · intro w9
              go_simp
              try with_reducible rfl
            try simp only [putL, putN, List.set_cons_zero, List.set_cons_succ]
            refine wpAny_done (by kernel_rfl) ?_ _
            refine NoPanic.normal ?_
            go_wp2
            go_meet
            exact ⟨nb, nn, rfl, g0, qa, qn, qc, HS8.out⟩
          · skip
            go_simp
            go_wp2_with (go_at_call 26; go_loud (refine (H26.out _).mono ?_; rintro e w6 ⟨pa, pn, pc, rfl, g1, k1⟩; have l1 := k1.cell l1 (fun h => h); have l2 := k1.cell l2 (fun h => h); have HS6 := Lib.hid (And.intro g1 ((Chg.refl zNone w3).drew.trans k1 (fun _ _ _ h => h))); clear g1 k1))
            try simp only [putL, putN, List.set_cons_zero, List.set_cons_succ]
            refine wpAny_ready (rs := [1]) (by kernel_rfl) (by simp) ?_
            refine AllReady.cons rfl (fun K hK => ?_) AllReady.nil
            go_simp
            refine hK _ _ ?_
            clear hK K
            try simp only [putL, putN, List.set_cons_zero, List.set_cons_succ]
            refine wpAny_ready (rs := [4]) (by kernel_rfl) (by simp) ?_
            refine AllReady.cons rfl (fun K hK => ?_) AllReady.nil
            go_simp
            go_wp2_with (go_at_call 25; go_loud (refine (HMl.out _ pa pn pc HS6.out.2 HS6.out.1).mono ?_; rintro e w7 ⟨ma, mn, mc, rfl, g1, k1⟩; have l2 := k1.cell l2 (fun h => h); have HS7 := Lib.hid (And.intro g1 (HS6.out.2.trans k1 (fun _ _ _ h => h))); clear g1 k1))
            try simp only [putL, putN, List.set_cons_zero, List.set_cons_succ]
            refine wpAny_ready (rs := [7]) (by kernel_rfl) (by simp) ?_
            refine AllReady.cons rfl (fun K hK => ?_) AllReady.nil
            go_simp
            go_wp2_with (go_at_call 24; go_loud (refine (HNr.out _ ma mn mc HS7.out.2 HS7.out.1).mono ?_; rintro e w8 ⟨nb, nn, qa, qn, qc, rfl, g0, g1, g2, k1⟩; have HS8 := Lib.hid (And.intro g1 (And.intro g2 (HS7.out.2.trans k1 (fun _ _ _ h => h)))); clear g1 g2 k1))
            try simp only [putL, putN, List.set_cons_zero, List.set_cons_succ]
            refine wpAny_take (i := 8) (v := ?_) rfl (by kernel_rfl) (by kernel_rfl) (by kernel_rfl) (fun _ _ _ h => False.elim h) (Or.inl ⟨by rfl, ?_⟩) ?_
            rotate_left 1
            · intro w9
              go_simp
              try with_reducible rfl
            try simp only [putL, putN, List.set_cons_zero, List.set_cons_succ]
            refine wpAny_done (by kernel_rfl) ?_ _
            refine NoPanic.normal ?_
            go_wp2
            go_meet
            exact ⟨nb, nn, rfl, g0, qa, qn, qc, HS8.out⟩
      case rest =>
        obtain ⟨nb, nn, rfl, hnn, HN⟩ := hcut
        obtain ⟨qa, qn, qc, hq1, hq2, hq3⟩ := HN.out
        have HQ := Lib.hid (And.intro hq2 hq3)
        have hqn : qn ≤ 62 := hq2.len hQb.out
        clear H26 HMl HNr HN hq2 hq3 l0 l1 l2
        obtain ⟨Q, hQ⟩ : ∃ x, Si.nearQ (val U un * 10 ^ k) (val D dn) = x := ⟨_, rfl⟩
        rw [hQ] at HQ
        have HQd : Hid (decQ (val U un) (val D dn) (10 ^ k) = Q) := hQ
        clear hQ hQb
        go_upto_region 8 with fail
        go_cut [9] (fun s9 wd => s9 = .slice qa qn qc ∧ wd = wc)
        case first => as_aux_lemma =>
          have hn01 : nn = 0 ∨ nn = 1 := by omega
          rcases hn01 with rfl | rfl
          · go_wp2_with fail
            go_meet
            exact ⟨rfl, rfl⟩
          · go_wp2_with fail
            go_meet
            exact ⟨rfl, rfl⟩
        case rest =>
          obtain ⟨rfl, rfl⟩ := hcut
          have hk3 : Chg zNone wA wc := K2.out.trans (HB.out.2.1.trans HQ.out.2 (fun _ _ _ h => h)) (fun _ _ _ h => h)
          have HK3 := Lib.hid hk3
          have y0 := hk3.cell (HA.out.2.1 0 _ rfl) (fun h => h)
          have y1 := hk3.cell (HA.out.2.1 1 _ rfl) (fun h => h)
          have y2 := hk3.cell (HA.out.2.1 2 _ rfl) (fun h => h)
          have HD2 := Lib.hid (HDc.out wc hk3 HB.out.2.2.2.1 HB.out.2.2.2.2.1 HB.out.2.2.2.2.2)
          have hsg : (ng && decide (val U un ≠ 0)) = ng := HB.out.2.2.1.symm
          rw [hsg, HQd.out] at HD2
          clear hk3 hq1 hsg
          go_wp2_with fail
          refine HD2.out.mono ?_
          rintro e w5 ⟨s, rfl, g1, g2⟩
          have HS := Lib.hid (And.intro g1 g2)
          clear g1 g2 y0 y1 y2 HD2
          have HP := Lib.hid (Si.pointed_any qa qn qc k Q w5 (HQ.out.1.far HS.out.2) (by omega) (by omega))
          go_wp2_with fail
          refine HP.out.mono ?_
          rintro e w6 ⟨t, rfl, hts, g1, g2⟩
          have HT := Lib.hid (And.intro g1 g2)
          clear g1 g2 HP
          have hEq : Hid (s = if ng = true then (⟨#[45]⟩ : ByteArray) ++ t else t) := by
            have h1 := HS.out.1
            have h2 := HT.out.1
            cases ng with
            | true => exact h1.unique h2.neg
            | false => exact h1.unique h2
          have hb0 := HB.out.1.chg ((HQ.out.2.trans HS.out.2 (fun _ _ _ h => h)).trans HT.out.2 (fun _ _ _ h => h)) (fun _ h => h)
          have l0 := hb0.c0
          have HK6 : Hid (Chg zNone w w6) := HA.out.1.trans ((HK3.out.trans HS.out.2 (fun _ _ _ h => h)).trans HT.out.2 (fun _ _ _ h => h)) (fun _ _ _ h => h)
          clear hb0
          cases ng with
          | false =>
            have hst : s = t := hEq.out
            subst hst
            by_cases hq0 : qn = 0
            · have d3 : ((qn : Int) == 0) = true := by simp [hq0]
              clear hq0
              go_wp2_with fail
              go_ret
              exact ⟨by simp, HK6.out⟩
            · have d3 : ((qn : Int) == 0) = false := beq_false_of_ne (by omega)
              clear hq0
              go_wp2_with fail
              go_ret
              exact ⟨by simp, HK6.out⟩
          | true =>
            have hst : s = (⟨#[45]⟩ : ByteArray) ++ t := hEq.out
            have hcc : (⟨#[45]⟩ : ByteArray).size = 1 := rfl
            by_cases hq0 : qn = 0
            · have d3 : ((qn : Int) == 0) = true := by simp [hq0]
              clear hq0
              obtain ⟨be, hbe⟩ : ∃ b, (s.toList == t.toList) = b := ⟨_, rfl⟩
              cases be with
              | true =>
                have Hst := Lib.hid hst
                clear hst
                go_wp2_with fail
                go_ret
                exact ⟨rfl, HK6.out⟩
              | false =>
                have Hst := Lib.hid hst
                clear hst
                go_wp2_with fail
                go_ret
                exact ⟨by rw [Hst.out]; simp, HK6.out⟩
            · have d3 : ((qn : Int) == 0) = false := beq_false_of_ne (by omega)
              have Hst := Lib.hid hst
              clear hq0 hst
              go_wp2_with fail
              go_ret
              exact ⟨by rw [Hst.out]; simp, HK6.out⟩
end Go.Proofs.YtmgfajamanakcaaGreatDoor
