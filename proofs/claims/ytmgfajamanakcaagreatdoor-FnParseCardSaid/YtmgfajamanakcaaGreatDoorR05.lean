/- Part of the proof of FnParse: what the functions that it reaches do, as contracts. Conditions: those that each theorem names. -/
import Derived.Test.YtmgfajamanakcaaGreatDoorR04
import Derived.Deep.DeepCutAuto
import Derived.Deep.CutBlock
import Derived.Deep.LoopGhost
namespace Go.Proofs.YtmgfajamanakcaaGreatDoor
set_option linter.unusedVariables false
set_option linter.unusedSimpArgs false
open Go.RowKit
set_option maxRecDepth 100000
def LoopRel (w0 : World) (br : Nat) (s : ByteArray) (eof : Value) (b0 : Bool) (b bn : Int) (n : Nat) (last : Nat × SS) (k : Nat) (s0 s3 s10 s11 s13 s14 s15 s20 s21 s22 : Value) (wc : World) : Prop :=
  ∃ more c q st a zn zc di i, s0 = .slice a zn zc ∧ s3 = .bool st.frac ∧ s10 = .int .i64 (st.cnt : Int) ∧ s11 = errOf more eof ∧ s13 = .int .i32 st.prev ∧ s14 = .bool st.inval ∧ s15 = .int .u8 c ∧ s20 = .int .u64 di ∧ s21 = .int .i64 (i : Nat) ∧ s22 = .int .i64 st.dp ∧ s.size - q ≤ k ∧
    Hid (Head wc br s q more c ∧ Chg (zRow br 1 2) w0 wc ∧ runS b0 b s q st = last ∧ RunOK b s q st ∧ LR w0 wc b bn n st a zn zc di i)
def EndRel (w0 : World) (br : Nat) (s : ByteArray) (eof : Value) (b0 : Bool) (b bn : Int) (n : Nat) (last : Nat × SS) (s0 s10 s11 s13 s14 s20 s21 s22 : Value) (wc : World) : Prop :=
  ∃ more a zn zc di i, s0 = .slice a zn zc ∧ s10 = .int .i64 (last.2.cnt : Int) ∧ s11 = errOf more eof ∧ s13 = .int .i32 last.2.prev ∧ s14 = .bool last.2.inval ∧ s20 = .int .u64 di ∧ s21 = .int .i64 (i : Nat) ∧ s22 = .int .i64 last.2.dp ∧
    Hid (RdAt wc br s last.1 ∧ Chg (zRow br 1 2) w0 wc ∧ RunOK b s last.1 last.2 ∧ LR w0 wc b bn n last.2 a zn zc di i)
def BnRel (b : Int) (w : World) (s18 s19 : Value) (wc : World) : Prop := ∃ (bn : Int) (n : Nat), s18 = .int .u64 bn ∧ s19 = .int .i64 (n : Nat) ∧ w = wc ∧ Hid (BaseOK b bn n)
theorem preS_b {base : Int} {frac : Bool} {s : ByteArray} {p : Nat} (hbase : base = 0 ∨ base = 2 ∨ base = 8 ∨ base = 10 ∨ base = 16) : (preS base frac s p).b = 2 ∨ (preS base frac s p).b = 8 ∨ (preS base frac s p).b = 10 ∨ (preS base frac s p).b = 16 := by
  unfold preS
  split
  · simp only; omega
  · split
    · split
      · split
        · simp
        · split
          · simp
          · split
            · simp
            · split <;> simp
      · simp
    · simp
theorem preS_run {base : Int} {frac : Bool} {s : ByteArray} {p : Nat} (hp : p ≤ s.size) (hbase : base = 0 ∨ base = 2 ∨ base = 8 ∨ base = 10 ∨ base = 16) : RunOK (preS base frac s p).b s (preS base frac s p).p (startS base frac s p) := by
  have hb := preS_b (frac := frac) (s := s) (p := p) hbase
  have h0 := preS_ok (base := base) (frac := frac) hp (by omega)
  have hc : (preS base frac s p).cnt ≤ (preS base frac s p).p := by
    unfold preS
    split
    · simp
    · split
      · split
        · split
          · simp
          · split
            · simp
            · split
              · simp
              · split <;> simp
        · simp
      · simp
  exact ⟨h0.2.2.1, hc, Int.le_refl _, Int.pow_pos (by omega), by simp only [startS]; omega⟩
set_option maxHeartbeats 40000000 in
theorem scan_any (br : Nat) (s : ByteArray) (p : Nat) (base : Int) (frac : Bool) (aE : Addr) (e1 e2 : Value) (w : World) (h : RdAt w br s p) (hs : s.size < 1048576) (hp : p ≤ s.size) (hbr : br ≠ 0) (hE : Errs w (.iface 229 (.pointer (some aE))) e1 e2)
    (hbase : base = 0 ∨ base = 2 ∨ base = 8 ∨ base = 10 ∨ base = 16) :
    Calls Tryz.prog 126 #[.slice none 0 0, .iface 169 (.pointer (some ⟨br, 0, none⟩)), .int .i64 base, .bool frac] w (ScanPost w br s (scanS base frac s p) e1 e2) := by
  have H := Lib.hid (And.intro h hE)
  clear h hE
  have hr := method_read
  have hu := method_unread
  go_enter Tryz.func126, Tryz.ntmps126
  go_upto_region 1 with fail
  go_cut [12] (fun s12 wc => s12 = .bool true ∧ w = wc)
  case first => as_aux_lemma =>
    rcases hbase with rfl | rfl | rfl | rfl | rfl <;> cases frac <;> (go_wp2; go_meet; exact ⟨rfl, rfl⟩)
  case rest =>
    obtain ⟨rfl, rfl⟩ := hcut
    go_wp2_with fail
    refine (read_head br s p _ _ H.out.1 (by omega) hp hbr H.out.2.eof).mono ?_
    rintro e w1 ⟨more, c, rfl, h1, h2⟩
    have HE1 := Lib.hid (H.out.2.chg h2 (fun _ => zrow_zero))
    have H1 := Lib.hid (And.intro h1 h2)
    clear h1 h2
    go_upto_if 67 with fail
    go_cut [9, 10, 11, 13, 15, 16] (PreRel w br s (.iface 229 (.pointer (some aE))) (preS base frac s p))
    case first => as_aux_lemma =>
      by_cases h0 : base = 0
      · subst h0
        have hb0 : ((0 : Int) == 0) = true := rfl
        cases more with
        | false =>
          rw [errOf_false]
          go_wp2
          go_meet
          rw [pre_none frac (fun hh => by have := H1.out.1.2.1.2 hh.1; cases this)]
          exact ⟨false, c, rfl, rfl, rfl, rfl, rfl, rfl, H1.out⟩
        | true =>
          rw [errOf_true]
          by_cases h48 : c = 48
          · have hc48 : (c == 48) = true := by simp [h48]
            have H48 : Hid (byteAt s p = 48) := by have := H1.out.1.1; rw [h48] at this; exact this.symm
            have hpp : p < s.size := H1.out.1.2.1.1 rfl
            clear h48
            go_wp2_with fail
            refine (read_head br s (p + 1) _ _ H1.out.1.2.2 (by omega) (by omega) hbr HE1.out.eof).mono ?_
            rintro e w2 ⟨more2, c2, rfl, h1, h2⟩
            have HE2 := Lib.hid (HE1.out.chg h2 (fun _ => zrow_zero))
            have H2 := Lib.hid (And.intro h1 (H1.out.2.trans h2 (fun _ _ _ h => h)))
            clear h1 h2
            cases more2 with
            | false =>
              rw [errOf_false]
              go_wp2
              go_meet
              rw [pre_zero frac (fun hh => by have := H2.out.1.2.1.2 hh; cases this) hpp H48.out]
              exact ⟨false, c2, rfl, rfl, rfl, rfl, rfl, rfl, H2.out⟩
            | true =>
              rw [errOf_true]
              have hp2 : p + 1 < s.size := H2.out.1.2.1.1 rfl
              have hc2 : Hid (byteAt s (p + 1) = c2) := by have := H2.out.1.1; unfold Hid; simpa using this.symm
              go_upto_block 0 with fail
              go_cut [9, 16] (SwRel frac s p w2)
              case first => as_aux_lemma =>
                by_cases k1 : c2 = 98
                · have HPR := Lib.hid (pre_two frac hp2 H48.out (Or.inl (hc2.out.trans k1)))
                  have j1 : (c2 == 98) = true := by simp [k1]
                  clear k1
                  go_wp2
                  go_meet
                  exact ⟨2, 98, rfl, rfl, rfl, HPR.out⟩
                have j1 : (c2 == 98) = false := by simp [k1]
                by_cases k2 : c2 = 66
                · have HPR := Lib.hid (pre_two frac hp2 H48.out (Or.inr (hc2.out.trans k2)))
                  have j2 : (c2 == 66) = true := by simp [k2]
                  clear k1 k2
                  go_wp2
                  go_meet
                  exact ⟨2, 98, rfl, rfl, rfl, HPR.out⟩
                have j2 : (c2 == 66) = false := by simp [k2]
                by_cases k3 : c2 = 111
                · have HPR := Lib.hid (pre_eight frac hp2 H48.out (Or.inl (hc2.out.trans k3)))
                  have j3 : (c2 == 111) = true := by simp [k3]
                  clear k1 k2 k3
                  go_wp2
                  go_meet
                  exact ⟨8, 111, rfl, rfl, rfl, HPR.out⟩
                have j3 : (c2 == 111) = false := by simp [k3]
                by_cases k4 : c2 = 79
                · have HPR := Lib.hid (pre_eight frac hp2 H48.out (Or.inr (hc2.out.trans k4)))
                  have j4 : (c2 == 79) = true := by simp [k4]
                  clear k1 k2 k3 k4
                  go_wp2
                  go_meet
                  exact ⟨8, 111, rfl, rfl, rfl, HPR.out⟩
                have j4 : (c2 == 79) = false := by simp [k4]
                by_cases k5 : c2 = 120
                · have HPR := Lib.hid (pre_sixteen frac hp2 H48.out (Or.inl (hc2.out.trans k5)))
                  have j5 : (c2 == 120) = true := by simp [k5]
                  clear k1 k2 k3 k4 k5
                  go_wp2
                  go_meet
                  exact ⟨16, 120, rfl, rfl, rfl, HPR.out⟩
                have j5 : (c2 == 120) = false := by simp [k5]
                by_cases k6 : c2 = 88
                · have HPR := Lib.hid (pre_sixteen frac hp2 H48.out (Or.inr (hc2.out.trans k6)))
                  have j6 : (c2 == 88) = true := by simp [k6]
                  clear k1 k2 k3 k4 k5 k6
                  go_wp2
                  go_meet
                  exact ⟨16, 120, rfl, rfl, rfl, HPR.out⟩
                have j6 : (c2 == 88) = false := by simp [k6]
                have HPR := Lib.hid (pre_other frac hp2 H48.out (hc2.out ▸ k1) (hc2.out ▸ k2) (hc2.out ▸ k3) (hc2.out ▸ k4) (hc2.out ▸ k5) (hc2.out ▸ k6))
                clear k1 k2 k3 k4 k5 k6
                cases frac with
                | true =>
                  go_wp2
                  go_meet
                  exact ⟨10, 0, rfl, rfl, rfl, HPR.out⟩
                | false =>
                  go_wp2
                  go_meet
                  exact ⟨8, 48, rfl, rfl, rfl, HPR.out⟩
              case rest => as_aux_lemma =>
                obtain ⟨b, pf, rfl, rfl, rfl, HPR⟩ := hcut
                by_cases k0 : pf = 0
                · subst k0
                  have HPR2 := Lib.hid (show preS 0 frac s p = ⟨b, 0, p + 1, 48, 1⟩ by have := HPR.out; simpa using this)
                  go_wp2
                  go_meet
                  rw [HPR2.out]
                  exact ⟨true, c2, rfl, rfl, rfl, rfl, rfl, rfl, H2.out⟩
                have j0 : (pf == 0) = false := by simp [k0]
                by_cases k1 : pf = 48
                · subst k1
                  have HPR2 := Lib.hid (show preS 0 frac s p = ⟨b, 48, p + 1, 48, 0⟩ by have := HPR.out; simpa using this)
                  go_wp2
                  go_meet
                  rw [HPR2.out]
                  exact ⟨true, c2, rfl, rfl, rfl, rfl, rfl, rfl, H2.out⟩
                have j1 : (pf == 48) = false := by simp [k1]
                unfold Hid at HPR
                rw [if_neg k0, if_neg k1] at HPR
                have HPR := Lib.hid HPR
                clear k0 k1
                go_wp2_with fail
                refine (read_head br s (p + 2) _ _ H2.out.1.2.2 (by omega) (by omega) hbr HE2.out.eof).mono ?_
                rintro e w3 ⟨more3, c3, rfl, h1, h2⟩
                have H3 := Lib.hid (And.intro h1 (H2.out.2.trans h2 (fun _ _ _ h => h)))
                clear h1 h2
                go_wp2
                go_meet
                rw [HPR.out]
                exact ⟨more3, c3, rfl, rfl, rfl, rfl, rfl, rfl, H3.out⟩
          · have hc48 : (c == 48) = false := by simp [h48]
            have HPR := Lib.hid (pre_none (s := s) (p := p) frac (fun hh => by have := H1.out.1.1; simp at this; rw [hh.2] at this; exact h48 this))
            clear h48
            go_wp2
            go_meet
            rw [HPR.out]
            exact ⟨true, c, rfl, rfl, rfl, rfl, rfl, rfl, H1.out⟩
      · have hb0 : (base == 0) = false := by simp [h0]
        have HPR := Lib.hid (pre_given (s := s) (p := p) frac h0)
        clear h0
        go_wp2
        go_meet
        rw [HPR.out]
        exact ⟨more, c, rfl, rfl, rfl, rfl, rfl, rfl, H1.out⟩
    case rest =>
      obtain ⟨more, c, rfl, rfl, rfl, rfl, rfl, rfl, HH⟩ := hcut
      clear H1 HE1
      have Hrun := Lib.hid (show RunOK _ _ _ _ from preS_run (frac := frac) hp hbase)
      have Hlast := Lib.hid (show runS (base == 0) (preS base frac s p).b s (preS base frac s p).p (startS base frac s p) = lastS base frac s p from rfl)
      have hPb := preS_b (frac := frac) (s := s) (p := p) hbase
      have Hst := Lib.hid (show startS base frac s p = ⟨(preS base frac s p).prev, false, frac, (preS base frac s p).cnt, -1, 0⟩ from rfl)
      generalize startS base frac s p = st0 at Hrun Hlast Hst
      generalize hPR : preS base frac s p = PR at Hrun Hlast Hst hPb HH ⊢
      have HPR := Lib.hid hPR
      clear hPR
      obtain ⟨b, pf, pp, prev0, cnt0⟩ := PR
      simp only at Hrun Hlast Hst hPb HH HPR ⊢
      have hb0 : 2 ≤ b := by omega
      have hb1 : b ≤ 16 := by omega
      go_upto_block 1 with fail
      go_cut [18, 19] (BnRel b wc)
      case first => as_aux_lemma =>
        clear Hrun Hlast Hst HH HPR
        rcases hPb with rfl | rfl | rfl | rfl
        · go_wp2
          go_meet
          exact ⟨0, 64, rfl, rfl, rfl, by omega, by omega, by omega, by omega, Or.inl ⟨rfl, by decide, Or.inl ⟨rfl, rfl⟩⟩⟩
        · go_wp2_with fail
          refine (maxPow_any 8 _ (by omega) (by omega)).mono ?_
          rintro e w2 ⟨n, rfl, h1, h2, h3, rfl⟩
          have H3 := Lib.hid h3
          clear h3
          go_wp2
          go_meet
          have hp : (0:Int) < 8 ^ n := Int.pow_pos (by omega)
          exact ⟨8 ^ n, n, rfl, rfl, rfl, by omega, by omega, by omega, by omega, Or.inr ⟨by omega, rfl, by omega, H3.out⟩⟩
        · go_wp2_with fail
          refine (maxPow_any 10 _ (by omega) (by omega)).mono ?_
          rintro e w2 ⟨n, rfl, h1, h2, h3, rfl⟩
          have H3 := Lib.hid h3
          clear h3
          go_wp2
          go_meet
          have hp : (0:Int) < 10 ^ n := Int.pow_pos (by omega)
          exact ⟨10 ^ n, n, rfl, rfl, rfl, by omega, by omega, by omega, by omega, Or.inr ⟨by omega, rfl, by omega, H3.out⟩⟩
        · go_wp2
          go_meet
          exact ⟨0, 16, rfl, rfl, rfl, by omega, by omega, by omega, by omega, Or.inl ⟨rfl, by decide, Or.inr ⟨rfl, rfl⟩⟩⟩
      case rest =>
        obtain ⟨bn, n, rfl, rfl, rfl, HB⟩ := hcut
        go_upto_block 2 with fail
        go_cut [0, 10, 11, 13, 14, 20, 21, 22] (EndRel w br s (.iface 229 (.pointer (some aE))) (base == 0) b bn n (lastS base frac s p))
        case first => as_aux_lemma =>
          go_wp2_with fail
          go_loopg [0, 3, 10, 11, 13, 14, 15, 20, 21, 22] (s.size - pp) (LoopRel w br s (.iface 229 (.pointer (some aE))) (base == 0) b bn n (lastS base frac s p))
          case atStart =>
            have e := Hst.out
            subst e
            refine ⟨more, c, pp, _, none, 0, 0, 0, 0, rfl, rfl, rfl, rfl, rfl, rfl, rfl, rfl, rfl, rfl, Nat.le_refl _, HH.out.1, HH.out.2, Hlast.out, Hrun.out, ?_⟩
            refine ⟨⟨0, 0, ⟨Nat.le_refl _, Nat.le_refl _, Or.inl ⟨rfl, rfl⟩, Or.inl rfl, fun _ => 0, Or.inl rfl, fun i hi => by omega, ?_⟩, Nat.zero_le _, Int.le_refl _, by simp⟩, by have := HB.out.2.2.1; omega, Int.le_refl _, by simp⟩
            by_cases hz : bn = 0
            · exact Or.inl ⟨hz, rfl⟩
            · exact Or.inr ⟨hz, rfl, Or.inl rfl⟩
          case round =>
            clear HH Hrun Hlast Hst HPR
            obtain ⟨more, c, q, st, a, zn, zc, di, i, rfl, rfl, rfl, rfl, rfl, rfl, rfl, rfl, rfl, rfl, hk, HH⟩ := hrel
            cases more with
            | false =>
              rw [errOf_false]
              go_wp2
              go_meet
              have e : lastS base frac s p = (q, st) := by
                rw [← HH.out.2.2.1]
                have hq : ¬ q < s.size := fun hh => by have := HH.out.1.2.1.2 hh; cases this
                exact runS_end (by omega)
              rw [e]
              exact ⟨false, a, zn, zc, di, i, rfl, rfl, rfl, rfl, rfl, rfl, rfl, rfl, HH.out.1.2.2, HH.out.2.1, HH.out.2.2.2.1, HH.out.2.2.2.2⟩
            | true =>
              rw [errOf_true]
              have hq : q < s.size := HH.out.1.2.1.1 rfl
              have Hc : Hid (byteAt s q = c) := by have := HH.out.1.1; unfold Hid; simpa using this.symm
              have HE1 := Lib.hid (H.out.2.chg HH.out.2.1 (fun _ => zrow_zero))
              obtain ⟨prev, inval, fr, cnt, dp, V⟩ := st
              simp only at HH ⊢
              have hcb := byteAt_range s q
              rw [Hc.out] at hcb
              obtain ⟨hc0, hc1⟩ := hcb
              have hcnt : cnt ≤ q := HH.out.2.2.2.1.hc
              by_cases hA : c = 46 ∧ fr = true
              · as_aux_lemma =>
                obtain ⟨hA1, hA2⟩ := hA
                have HS := Lib.hid (stepS_point (b0 := base == 0) (b := b) (st := ⟨prev, inval, fr, cnt, dp, V⟩) hA1 hA2)
                have hb1 : (c == 46) = true := by simp [hA1]
                subst hA2
                clear hA1
                by_cases hp95 : prev = 95
                · have hp : (prev == 95) = true := by simp [hp95]
                  clear hp95
                  go_wp2_with fail
                  refine (read_head br s (q + 1) _ _ HH.out.1.2.2 (by omega) (by omega) hbr HE1.out.eof).mono ?_
                  rintro e w2 ⟨more2, c2, rfl, h1, h2⟩
                  have H2 := Lib.hid (And.intro h1 h2)
                  clear h1 h2
                  go_wp2
                  go_roundg (gk - 1)
                  case measure => omega
                  case rel =>
                    have hst := HS.out
                    rw [hp] at hst
                    rw [← Hc.out] at hst
                    refine ⟨more2, c2, q + 1, _, a, zn, zc, di, i, rfl, rfl, rfl, rfl, rfl, ?_, rfl, rfl, rfl, rfl, by omega, H2.out.1, HH.out.2.1.trans H2.out.2 (fun _ _ _ h => h), (runS_step hq hst).symm.trans HH.out.2.2.1, HH.out.2.2.2.1.step (by omega) hq hst, ?_⟩
                    · simp
                    · exact (HH.out.2.2.2.2.chg H2.out.2 (rd_apart' HH.out.1.2.2 HH.out.2.2.2.2.zok)).state rfl rfl
                · have hp : (prev == 95) = false := by simp [hp95]
                  clear hp95
                  go_wp2_with fail
                  refine (read_head br s (q + 1) _ _ HH.out.1.2.2 (by omega) (by omega) hbr HE1.out.eof).mono ?_
                  rintro e w2 ⟨more2, c2, rfl, h1, h2⟩
                  have H2 := Lib.hid (And.intro h1 h2)
                  clear h1 h2
                  go_wp2
                  go_roundg (gk - 1)
                  case measure => omega
                  case rel =>
                    have hst := HS.out
                    rw [hp] at hst
                    rw [← Hc.out] at hst
                    refine ⟨more2, c2, q + 1, _, a, zn, zc, di, i, rfl, rfl, rfl, rfl, rfl, ?_, rfl, rfl, rfl, rfl, by omega, H2.out.1, HH.out.2.1.trans H2.out.2 (fun _ _ _ h => h), (runS_step hq hst).symm.trans HH.out.2.2.1, HH.out.2.2.2.1.step (by omega) hq hst, ?_⟩
                    · simp
                    · exact (HH.out.2.2.2.2.chg H2.out.2 (rd_apart' HH.out.1.2.2 HH.out.2.2.2.2.zok)).state rfl rfl
              · by_cases hB : c = 95 ∧ base = 0
                · as_aux_lemma =>
                  obtain ⟨hB1, hB2⟩ := hB
                  have hb1 : (c == 95) = true := by simp [hB1]
                  have hb2 : (c == 46) = false := by simp [hB1]
                  have hb3 : (base == 0) = true := by simp [hB2]
                  have HS := Lib.hid (show stepS (base == 0) b ⟨prev, inval, fr, cnt, dp, V⟩ c = some ⟨95, inval || prev != 48, fr, cnt, dp, V⟩ by rw [hb3]; exact stepS_bar hB1)
                  clear hA hB1 hB2
                  by_cases hp48 : prev = 48
                  · have hp : (prev == 48) = true := by simp [hp48]
                    have hp' : (prev != 48) = false := by simp [hp48]
                    clear hp48
                    go_wp2_with fail
                    refine (read_head br s (q + 1) _ _ HH.out.1.2.2 (by omega) (by omega) hbr HE1.out.eof).mono ?_
                    rintro e w2 ⟨more2, c2, rfl, h1, h2⟩
                    have H2 := Lib.hid (And.intro h1 h2)
                    clear h1 h2
                    go_wp2
                    go_roundg (gk - 1)
                    case measure => omega
                    case rel =>
                      have hst := HS.out
                      rw [hp', ← Hc.out] at hst
                      refine ⟨more2, c2, q + 1, _, a, zn, zc, di, i, rfl, rfl, rfl, rfl, rfl, ?_, rfl, rfl, rfl, rfl, by omega, H2.out.1, HH.out.2.1.trans H2.out.2 (fun _ _ _ h => h), (runS_step hq hst).symm.trans HH.out.2.2.1, HH.out.2.2.2.1.step (by omega) hq hst, ?_⟩
                      · simp
                      · exact (HH.out.2.2.2.2.chg H2.out.2 (rd_apart' HH.out.1.2.2 HH.out.2.2.2.2.zok)).state rfl rfl
                  · have hp : (prev == 48) = false := by simp [hp48]
                    have hp' : (prev != 48) = true := by simp [hp48]
                    clear hp48
                    go_wp2_with fail
                    refine (read_head br s (q + 1) _ _ HH.out.1.2.2 (by omega) (by omega) hbr HE1.out.eof).mono ?_
                    rintro e w2 ⟨more2, c2, rfl, h1, h2⟩
                    have H2 := Lib.hid (And.intro h1 h2)
                    clear h1 h2
                    go_wp2
                    go_roundg (gk - 1)
                    case measure => omega
                    case rel =>
                      have hst := HS.out
                      rw [hp', ← Hc.out] at hst
                      refine ⟨more2, c2, q + 1, _, a, zn, zc, di, i, rfl, rfl, rfl, rfl, rfl, ?_, rfl, rfl, rfl, rfl, by omega, H2.out.1, HH.out.2.1.trans H2.out.2 (fun _ _ _ h => h), (runS_step hq hst).symm.trans HH.out.2.2.1, HH.out.2.2.2.1.step (by omega) hq hst, ?_⟩
                      · simp
                      · exact (HH.out.2.2.2.2.chg H2.out.2 (rd_apart' HH.out.1.2.2 HH.out.2.2.2.2.zok)).state rfl rfl
                · by_cases hC1 : c = 46
                  · as_aux_lemma =>
                    obtain rfl : fr = false := by cases fr with
                      | false => rfl
                      | true => exact absurd ⟨hC1, rfl⟩ hA
                    subst hC1
                    have HS := Lib.hid (stepS_stop (b0 := base == 0) (b := b) (st := ⟨prev, inval, false, cnt, dp, V⟩) (c := 46) (d := 63) rfl (by simp) (by simp) (by omega))
                    clear hA hB
                    go_wp2_with fail
                    refine (UnreadByte_any br s q _ HH.out.1.2.2 (by omega)).mono ?_
                    rintro e w2 ⟨rfl, h1, h2⟩
                    have H2 := Lib.hid (And.intro h1 h2)
                    clear h1 h2
                    go_wp2
                    go_meet
                    have hst := HS.out
                    rw [← Hc.out] at hst
                    have e := HH.out.2.2.1
                    rw [runS_stop hq hst] at e
                    rw [← e]
                    exact ⟨true, a, zn, zc, di, i, rfl, rfl, rfl, rfl, rfl, rfl, rfl, rfl, H2.out.1, HH.out.2.1.trans H2.out.2 (fun _ _ _ h => h), HH.out.2.2.2.1, HH.out.2.2.2.2.chg H2.out.2 (rd_apart' HH.out.1.2.2 HH.out.2.2.2.2.zok)⟩
                  · by_cases hC2 : c = 95
                    · as_aux_lemma =>
                      have hb3 : (base == 0) = false := by simp; exact fun h => hB ⟨hC2, h⟩
                      subst hC2
                      have HS := Lib.hid (show stepS (base == 0) b ⟨prev, inval, fr, cnt, dp, V⟩ 95 = none from stepS_stop (d := 63) rfl (by simp) (by rw [hb3]; simp) (by omega))
                      clear hA hB hC1
                      go_wp2_with fail
                      refine (UnreadByte_any br s q _ HH.out.1.2.2 (by omega)).mono ?_
                      rintro e w2 ⟨rfl, h1, h2⟩
                      have H2 := Lib.hid (And.intro h1 h2)
                      clear h1 h2
                      go_wp2
                      go_meet
                      have hst := HS.out
                      rw [← Hc.out] at hst
                      have e := HH.out.2.2.1
                      rw [runS_stop hq hst] at e
                      rw [← e]
                      exact ⟨true, a, zn, zc, di, i, rfl, rfl, rfl, rfl, rfl, rfl, rfl, rfl, H2.out.1, HH.out.2.1.trans H2.out.2 (fun _ _ _ h => h), HH.out.2.2.2.1, HH.out.2.2.2.2.chg H2.out.2 (rd_apart' HH.out.1.2.2 HH.out.2.2.2.2.zok)⟩
                    · as_aux_lemma =>
                      obtain ⟨d, hd⟩ : ∃ d, digOf c = d := ⟨_, rfl⟩
                      have HD := Lib.hid hd
                      have hd0 : 0 ≤ d := by rw [← hd]; exact digOf_nonneg
                      have hd1 : d ≤ 63 := by rw [← hd]; unfold digOf; split <;> (try split) <;> (try split) <;> omega
                      have k1 : (c == 46) = false := by simp [hC1]
                      have k2 : (c == 95) = false := by simp [hC2]
                      have HN := Lib.hid (show ¬ (c = 46 ∧ fr = true) ∧ ¬ (c = 95 ∧ (base == 0) = true) from ⟨hA, fun h => hC2 h.1⟩)
                      clear hA hB hC1 hC2 hd
                      go_upto_block 4 with fail
                      go_cut [23] (fun s23 wd => s23 = .int .u64 d ∧ wr = wd)
                      case first => as_aux_lemma =>
                        clear HH HN HE1
                        by_cases r1 : 48 ≤ c ∧ c ≤ 57
                        · obtain ⟨r1, r2⟩ := r1
                          have hh : Hid (c - 48 = d) := by have := HD.out; unfold digOf at this; rw [if_pos ⟨r1, r2⟩] at this; exact this
                          go_wp2
                          go_meet
                          exact ⟨by rw [hh.out], rfl⟩
                        · by_cases r2 : 97 ≤ c ∧ c ≤ 122
                          · have hh : Hid (c - 97 + 10 = d) := by have := HD.out; unfold digOf at this; rw [if_neg r1, if_pos r2] at this; unfold Hid; omega
                            obtain ⟨r2, r3⟩ := r2
                            clear r1
                            go_wp2
                            go_meet
                            exact ⟨by rw [hh.out], rfl⟩
                          · by_cases r3 : 65 ≤ c ∧ c ≤ 90
                            · have hh : Hid (c - 65 + 10 = d) := by have := HD.out; unfold digOf at this; rw [if_neg r1, if_neg r2, if_pos r3] at this; unfold Hid; omega
                              obtain ⟨r3, r4⟩ := r3
                              clear r1 r2
                              go_wp2
                              go_meet
                              exact ⟨by rw [hh.out], rfl⟩
                            · have hh : Hid (63 = d) := by have := HD.out; unfold digOf at this; rw [if_neg r1, if_neg r2, if_neg r3] at this; exact this
                              by_cases q1 : c < 48
                              · clear r1 r2 r3
                                go_wp2
                                go_meet
                                exact ⟨by rw [hh.out], rfl⟩
                              · by_cases q2 : c < 65
                                · have q3 : 57 < c := by omega
                                  clear r1 r2 r3
                                  go_wp2
                                  go_meet
                                  exact ⟨by rw [hh.out], rfl⟩
                                · by_cases q4 : c < 97
                                  · have q3 : 90 < c := by omega
                                    clear r1 r2 r3
                                    go_wp2
                                    go_meet
                                    exact ⟨by rw [hh.out], rfl⟩
                                  · have q3 : 122 < c := by omega
                                    clear r1 r2 r3
                                    go_wp2
                                    go_meet
                                    exact ⟨by rw [hh.out], rfl⟩
                      case rest => as_aux_lemma =>
                        obtain ⟨rfl, rfl⟩ := hcut
                        by_cases hdb : d < b
                        · have HS := Lib.hid (show stepS (base == 0) b ⟨prev, inval, fr, cnt, dp, V⟩ c = some ⟨48, inval, fr, cnt + 1, dp, V * b + d⟩ from stepS_digit HD.out HN.out.1 HN.out.2 hdb)
                          have HDi := Lib.hid (HH.out.2.2.2.2.digit HB.out hd0 hdb)
                          have hin : i < n := HH.out.2.2.2.2.hi
                          have hn64 : n ≤ 64 := HB.out.2.2.2.1
                          have hst0 := HH.out.2.2.2.1
                          have Hst := Lib.hid (show RunOK b s (q + 1) ⟨48, inval, fr, cnt + 1, dp, V * b + d⟩ from hst0.step (by omega) hq (by rw [Hc.out]; exact HS.out))
                          have Hne := Lib.hid (show runS (base == 0) b s (q + 1) ⟨48, inval, fr, cnt + 1, dp, V * b + d⟩ = lastS base frac s p from (runS_step hq (by rw [Hc.out]; exact HS.out)).symm.trans HH.out.2.2.1)
                          clear hst0
                          by_cases hfull : i + 1 = n
                          · have hi1 : ((i : Int) + 1 == (n : Int)) = true := by simp; omega
                            by_cases hbn : bn = 0
                            · as_aux_lemma =>
                              have hb3 : (bn == 0) = true := by simp [hbn]
                              obtain ⟨X, x1, x2, x3, x4, HK⟩ := HH.out.2.2.2.2.app HB.out hbn hfull HDi.out.1 HDi.out.2.2.2 HH.out.2.1.size (by omega) (.cells #[.int .u64 (IntKind.u64.wrap (IntKind.u64.wrap (di * b) + d))] 153)
                              have HK := Lib.hid HK
                              have HX := Lib.hid (And.intro x1 (And.intro x2 (cell?_alloc_new wr #[.int .u64 (IntKind.u64.wrap (IntKind.u64.wrap (di * b) + d))] 153 0 _ rfl)))
                              clear x1 x2
                              clear hbn hfull
                              go_wp2_with (with_reducible refine wpList_append_word rfl (.tmp 193) (.tmp 195) rfl a zn zc X _ _ rfl rfl HX.out.1 HX.out.2.1 x3 x4 HX.out.2.2 ?_; rintro a' c' w' hk2; have HK2 := Lib.hid (HK.out a' c' w' hk2); clear hk2)
                              have HE2 := Lib.hid (H.out.2.chg (HH.out.2.1.trans HK2.out.1 (fun b o hb hz => absurd hz (HH.out.2.2.2.2.fresh.zone b o hb))) (fun _ => zrow_zero))
                              refine (read_head br s (q + 1) _ _ (HH.out.1.2.2.chgZ HH.out.2.2.2.2.zok HK2.out.1) (by omega) (by omega) hbr HE2.out.eof).mono ?_
                              rintro e w2 ⟨more2, c2, rfl, h1, h2⟩
                              have H2 := Lib.hid (And.intro h1 h2)
                              clear h1 h2
                              go_wp2
                              go_roundg (gk - 1)
                              case measure => omega
                              case rel =>
                                refine ⟨more2, c2, q + 1, _, a', zn + 1, c', 0, 0, rfl, rfl, by go_num, rfl, rfl, rfl, rfl, rfl, rfl, rfl, by omega, H2.out.1, ?_, Hne.out, Hst.out, HK2.out.2.chg H2.out.2 (rd_apart' (HH.out.1.2.2.chgZ HH.out.2.2.2.2.zok HK2.out.1) HK2.out.2.zok)⟩
                                exact (HH.out.2.1.trans HK2.out.1 (fun b o hb hz => absurd hz (HH.out.2.2.2.2.fresh.zone b o hb))).trans H2.out.2 (fun _ _ _ h => h)
                            · as_aux_lemma =>
                              have hb3 : (bn == 0) = false := by simp [hbn]
                              have HC := Lib.hid (HH.out.2.2.2.2.mul_call HB.out hbn hfull HDi.out.1 HDi.out.2.2.2 HH.out.2.1.size (by omega) Hst.out.hV)
                              have HZ := Lib.hid (show w.heap.size ≤ wr.heap.size from HH.out.2.1.size)
                              clear hbn hfull
                              go_wp2_with fail
                              refine HC.out.mono ?_
                              rintro e w2 ⟨a', n', c', rfl, h1, h2⟩
                              have HE2 := Lib.hid (H.out.2.chg (HH.out.2.1.trans h1 (fun b o hb hz => absurd hz (HH.out.2.2.2.2.fresh.zone b o hb))) (fun _ => zrow_zero))
                              have HK2 := Lib.hid (And.intro h1 h2)
                              clear h1 h2
                              go_wp2_with fail
                              refine (read_head br s (q + 1) _ _ (HH.out.1.2.2.chgZ HH.out.2.2.2.2.zok HK2.out.1) (by omega) (by omega) hbr HE2.out.eof).mono ?_
                              rintro e w3 ⟨more2, c2, rfl, h1, h2⟩
                              have H2 := Lib.hid (And.intro h1 h2)
                              clear h1 h2
                              go_wp2
                              go_roundg (gk - 1)
                              case measure => omega
                              case rel =>
                                refine ⟨more2, c2, q + 1, _, a', n', c', 0, 0, rfl, rfl, by go_num, rfl, rfl, rfl, rfl, rfl, rfl, rfl, by omega, H2.out.1, ?_, Hne.out, Hst.out, HK2.out.2.chg H2.out.2 (rd_apart' (HH.out.1.2.2.chgZ HH.out.2.2.2.2.zok HK2.out.1) HK2.out.2.zok)⟩
                                exact (HH.out.2.1.trans HK2.out.1 (fun b o hb hz => absurd hz (HH.out.2.2.2.2.fresh.zone b o hb))).trans H2.out.2 (fun _ _ _ h => h)
                          · as_aux_lemma =>
                            have hi1 : ((i : Int) + 1 == (n : Int)) = false := by simp; omega
                            have HL := Lib.hid (HH.out.2.2.2.2.next (by omega) HDi.out.2.1 HDi.out.2.2.1)
                            clear hfull
                            go_wp2_with fail
                            refine (read_head br s (q + 1) _ _ HH.out.1.2.2 (by omega) (by omega) hbr HE1.out.eof).mono ?_
                            rintro e w2 ⟨more2, c2, rfl, h1, h2⟩
                            have H2 := Lib.hid (And.intro h1 h2)
                            clear h1 h2
                            go_wp2
                            go_roundg (gk - 1)
                            case measure => omega
                            case rel =>
                              exact ⟨more2, c2, q + 1, _, a, zn, zc, di * b + d, i + 1, rfl, rfl, by go_num, rfl, rfl, rfl, rfl, by rw [HDi.out.1], by go_num, rfl, by omega, H2.out.1, HH.out.2.1.trans H2.out.2 (fun _ _ _ h => h), Hne.out, Hst.out, HL.out.chg H2.out.2 (rd_apart' HH.out.1.2.2 HH.out.2.2.2.2.zok)⟩
                        · have HS := Lib.hid (show stepS (base == 0) b ⟨prev, inval, fr, cnt, dp, V⟩ c = none from stepS_stop HD.out HN.out.1 HN.out.2 hdb)
                          go_wp2_with fail
                          refine (UnreadByte_any br s q _ HH.out.1.2.2 (by omega)).mono ?_
                          rintro e w2 ⟨rfl, h1, h2⟩
                          have H2 := Lib.hid (And.intro h1 h2)
                          clear h1 h2
                          go_wp2
                          go_meet
                          have hst := HS.out
                          rw [← Hc.out] at hst
                          have e := HH.out.2.2.1
                          rw [runS_stop hq hst] at e
                          rw [← e]
                          exact ⟨true, a, zn, zc, di, i, rfl, rfl, rfl, rfl, rfl, rfl, rfl, rfl, H2.out.1, HH.out.2.1.trans H2.out.2 (fun _ _ _ h => h), HH.out.2.2.2.1, HH.out.2.2.2.2.chg H2.out.2 (rd_apart' HH.out.1.2.2 HH.out.2.2.2.2.zok)⟩
        case rest => as_aux_lemma =>
          clear HH Hrun Hlast Hst
          obtain ⟨more, a, zn, zc, di, i, rfl, rfl, rfl, rfl, rfl, rfl, rfl, rfl, HL⟩ := hcut
          obtain ⟨last, hlast⟩ : ∃ l, lastS base frac s p = l := ⟨_, rfl⟩
          rw [hlast] at HL ⊢
          have HLast := Lib.hid hlast
          clear hlast
          obtain ⟨q, prev, inval, fr, cnt, dp, V⟩ := last
          simp only at HL ⊢
          rename_i w0 _
          have HEc : Hid (Errs wc (.iface 229 (.pointer (some aE))) e1 e2) := H.out.2.chg HL.out.2.1 (fun _ => zrow_zero)
          have he0 := HEc.out.eof
          have hee := eof_eq aE
          have hne := eof_ne aE
          have hcnt : cnt ≤ s.size := by have := HL.out.2.2.1.hc; have := HL.out.2.2.1.hq; simp only at *; omega
          go_upto_region 80 with fail
          go_cut [209] (fun s209 wx => s209 = .bool (!more) ∧ wc = wx)
          case first => as_aux_lemma =>
            cases more with
            | true => rw [errOf_true]; go_wp2; go_meet; exact ⟨rfl, rfl⟩
            | false => rw [errOf_false]; go_wp2; go_meet; exact ⟨rfl, rfl⟩
          case rest => as_aux_lemma =>
            obtain ⟨rfl, rfl⟩ := hcut
            go_upto_if 209 with fail
            go_cut [11] (fun s11 wx => s11 = .nilIface ∧ wc = wx)
            case first => as_aux_lemma =>
              cases more with
              | true => rw [errOf_true]; go_wp2; go_meet; exact ⟨rfl, rfl⟩
              | false => rw [errOf_false]; go_wp2; go_meet; exact ⟨rfl, rfl⟩
            case rest => as_aux_lemma =>
              obtain ⟨rfl, rfl⟩ := hcut
              clear hee he0 hne
              obtain ⟨sep, hsep⟩ : ∃ B, (inval || prev == 95) = B := ⟨_, rfl⟩
              have Hsep := Lib.hid hsep
              go_upto_region 82 with fail
              go_cut [218] (fun s218 wx => s218 = .bool sep ∧ wc = wx)
              case first => as_aux_lemma =>
                subst hsep
                cases inval with
                | true => go_wp2; go_meet; exact ⟨by simp, rfl⟩
                | false =>
                  by_cases h95 : prev = 95
                  · have hb : (prev == 95) = true := by simp [h95]
                    clear h95
                    go_wp2; go_meet; exact ⟨by simp [hb], rfl⟩
                  · have hb : (prev == 95) = false := by simp [h95]
                    clear h95
                    go_wp2; go_meet; exact ⟨by simp [hb], rfl⟩
              case rest => as_aux_lemma =>
                obtain ⟨rfl, rfl⟩ := hcut
                clear hsep
                obtain ⟨ev, hev⟩ : ∃ v, (if sep = true then e1 else Value.nilIface) = v := ⟨_, rfl⟩
                have Hev := Lib.hid hev
                have he1 := HEc.out.sep
                have he2 := HEc.out.dig
                go_upto_if 218 with fail
                go_cut [11] (fun s11 wx => ev = s11 ∧ wc = wx)
                case first => as_aux_lemma =>
                  subst hev
                  cases sep with
                  | true => go_wp2; go_meet; exact ⟨rfl, rfl⟩
                  | false => go_wp2; go_meet; exact ⟨rfl, rfl⟩
                case rest => as_aux_lemma =>
                  obtain ⟨rfl, rfl⟩ := hcut
                  clear hev he1
                  by_cases hc0 : cnt = 0 ∧ pf = 48
                  · have HSC := Lib.hid (show scanS base frac s p = ⟨0, 10, 1, if sep = true then 1 else 0, q⟩ from scanS_zero HPR.out HLast.out hc0 Hsep.out)
                    obtain ⟨hc0, hpf⟩ := hc0
                    have hb1 : ((cnt : Int) == 0) = true := by simp [hc0]
                    have hb2 : (pf == 48) = true := by simp [hpf]
                    clear hc0 hpf he2
                    go_wp2
                    refine bodyPost_ret (v := .tuple #[.slice a 0 zc, .int .i64 10, .int .i64 1, ev]) (by simp [results, Tryz.results126, go_sem]) rfl ?_
                    refine ⟨a, 0, zc, ?_, ?_, ?_, ?_⟩
                    · rw [HSC.out, ← Hev.out]
                      cases sep <;> rfl
                    · rw [HSC.out]
                      exact ⟨Nat.zero_le _, by omega, HL.out.2.2.2.zok, HL.out.2.2.2.fresh, fun _ => 0, Or.inl rfl, fun i hi => by omega, Or.inl rfl, rfl⟩
                    · rw [HSC.out]; exact HL.out.1
                    · exact HL.out.2.1
                  · have HSC := Lib.hid (show scanS base frac s p = ⟨V, b, if 0 ≤ dp then dp - cnt else cnt, if cnt = 0 then 2 else if sep = true then 1 else 0, q⟩ from scanS_else HPR.out HLast.out hc0 Hsep.out)
                    obtain ⟨ew, hew⟩ : ∃ v, (if cnt = 0 then e2 else ev) = v := ⟨_, rfl⟩
                    have Hew := Lib.hid hew
                    go_upto_if 221 with fail
                    go_cut [9, 10, 11] (fun s9 s10 s11 wx => s9 = .int .i64 b ∧ s10 = .int .i64 (cnt : Int) ∧ ew = s11 ∧ wc = wx)
                    case first => as_aux_lemma =>
                      by_cases hc1 : cnt = 0
                      · rw [if_pos hc1] at hew
                        subst hew
                        have hb1 : ((cnt : Int) == 0) = true := by simp [hc1]
                        have hb2 : (pf == 48) = false := by simp; exact fun h => hc0 ⟨hc1, h⟩
                        clear hc0 hc1
                        go_wp2; go_meet; exact ⟨rfl, rfl, rfl, rfl⟩
                      · rw [if_neg hc1] at hew
                        subst hew
                        have hb1 : ((cnt : Int) == 0) = false := by simp [hc1]
                        clear hc0 hc1
                        go_wp2; go_meet; exact ⟨rfl, rfl, rfl, rfl⟩
                    case rest => as_aux_lemma =>
                      obtain ⟨rfl, rfl, rfl, rfl⟩ := hcut
                      clear hew he2 hc0
                      have hin : i < n := HL.out.2.2.2.hi
                      have hn64 : n ≤ 64 := HB.out.2.2.2.1
                      go_upto_if 229 with fail
                      go_cut [0] (FinRel w br s q V)
                      case first => as_aux_lemma =>
                        have HWs := Lib.hid (show w.heap.size ≤ wc.heap.size from HL.out.2.1.size)
                        by_cases hbn : bn = 0
                        · have hb3 : (bn == 0) = true := by simp [hbn]
                          obtain ⟨⟨V0, N, hG, hN, hV0, hVe⟩, _, hd0, hd1⟩ := HL.out.2.2.2
                          simp only at hN hVe
                          subst hbn
                          have HG := Lib.hid (And.intro hG (And.intro hV0 hVe))
                          clear hG hVe hV0
                          have Hrng := Lib.hid (And.intro hd0 hd1)
                          clear hd0 hd1
                          have hbb : Hid (b ^ n = BB ∧ ∃ qq, b = 2 ^ qq ∧ ((n = 64 ∧ qq = 1) ∨ (n = 16 ∧ qq = 4))) := by
                            obtain ⟨_, _, _, _, ⟨_, e, h | h⟩ | ⟨e, _⟩⟩ := HB.out
                            · exact ⟨e, 1, by rw [h.1]; rfl, Or.inl ⟨h.2, rfl⟩⟩
                            · exact ⟨e, 4, by rw [h.1]; rfl, Or.inr ⟨h.2, rfl⟩⟩
                            · exact absurd rfl e
                          have hNs : N < 1048577 := by omega
                          by_cases hi0 : i = 0
                          · subst hi0
                            have hV0 : Hid (V0 = V) := by
                              have h1 := Hrng.out
                              have h2 := HG.out.2.2
                              rw [Int.pow_zero] at h1 h2
                              unfold Hid; omega
                            go_wp2_with fail
                            refine (rev_call HG.out.1 hNs).mono ?_
                            rintro e w5 ⟨⟨v5, rfl⟩, k1, k2⟩
                            have HK := Lib.hid (And.intro k1 k2)
                            clear k1 k2
                            go_wp2_with fail
                            refine (norm_call HK.out.1).mono ?_
                            rintro e w6 ⟨i6, rfl, k3, rfl⟩
                            have HK3 := Lib.hid k3
                            clear k3
                            go_wp2
                            go_meet
                            refine ⟨a, i6, zc, rfl, ?_, HL.out.1.chgZ HL.out.2.2.2.zok HK.out.2, HL.out.2.1.trans HK.out.2 (fun b o hb hz => absurd hz (HL.out.2.2.2.fresh.zone b o hb))⟩
                            rw [← hV0.out]; exact HK3.out
                          · have hi1 : (0 : Int) < (i : Int) := by omega
                            have hi2 : 0 < i := by omega
                            clear hi0
                            have Hwd := Lib.hid (bn0_word HB.out.1 hbb.out.1 hin Hrng.out.1 Hrng.out.2)
                            have hpw := Lib.hid (base_pow (i := n - i) HB.out (by omega)).1
                            obtain ⟨X, x1, x2, x3, x4, HKx⟩ := grp_app HG.out.1 Hwd.out.2 Hwd.out.1 HWs.out hNs (.cells #[.int .u64 (IntKind.u64.wrap (di * b ^ (n - i)))] 153)
                            have HKx := Lib.hid HKx
                            have HX := Lib.hid (And.intro x1 (And.intro x2 (cell?_alloc_new wc #[.int .u64 (IntKind.u64.wrap (di * b ^ (n - i)))] 153 0 _ rfl)))
                            clear x1 x2
                            go_wp2_with fail
                            refine calls_second (y := ((n - i : Nat) : Int)) (by omega) ((pow_any b (n - i) _ ⟨by omega, by omega⟩ (by omega) hpw.out).mono ?_)
                            rintro e w5 ⟨rfl, rfl⟩
                            go_wp2_with (refine wpList_append_word rfl (.tmp 232) (.tmp 240) rfl a zn zc X _ _ rfl rfl HX.out.1 HX.out.2.1 x3 x4 HX.out.2.2 ?_; rintro a' c' w' hk2; have HK2 := Lib.hid (HKx.out a' c' w' hk2); clear hk2)
                            refine (rev_call HK2.out.1 (by omega)).mono ?_
                            rintro e w6 ⟨⟨v5, rfl⟩, k1, k2⟩
                            have HK := Lib.hid (And.intro k1 k2)
                            clear k1 k2
                            go_wp2_with fail
                            refine (norm_call HK.out.1).mono ?_
                            rintro e w7 ⟨i6, rfl, k3, rfl⟩
                            have HK3 := Lib.hid k3
                            clear k3
                            have hsz : Hid (w.heap.size ≤ w6.heap.size) := by
                              have h1 := HWs.out
                              have h2 := HK2.out.2.size
                              have h3 := HK.out.2.size
                              unfold Hid; omega
                            obtain ⟨qq, hb2, hnq⟩ := hbb.out.2
                            have hbv := bn0_val hbb.out.1 hb2 hin HG.out.2.2
                            have HCr := Lib.hid (rsh_call (N := cnt) (s := (n - i) * qq) HK3.out hsz.out (by rcases hnq with ⟨h1, h2⟩ | ⟨h1, h2⟩ <;> (rw [h2]; omega)) (by rcases hnq with ⟨h1, h2⟩ | ⟨h1, h2⟩ <;> (rw [h2]; omega)) hbv (Int.lt_of_lt_of_le HL.out.2.2.1.hV (pow_le_BB HB.out.1 HB.out.2.1 _)) (by omega))
                            have hzk := Lib.hid HK3.out.2.2.1
                            have hfr6 := Lib.hid HK3.out.2.2.2.1
                            have hfr5 := Lib.hid HK2.out.1.2.2.2.1
                            have hz5 := Lib.hid HK2.out.1.2.2.1
                            have Hrd6 : Hid (RdAt w6 br s q ∧ Chg (zRow br 1 2) w w6) := by
                              refine ⟨(HL.out.1.chgZ HL.out.2.2.2.zok HK2.out.2).chgZ hz5.out HK.out.2, ?_⟩
                              exact (HL.out.2.1.trans HK2.out.2 (fun b o hb hz => absurd hz (HL.out.2.2.2.fresh.zone b o hb))).trans HK.out.2 (fun b o hb hz => absurd hz (hfr5.out.zone b o hb))
                            clear hb2 hbv
                            rcases hnq with ⟨h1, h2⟩ | ⟨h1, h2⟩
                            · subst h1
                              subst h2
                              go_wp2_with fail
                              refine calls_third (y := (((64 - i) * 1 : Nat) : Int)) (by first | omega | (simp only [wrap_u64]; omega) | (simp [wrap_u64]; omega)) (HCr.out.mono ?_)
                              rintro e w8 ⟨a8, n8, c8, rfl, k1, k2⟩
                              have HK8 := Lib.hid (And.intro k1 k2)
                              clear k1 k2
                              go_wp2
                              go_meet
                              exact ⟨a8, n8, c8, rfl, HK8.out.1, Hrd6.out.1.chgZ hzk.out HK8.out.2, Hrd6.out.2.trans HK8.out.2 (fun b o hb hz => absurd hz (hfr6.out.zone b o hb))⟩
                            · subst h1
                              subst h2
                              go_wp2_with fail
                              refine calls_third (y := (((16 - i) * 4 : Nat) : Int)) (by first | omega | (simp only [wrap_u64]; omega) | (simp [wrap_u64]; omega)) (HCr.out.mono ?_)
                              rintro e w8 ⟨a8, n8, c8, rfl, k1, k2⟩
                              have HK8 := Lib.hid (And.intro k1 k2)
                              clear k1 k2
                              go_wp2
                              go_meet
                              exact ⟨a8, n8, c8, rfl, HK8.out.1, Hrd6.out.1.chgZ hzk.out HK8.out.2, Hrd6.out.2.trans HK8.out.2 (fun b o hb hz => absurd hz (hfr6.out.zone b o hb))⟩
                        · have hb3 : (bn == 0) = false := by simp [hbn]
                          by_cases hi0 : i = 0
                          · subst hi0
                            have Hgot := Lib.hid (HL.out.2.2.2.got_mul hbn (by simp only; omega))
                            clear hbn
                            go_wp2
                            go_meet
                            exact ⟨a, zn, zc, rfl, Hgot.out, HL.out.1, HL.out.2.1⟩
                          · have hi1 : (0 : Int) < (i : Int) := by omega
                            have HCm := Lib.hid (HL.out.2.2.2.last_mul HB.out hbn (by simp only; omega) HL.out.2.2.1.hV HWs.out)
                            have hpw := Lib.hid (base_pow HB.out hin).1
                            clear hbn hi0
                            go_wp2_with fail
                            refine (pow_any b i _ ⟨by omega, by omega⟩ (by omega) hpw.out).mono ?_
                            rintro e w5 ⟨rfl, rfl⟩
                            go_wp2_with fail
                            refine HCm.out.mono ?_
                            rintro e w6 ⟨a', n', c', rfl, k1, k2⟩
                            have HK := Lib.hid (And.intro k1 k2)
                            clear k1 k2
                            go_wp2
                            go_meet
                            exact ⟨a', n', c', rfl, HK.out.1, HL.out.1.chgZ HL.out.2.2.2.zok HK.out.2, HL.out.2.1.trans HK.out.2 (fun b o hb hz => absurd hz (HL.out.2.2.2.fresh.zone b o hb))⟩
                      case rest => as_aux_lemma =>
                        obtain ⟨a', n', c', rfl, HF⟩ := hcut
                        have Hfin := Lib.hid (show ∀ (cv : Int) (W : World), cv = (if 0 ≤ dp then dp - (cnt : Int) else (cnt : Int)) → (Got w W a' n' c' V ∧ RdAt W br s q ∧ Chg (zRow br 1 2) w W) → ScanPost w br s (scanS base frac s p) e1 e2 (.returned (.tuple #[.slice a' n' c', .int .i64 b, .int .i64 cv, ew])) W from fun cv W hcv hW => by
                          refine ⟨a', n', c', ?_, ?_, ?_, hW.2.2⟩
                          · rw [HSC.out, hcv, ← Hew.out, ← Hev.out]
                            simp only
                            by_cases hc1 : cnt = 0
                            · rw [if_pos hc1, if_pos hc1]; rfl
                            · rw [if_neg hc1, if_neg hc1]
                              cases sep <;> rfl
                          · rw [HSC.out]; exact hW.1
                          · rw [HSC.out]; exact hW.2.1)
                        have hdp := HL.out.2.2.1.hdp
                        simp only at hdp
                        obtain ⟨hdp1, hdp2⟩ := hdp
                        by_cases hd : 0 ≤ dp
                        · go_wp2
                          refine bodyPost_ret (v := .tuple #[.slice a' n' c', .int .i64 b, .int .i64 (dp - cnt), ew]) (by simp [results, Tryz.results126, go_sem]) rfl ?_
                          exact Hfin.out _ _ (by rw [if_pos hd]) HF.out
                        · go_wp2
                          refine bodyPost_ret (v := .tuple #[.slice a' n' c', .int .i64 b, .int .i64 cnt, ew]) (by simp [results, Tryz.results126, go_sem]) rfl ?_
                          exact Hfin.out _ _ (by rw [if_neg (by omega)]) HF.out
end Go.Proofs.YtmgfajamanakcaaGreatDoor
