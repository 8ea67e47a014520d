/- Part of the proof of FnParse: what the functions that it reaches do, as contracts. Conditions: those that each theorem names. -/
import Derived.Test.YtmgfajamanakcaaGreatDoorR31
import Derived.Deep.DeepCutAuto
import Derived.Deep.CutBlock
import Derived.Outline
namespace Go.Proofs.YtmgfajamanakcaaGreatDoor
set_option linter.unusedVariables false
set_option linter.unusedSimpArgs false
open Go.RowKit
set_option maxRecDepth 100000
structure PErrs (w : World) : Prop where
  syn : ∃ e1, w.cell? ⟨12, 0, none⟩ = some e1 ∧ (e1 = .nilIface ∨ ∃ te pe, e1 = .iface te pe)
  rng : ∃ e1, w.cell? ⟨13, 0, none⟩ = some e1 ∧ (e1 = .nilIface ∨ ∃ te pe, e1 = .iface te pe)
theorem PErrs.chg {Z : Zone} {w w' : World} (h : PErrs w) (k : Chg Z w w') (hz : ∀ b, ¬ Z b 0) : PErrs w' := by
  obtain ⟨⟨a, h1, h2⟩, ⟨b, h3, h4⟩⟩ := h; exact ⟨⟨a, k.cell h1 (hz _), h2⟩, ⟨b, k.cell h3 (hz _), h4⟩⟩
def ExpPost (w : World) (br : Nat) (s : ByteArray) (sc : EScan) (e1 e2 : Value) (e : Ending) (w' : World) : Prop :=
  ∃ (v : Int) (ev : Value), e = .returned (.tuple #[.int .i64 v, .int .i64 sc.b, ev]) ∧ (sc.err ≤ 1 → v = sc.v) ∧ ((sc.err = 0 ∧ ev = .nilIface) ∨ (sc.err = 1 ∧ ev = e1) ∨ (sc.err = 2 ∧ ev = e2) ∨ (sc.err = 3 ∧ ∃ N : Nat, ev = .iface 297 (.pointer (some ⟨N, 0, none⟩)))) ∧ RdAt w' br s sc.p ∧ Chg (zRow br 1 2) w w'
set_option maxHeartbeats 4000000 in
theorem scanExponent_none (br : Nat) (s : ByteArray) (p : Nat) (sep : Bool) (aE : Addr) (e1 e2 : Value) (w : World) (h : RdAt w br s p) (hs : s.size < 1048576) (hp : p ≤ s.size) (hbr : br ≠ 0) (hE : Errs w (.iface 229 (.pointer (some aE))) e1 e2)
    (hno : ¬ p < s.size ∨ expBase (byteAt s p) = none) :
    Calls Tryz.prog 128 #[.iface 169 (.pointer (some ⟨br, 0, none⟩)), .bool true, .bool sep] w (ExpPost w br s (scanE sep s p) e1 e2) := by
  have hsc : Hid (scanE sep s p = ⟨0, 10, 0, p⟩) := by
    unfold Hid scanE
    rcases hno with hn | hn
    · rw [if_neg hn]
    · by_cases hh : p < s.size
      · rw [if_pos hh, hn]
      · rw [if_neg hh]
  have H := Lib.hid (And.intro h hE); clear h hE; have hr := method_read; have hu := method_unread; have hee := eof_eq aE
  go_enter Tryz.func128, Tryz.ntmps128
  go_wp2_with fail; refine (read_head br s p _ _ H.out.1 (by omega) hp hbr H.out.2.eof).mono ?_; rintro e w1 ⟨more, c, rfl, h1, h2⟩; have HE1 := Lib.hid (H.out.2.chg h2 (fun _ => zrow_zero)); have H1 := Lib.hid (And.intro h1 h2); clear h1 h2
  cases more with
  | false =>
    rw [errOf_false]; have he0 := HE1.out.eof; go_wp2
    go_ret3
    rw [hsc.out]; exact ⟨0, .nilIface, rfl, fun _ => rfl, Or.inl ⟨rfl, rfl⟩, H1.out.1.2.2, H1.out.2⟩
  | true =>
    rw [errOf_true]; have hq : p < s.size := H1.out.1.2.1.1 rfl; have hc : byteAt s p = c := by have := H1.out.1.1; simpa using this.symm
    have hb : expBase c = none := by
      rcases hno with hn | hn
      · exact absurd hq hn
      · rw [← hc]; exact hn
    have k1 : (c == 101) = false ∧ (c == 69) = false ∧ (c == 112) = false ∧ (c == 80) = false := by
      unfold expBase at hb
      split at hb
      · cases hb
      · split at hb
        · cases hb
        · rename_i h1 h2; simp; omega
    obtain ⟨k1, k2, k3, k4⟩ := k1; clear hno hb hc; go_wp2_with fail; refine (UnreadByte_any br s p _ H1.out.1.2.2 (by omega)).mono ?_; rintro e w2 ⟨rfl, h1, h2⟩; have H2 := Lib.hid (And.intro h1 (H1.out.2.trans h2 (fun _ _ _ h => h))); clear h1 h2; go_wp2
    go_ret3
    rw [hsc.out]; exact ⟨0, .nilIface, rfl, fun _ => rfl, Or.inl ⟨rfl, rfl⟩, H2.out.1, H2.out.2⟩
def XSgn (w : World) (br : Nat) (s : ByteArray) (eof : Value) (q0 : Nat) (ds : List UInt8) (s8 s9 s10 : Value) (wc : World) : Prop :=
  ∃ more c a n cc, s8 = errOf more eof ∧ s9 = .int .u8 c ∧ s10 = .slice a n cc ∧ Hid (Head wc br s q0 more c ∧ Chg (zRow br 1 2) w wc ∧ Dg w wc a n cc ds ∧ q0 ≤ s.size)
def XLoop (w : World) (br : Nat) (s : ByteArray) (eof : Value) (sep : Bool) (last : Nat × ES) (k : Nat) (s8 s9 s10 s11 s12 s13 : Value) (wc : World) : Prop :=
  ∃ more c q st a n cc, s8 = errOf more eof ∧ s9 = .int .u8 c ∧ s10 = .slice a n cc ∧ s11 = .int .i32 st.prev ∧ s12 = .bool st.inval ∧ s13 = .bool st.has ∧ s.size - q ≤ k ∧ n ≤ q ∧ q ≤ s.size ∧
    Hid (Head wc br s q more c ∧ Chg (zRow br 1 2) w wc ∧ Dg w wc a n cc st.ds ∧ runX sep s q st = last ∧ (st.has = true → st.ds ≠ []))
def XEnd (w : World) (br : Nat) (s : ByteArray) (eof : Value) (last : Nat × ES) (s8 s10 s11 s12 s13 : Value) (wc : World) : Prop :=
  ∃ more a n cc, s8 = errOf more eof ∧ s10 = .slice a n cc ∧ s11 = .int .i32 last.2.prev ∧ s12 = .bool last.2.inval ∧ s13 = .bool last.2.has ∧ n ≤ s.size ∧ Hid (RdAt wc br s last.1 ∧ Chg (zRow br 1 2) w wc ∧ Dg w wc a n cc last.2.ds ∧ (last.2.has = true → last.2.ds ≠ []))
theorem dg_nil (w0 w : World) : Dg w0 w none 0 0 [] := ⟨rfl, Nat.le_refl _, Or.inl ⟨rfl, rfl⟩, Or.inl rfl, Or.inl rfl⟩
theorem expSign_len (s : ByteArray) (p : Nat) : (expSign s (p + 1)).2.length ≤ (expSign s (p + 1)).1 := by
  unfold expSign
  split
  · simp
  · split <;> simp
set_option maxHeartbeats 8000000 in
theorem scanExponent_some (br : Nat) (s : ByteArray) (p : Nat) (sep : Bool) (aE : Addr) (e1 e2 : Value) (w : World) (h : RdAt w br s p) (hs : s.size < 1048576) (hp : p < s.size) (hbr : br ≠ 0) (a2 : Addr) (h2 : e2 = .iface 229 (.pointer (some a2))) (hE : Errs w (.iface 229 (.pointer (some aE))) e1 e2) (hPE : PErrs w)
    (b : Int) (hb : expBase (byteAt s p) = some b) :
    Calls Tryz.prog 128 #[.iface 169 (.pointer (some ⟨br, 0, none⟩)), .bool true, .bool sep] w (ExpPost w br s (scanE sep s p) e1 e2) := by
  obtain ⟨q0, ds0, hq0⟩ : ∃ q ds, expSign s (p + 1) = (q, ds) := ⟨_, _, rfl⟩; obtain ⟨last, hlast⟩ : ∃ l, runX sep s q0 ⟨46, false, false, ds0⟩ = l := ⟨_, rfl⟩
  have hsc : Hid (scanE sep s p = endE b last.1 last.2) := by
    unfold Hid scanE; rw [if_pos hp, hb]; simp only; rw [hq0]; simp only; rw [hlast]
  have H := Lib.hid (And.intro h (And.intro hE hPE)); have Hq0 := Lib.hid hq0; have Hlast := Lib.hid hlast; have Hb := Lib.hid hb; clear h hE hPE hq0 hlast hb; have hr := method_read; have hu := method_unread
  go_enter Tryz.func128, Tryz.ntmps128
  go_wp2_with fail; refine (read_head br s p _ _ H.out.1 (by omega) (by omega) hbr H.out.2.1.eof).mono ?_; rintro e w1 ⟨more, c, rfl, h1, h2⟩; obtain rfl : more = true := h1.2.1.2 hp; have hc : byteAt s p = c := by have := h1.1; simpa using this.symm
  have HE1 := Lib.hid (H.out.2.1.chg h2 (fun _ => zrow_zero)); have H1 := Lib.hid (And.intro h1 h2); clear h1 h2; rw [errOf_true]; have Hbc := Lib.hid (show expBase c = some b by rw [← hc]; exact Hb.out); clear hc
  go_upto_block 0 with fail
  go_cut [6, 7] (fun s6 s7 wc => s6 = .int .i64 0 ∧ s7 = .int .i64 b ∧ w1 = wc)
  case first => as_aux_lemma =>
    have hh := Hbc.out; unfold expBase at hh
    by_cases k1 : c = 101
    · have j1 : (c == 101) = true := by simp [k1]
      rw [if_pos (Or.inl k1)] at hh; injection hh with hh; have HH := Lib.hid hh; clear k1 hh; go_wp2; go_meet; exact ⟨rfl, by rw [HH.out], rfl⟩
    · have j1 : (c == 101) = false := by simp [k1]
      by_cases k2 : c = 69
      · have j2 : (c == 69) = true := by simp [k2]
        rw [if_pos (Or.inr k2)] at hh; injection hh with hh; have HH := Lib.hid hh; clear k1 k2 hh; go_wp2; go_meet; exact ⟨rfl, by rw [HH.out], rfl⟩
      · have j2 : (c == 69) = false := by simp [k2]
        rw [if_neg (by omega)] at hh
        by_cases k3 : c = 112
        · have j3 : (c == 112) = true := by simp [k3]
          rw [if_pos (Or.inl k3)] at hh; injection hh with hh; have HH := Lib.hid hh; clear k1 k2 k3 hh; go_wp2; go_meet; exact ⟨rfl, by rw [HH.out], rfl⟩
        · have j3 : (c == 112) = false := by simp [k3]
          by_cases k4 : c = 80
          · have j4 : (c == 80) = true := by simp [k4]
            rw [if_pos (Or.inr k4)] at hh; injection hh with hh; have HH := Lib.hid hh; clear k1 k2 k3 k4 hh; go_wp2; go_meet; exact ⟨rfl, by rw [HH.out], rfl⟩
          · rw [if_neg (by omega)] at hh
            cases hh
  case rest => as_aux_lemma =>
    obtain ⟨rfl, rfl, rfl⟩ := hcut; go_wp2_with fail; refine (read_head br s (p + 1) _ _ H1.out.1.2.2 (by omega) (by omega) hbr HE1.out.eof).mono ?_; rintro e w2 ⟨more2, c2, rfl, h1, h2⟩; have HE2 := Lib.hid (HE1.out.chg h2 (fun _ => zrow_zero)); have H2 := Lib.hid (And.intro h1 (H1.out.2.trans h2 (fun _ _ _ h => h))); clear h1 h2; obtain ⟨B, hB⟩ : ∃ B, (more2 && (c2 == 43 || c2 == 45)) = B := ⟨_, rfl⟩; have HB := Lib.hid hB; go_upto_region 18 with fail; go_cut [49] (fun s49 wc => s49 = .bool B ∧ w2 = wc)
    case first => as_aux_lemma =>
      subst hB
      cases more2 with
      | false => rw [errOf_false]; go_wp2; go_meet; exact ⟨rfl, rfl⟩
      | true =>
        rw [errOf_true]
        by_cases k1 : c2 = 43
        · have j1 : (c2 == 43) = true := by simp [k1]
          clear k1; go_wp2; go_meet; exact ⟨by simp [j1], rfl⟩
        · have j1 : (c2 == 43) = false := by simp [k1]
          by_cases k2 : c2 = 45
          · have j2 : (c2 == 45) = true := by simp [k2]
            clear k1 k2; go_wp2; go_meet; exact ⟨by simp [j1, j2], rfl⟩
          · have j2 : (c2 == 45) = false := by simp [k2]
            clear k1 k2; go_wp2; go_meet; exact ⟨by simp [j1, j2], rfl⟩
    case rest => as_aux_lemma =>
      obtain ⟨rfl, rfl⟩ := hcut; clear hB; go_upto_if 49 with fail; go_cut [8, 9, 10] (XSgn w br s (.iface 229 (.pointer (some aE))) q0 ds0)
      case first => as_aux_lemma =>
        cases B with
        | false =>
          go_wp2; go_meet; have e := Hq0.out; unfold expSign at e; have hm := H2.out.1.2.1; have hc := H2.out.1.1; have hb := HB.out
          have g1 : ¬ (p + 1 < s.size ∧ byteAt s (p + 1) = 45) := by
            rintro ⟨ha, hh⟩; have ht := hm.2 ha; subst ht; rw [if_pos rfl, hh] at hc; subst hc
            simp at hb
          have g2 : ¬ (p + 1 < s.size ∧ byteAt s (p + 1) = 43) := by
            rintro ⟨ha, hh⟩; have ht := hm.2 ha; subst ht; rw [if_pos rfl, hh] at hc; subst hc
            simp at hb
          rw [if_neg g1, if_neg g2] at e; injection e with e1 e2; subst e1; subst e2; exact ⟨more2, c2, none, 0, 0, rfl, rfl, rfl, H2.out.1, H2.out.2, dg_nil _ _, by omega⟩
        | true =>
          have hb := HB.out
          cases more2 with
          | false => simp at hb
          | true =>
            rw [errOf_true]; have hp2 : p + 1 < s.size := H2.out.1.2.1.1 rfl; have Hc2 : Hid (byteAt s (p + 1) = c2) := by have := H2.out.1.1; unfold Hid; simpa using this.symm
            by_cases k2 : c2 = 45
            · have HQ : Hid (q0 = p + 2 ∧ ds0 = [45]) := by
                have e := Hq0.out; unfold expSign at e; rw [if_pos ⟨hp2, Hc2.out.trans k2⟩] at e; injection e with e1 e2; exact ⟨e1.symm, e2.symm⟩
              have j2 : (c2 == 45) = true := by simp [k2]
              clear k2 hb; obtain ⟨x1, x2, x3, x4, HK⟩ := (dg_nil w w2).app 45 H2.out.2.size (by omega) (.cells #[.int .u8 45] 5); rw [show (((45 : UInt8).toNat : Nat) : Int) = 45 from rfl] at HK; have HK := Lib.hid HK; have HX := Lib.hid (And.intro x1 (And.intro x2 (cell?_alloc_new w2 #[.int .u8 45] 5 0 _ rfl))); clear x1 x2; go_wp2_with (with_reducible refine wpList_append_byte rfl (.tmp 52) (.tmp 53) rfl none 0 0 _ 45 _ rfl rfl HX.out.1 HX.out.2.1 x3 x4 HX.out.2.2 ?_; rintro a' c' w' hk2; have HK2 := Lib.hid (HK.out a' c' w' hk2); clear hk2); have KC := Lib.hid (H2.out.2.trans HK2.out.2 (fun b o hb hz => absurd hz ((dg_nil w w2).2.2.2.1.zone b o hb))); have HE3 := Lib.hid (H.out.2.1.chg KC.out (fun _ => zrow_zero)); refine (read_head br s (p + 2) _ _ (H2.out.1.2.2.chgB (dg_nil w w2).2.2.1 HK2.out.2) (by omega) (by omega) hbr HE3.out.eof).mono ?_; rintro e w3 ⟨more3, c3, rfl, h1, h2⟩; have H3 := Lib.hid (And.intro h1 h2); clear h1 h2; go_wp2; go_meet; refine ⟨more3, c3, a', 1, c', rfl, rfl, rfl, ?_⟩; obtain ⟨g1, g2⟩ := HQ.out; subst g1; subst g2; exact ⟨H3.out.1, KC.out.trans H3.out.2 (fun _ _ _ h => h), HK2.out.1.chg H3.out.2 (brd_apart' (H2.out.1.2.2.chgB (dg_nil w w2).2.2.1 HK2.out.2) HK2.out.1.2.2.1), by omega⟩
            · have k1 : c2 = 43 := by
                simp at hb; omega
              have HQ : Hid (q0 = p + 2 ∧ ds0 = []) := by
                have e := Hq0.out; unfold expSign at e; rw [if_neg (fun hh => k2 (Hc2.out.symm.trans hh.2)), if_pos ⟨hp2, Hc2.out.trans k1⟩] at e; injection e with e1 e2; exact ⟨e1.symm, e2.symm⟩
              have j2 : (c2 == 45) = false := by simp [k2]
              clear k1 k2 hb; go_wp2_with fail; refine (read_head br s (p + 2) _ _ H2.out.1.2.2 (by omega) (by omega) hbr HE2.out.eof).mono ?_; rintro e w3 ⟨more3, c3, rfl, h1, h2⟩; have H3 := Lib.hid (And.intro h1 (H2.out.2.trans h2 (fun _ _ _ h => h))); clear h1 h2; go_wp2; go_meet; refine ⟨more3, c3, none, 0, 0, rfl, rfl, rfl, ?_⟩; obtain ⟨g1, g2⟩ := HQ.out; subst g1; subst g2; exact ⟨H3.out.1, H3.out.2, dg_nil _ _, by omega⟩
      case rest => as_aux_lemma =>
        obtain ⟨more3, c3, a3, n3, cc3, rfl, rfl, rfl, H3⟩ := hcut; clear H2 HE2 HB H1 HE1
        have hn3 : n3 ≤ q0 := by
          have h1 := H3.out.2.2.1.1; have h2 := expSign_len s p; rw [Hq0.out] at h2; simp only at h2; omega
        have hqs : q0 ≤ s.size := H3.out.2.2.2
        go_upto_block 4 with fail
        go_cut [8, 10, 11, 12, 13] (XEnd w br s (.iface 229 (.pointer (some aE))) last)
        case first => as_aux_lemma =>
          go_wp2_with fail
          go_loopg [8, 9, 10, 11, 12, 13] (s.size - q0) (XLoop w br s (.iface 229 (.pointer (some aE))) sep last)
          case atStart =>
            exact ⟨more3, c3, q0, ⟨46, false, false, ds0⟩, a3, n3, cc3, rfl, rfl, rfl, rfl, rfl, rfl, Nat.le_refl _, hn3, hqs, H3.out.1, H3.out.2.1, H3.out.2.2.1, Hlast.out, fun h => by cases h⟩
          case round =>
            clear H3 Hlast Hq0 hn3 hqs; obtain ⟨more, c, q, st, a, n, cc, rfl, rfl, rfl, rfl, rfl, rfl, hk, hn, hqs, HH⟩ := hrel
            cases more with
            | false => as_aux_lemma =>
              rw [errOf_false]; go_wp2; go_meet
              have e : last = (q, st) := by
                rw [← HH.out.2.2.2.1]; have hq : ¬ q < s.size := fun hh => by have := HH.out.1.2.1.2 hh; cases this
                exact runX_end (by omega)
              rw [e]; exact ⟨false, a, n, cc, rfl, rfl, rfl, rfl, rfl, by omega, HH.out.1.2.2, HH.out.2.1, HH.out.2.2.1, HH.out.2.2.2.2⟩
            | true =>
              rw [errOf_true]; have hq : q < s.size := HH.out.1.2.1.1 rfl; have Hc : Hid (byteAt s q = c) := by have := HH.out.1.1; unfold Hid; simpa using this.symm
              have HE1 := Lib.hid (H.out.2.1.chg HH.out.2.1 (fun _ => zrow_zero)); obtain ⟨prev, inval, has, ds⟩ := st; simp only at HH ⊢; have hcb := byteAt_range s q; rw [Hc.out] at hcb; obtain ⟨hc0, hc1⟩ := hcb
              by_cases hD : 48 ≤ c ∧ c ≤ 57
              · as_aux_lemma =>
                obtain ⟨hD1, hD2⟩ := hD
                have HS : Hid (stepE sep ⟨prev, inval, has, ds⟩ (bAt s q) = some ⟨48, inval, true, ds ++ [bAt s q]⟩) := by
                  unfold Hid stepE; rw [bAt_int, Hc.out, if_pos ⟨hD1, hD2⟩]
                obtain ⟨x1, x2, x3, x4, HK⟩ := HH.out.2.2.1.app (bAt s q) HH.out.2.1.size (by omega) (.cells #[.int .u8 c] 5); rw [bAt_int, Hc.out] at HK; have HK := Lib.hid HK; have HX := Lib.hid (And.intro x1 (And.intro x2 (cell?_alloc_new wr #[.int .u8 c] 5 0 _ rfl))); clear x1 x2; go_wp2_with (with_reducible refine wpList_append_byte rfl (.tmp 68) (.tmp 70) rfl a n cc _ c _ rfl rfl HX.out.1 HX.out.2.1 x3 x4 HX.out.2.2 ?_; rintro a' c' w' hk2; have HK2 := Lib.hid (HK.out a' c' w' hk2); clear hk2); have KC := Lib.hid (HH.out.2.1.trans HK2.out.2 (fun b o hb hz => absurd hz (HH.out.2.2.1.2.2.2.1.zone b o hb))); have HE3 := Lib.hid (H.out.2.1.chg KC.out (fun _ => zrow_zero)); refine (read_head br s (q + 1) _ _ (HH.out.1.2.2.chgB HH.out.2.2.1.2.2.1 HK2.out.2) (by omega) (by omega) hbr HE3.out.eof).mono ?_; rintro e w3 ⟨more4, c4, rfl, h1, h2⟩; have H4 := Lib.hid (And.intro h1 h2); clear h1 h2; go_wp2; go_roundg (gk - 1)
                case measure => omega
                case rel =>
                  refine ⟨more4, c4, q + 1, ⟨48, inval, true, ds ++ [bAt s q]⟩, a', n + 1, c', rfl, rfl, rfl, rfl, rfl, rfl, by omega, by omega, by omega, H4.out.1, KC.out.trans H4.out.2 (fun _ _ _ h => h), HK2.out.1.chg H4.out.2 (brd_apart' (HH.out.1.2.2.chgB HH.out.2.2.1.2.2.1 HK2.out.2) HK2.out.1.2.2.1), ?_, fun _ => by simp⟩; exact (runX_step hq HS.out).symm.trans HH.out.2.2.2.1
              · by_cases hU : c = 95 ∧ sep = true
                · obtain ⟨hU1, hU2⟩ := hU
                  have HS : Hid (stepE sep ⟨prev, inval, has, ds⟩ (bAt s q) = some ⟨95, inval || prev != 48, has, ds⟩) := by
                    unfold Hid stepE; rw [bAt_int, Hc.out, if_neg hD, if_pos ⟨hU1, hU2⟩]
                  have j1 : (c == 95) = true := by simp [hU1]
                  have j2 : 57 < c := by omega
                  have j3 : 48 ≤ c := by omega
                  subst hU2; clear hU1 hD
                  by_cases hp : prev = 48
                  · as_aux_lemma =>
                    have j4 : (prev == 48) = true := by simp [hp]
                    have j5 : (prev != 48) = false := by simp [hp]
                    rw [j5] at HS; clear hp; go_wp2_with fail; refine (read_head br s (q + 1) _ _ HH.out.1.2.2 (by omega) (by omega) hbr HE1.out.eof).mono ?_; rintro e w3 ⟨more4, c4, rfl, h1, h2⟩; have H4 := Lib.hid (And.intro h1 h2); clear h1 h2; go_wp2; go_roundg (gk - 1)
                    case measure => omega
                    case rel =>
                      refine ⟨more4, c4, q + 1, ⟨95, inval || false, has, ds⟩, a, n, cc, rfl, rfl, rfl, rfl, by simp, rfl, by omega, by omega, by omega, H4.out.1, HH.out.2.1.trans H4.out.2 (fun _ _ _ h => h), HH.out.2.2.1.chg H4.out.2 (brd_apart' HH.out.1.2.2 HH.out.2.2.1.2.2.1), ?_, HH.out.2.2.2.2⟩; exact (runX_step hq HS.out).symm.trans HH.out.2.2.2.1
                  · as_aux_lemma =>
                    have j4 : (prev == 48) = false := by simp [hp]
                    have j5 : (prev != 48) = true := by simp [hp]
                    rw [j5] at HS; clear hp; go_wp2_with fail; refine (read_head br s (q + 1) _ _ HH.out.1.2.2 (by omega) (by omega) hbr HE1.out.eof).mono ?_; rintro e w3 ⟨more4, c4, rfl, h1, h2⟩; have H4 := Lib.hid (And.intro h1 h2); clear h1 h2; go_wp2; go_roundg (gk - 1)
                    case measure => omega
                    case rel =>
                      refine ⟨more4, c4, q + 1, ⟨95, inval || true, has, ds⟩, a, n, cc, rfl, rfl, rfl, rfl, by simp, rfl, by omega, by omega, by omega, H4.out.1, HH.out.2.1.trans H4.out.2 (fun _ _ _ h => h), HH.out.2.2.1.chg H4.out.2 (brd_apart' HH.out.1.2.2 HH.out.2.2.1.2.2.1), ?_, HH.out.2.2.2.2⟩; exact (runX_step hq HS.out).symm.trans HH.out.2.2.2.1
                · as_aux_lemma =>
                  have HS : Hid (stepE sep ⟨prev, inval, has, ds⟩ (bAt s q) = none) := by
                    unfold Hid stepE; rw [bAt_int, Hc.out, if_neg hD, if_neg hU]
                  have HEnd : Hid (last = (q, ⟨prev, inval, has, ds⟩)) := by
                    unfold Hid; rw [← HH.out.2.2.2.1]; exact runX_stop hq HS.out
                  obtain ⟨D, hDD⟩ : ∃ D, (decide (48 ≤ c) && decide (c ≤ 57)) = D := ⟨_, rfl⟩
                  have hDf : D = false := by
                    rw [← hDD]; simp; omega
                  have hM : ∀ w' : World, RdAt w' br s q → Chg (zRow br 1 2) wr w' → XEnd w br s (.iface 229 (.pointer (some aE))) last .nilIface (.slice a n cc) (.int .i32 prev) (.bool inval) (.bool has) w' := fun w' h1 h2 => by
                    rw [HEnd.out]; exact ⟨true, a, n, cc, rfl, rfl, rfl, rfl, rfl, by omega, h1, HH.out.2.1.trans h2 (fun _ _ _ h => h), HH.out.2.2.1.chg h2 (brd_apart' HH.out.1.2.2 HH.out.2.2.1.2.2.1), HH.out.2.2.2.2⟩
                  have HM := Lib.hid hM; clear hM HEnd HS hDD hDf; have hpp : q < 4611686018427387904 := by omega
                  by_cases g1 : c < 48
                  · have j1 : (c == 95) = false := by simp; omega
                    clear hD hU; go_wp2_with fail; refine (UnreadByte_any br s q _ HH.out.1.2.2 hpp).mono ?_; rintro e w3 ⟨rfl, h1, h2⟩; have HF := Lib.hid (HM.out w3 h1 h2); clear h1 h2; go_wp2; go_meet; exact HF.out
                  · have g2 : 57 < c := by omega
                    have g3 : 48 ≤ c := by omega
                    by_cases g4 : c = 95
                    · have hs0 : sep = false := by
                        cases sep with
                        | false => rfl
                        | true => exact absurd ⟨g4, rfl⟩ hU
                      subst hs0; have j1 : (c == 95) = true := by simp [g4]
                      clear hD hU g1 g4; go_wp2_with fail; refine (UnreadByte_any br s q _ HH.out.1.2.2 hpp).mono ?_; rintro e w3 ⟨rfl, h1, h2⟩; have HF := Lib.hid (HM.out w3 h1 h2); clear h1 h2; go_wp2; go_meet; exact HF.out
                    · have j1 : (c == 95) = false := by simp [g4]
                      clear hD hU g1 g4; go_wp2_with fail; refine (UnreadByte_any br s q _ HH.out.1.2.2 hpp).mono ?_; rintro e w3 ⟨rfl, h1, h2⟩; have HF := Lib.hid (HM.out w3 h1 h2); clear h1 h2; go_wp2; go_meet; exact HF.out
        case rest => as_aux_lemma =>
          clear H3; obtain ⟨more, a, n, cc, rfl, rfl, rfl, rfl, rfl, hn, HL⟩ := hcut; have HEc : Hid (Errs wc (.iface 229 (.pointer (some aE))) e1 e2) := H.out.2.1.chg HL.out.2.1 (fun _ => zrow_zero); have HPc : Hid (PErrs wc) := H.out.2.2.chg HL.out.2.1 (fun _ => zrow_zero); have he0 := HEc.out.eof; have hee := eof_eq aE; have hne := eof_ne aE; obtain ⟨q, prev, inval, has, ds⟩ := last; simp only at HL ⊢; go_upto_region 36 with fail; go_cut [88] (fun s88 wx => s88 = .bool (!more) ∧ wc = wx)
          case first => as_aux_lemma =>
            cases more with
            | true => rw [errOf_true]; go_wp2; go_meet; exact ⟨rfl, rfl⟩
            | false => rw [errOf_false]; go_wp2; go_meet; exact ⟨rfl, rfl⟩
          case rest => as_aux_lemma =>
           obtain ⟨rfl, rfl⟩ := hcut; go_upto_if 88 with fail; go_cut [8] (fun s8 wx => s8 = .nilIface ∧ wc = wx)
           case first => as_aux_lemma =>
            cases more with
            | true => rw [errOf_true]; go_wp2; go_meet; exact ⟨rfl, rfl⟩
            | false => rw [errOf_false]; go_wp2; go_meet; exact ⟨rfl, rfl⟩
           case rest => as_aux_lemma =>
            obtain ⟨rfl, rfl⟩ := hcut; clear hee he0 hne
            cases has with
            | false => as_aux_lemma =>
              subst h2; have he2 := HEc.out.dig; have HSC : Hid (scanE sep s p = ⟨0, b, 2, q⟩) := hsc.out; clear hsc; go_wp2
              go_ret3
              rw [HSC.out]; exact ⟨0, _, rfl, fun hh => by simp at hh, Or.inr (Or.inr (Or.inl ⟨rfl, rfl⟩)), HL.out.1, HL.out.2.1⟩
            | true => as_aux_lemma =>
              have hcv := HL.out.2.2.1.text (HL.out.2.2.2 rfl); obtain ⟨⟨y1, y2, y3⟩, ⟨z1, z2, z3⟩⟩ := HPc.out; have HC := Lib.hid (ParseInt_any ⟨ds.toArray⟩ wc (by have := HL.out.2.2.1.1; have h3 : (⟨ds.toArray⟩ : ByteArray).size = ds.length := rfl; omega) y1 z1 y2 z2 y3 z3); clear y2 y3 z2 z3; have HS := Lib.hid (show scanE sep s p = endE b q ⟨prev, inval, true, ds⟩ from hsc.out); clear hsc; go_wp2_with fail; refine HC.out.mono ?_; rintro e w4 ⟨v, ev, rfl, h1, h3⟩; have HR := Lib.hid (HL.out.1.chg h1 (fun _ _ h => h)); have HK := Lib.hid (HL.out.2.1.trans h1 (fun _ _ _ h => h.elim)); have HE4 := Lib.hid (HEc.out.chg h1 (fun _ h => h)); clear h1
              rcases h3 with ⟨rfl, h3⟩ | ⟨⟨N, rfl⟩, h3⟩
              · have HSC : Hid (scanE sep s p = ⟨v, b, if inval || prev == 95 then 1 else 0, q⟩) := by
                  unfold Hid; rw [HS.out]; unfold endE; rw [if_neg (by simp)]; rw [show Lib.parseIntB 64 (⟨prev, inval, true, ds⟩ : ES).ds = .ok v from h3]
                clear h3; obtain ⟨B, hB⟩ : ∃ B, (inval || prev == 95) = B := ⟨_, rfl⟩; rw [hB] at HSC; go_upto_region 42 with fail; go_cut [112] (fun s112 wx => s112 = .bool B ∧ w4 = wx)
                case first => as_aux_lemma =>
                  subst hB
                  cases inval with
                  | true => go_wp2; go_meet; exact ⟨by simp, rfl⟩
                  | false =>
                    by_cases h95 : prev = 95
                    · have hb : (prev == 95) = true := by simp [h95]
                      clear h95; go_wp2; go_meet; exact ⟨by simp [hb], rfl⟩
                    · have hb : (prev == 95) = false := by simp [h95]
                      clear h95; go_wp2; go_meet; exact ⟨by simp [hb], rfl⟩
                case rest => as_aux_lemma =>
                  obtain ⟨rfl, rfl⟩ := hcut; clear hB; have he1 := HE4.out.sep
                  cases B with
                  | true =>
                    go_wp2
                    go_ret3
                    rw [HSC.out]; exact ⟨v, _, rfl, fun _ => rfl, Or.inr (Or.inl ⟨rfl, rfl⟩), HR.out, HK.out⟩
                  | false =>
                    go_wp2
                    go_ret3
                    rw [HSC.out]; exact ⟨v, _, rfl, fun _ => rfl, Or.inl ⟨rfl, rfl⟩, HR.out, HK.out⟩
              · have HSC : Hid (scanE sep s p = ⟨0, b, 3, q⟩) := by
                  unfold Hid; rw [HS.out]; unfold endE; rw [if_neg (by simp)]
                  cases h4 : Lib.parseIntB 64 ds
                  case ok v => exact absurd h4 (h3 v)
                  case range => rfl
                  rfl
                clear h3; go_wp2
                go_ret3
                rw [HSC.out]; exact ⟨v, _, rfl, fun hh => by simp at hh, Or.inr (Or.inr (Or.inr ⟨rfl, N, rfl⟩)), HR.out, HK.out⟩
theorem scanExponent_any (br : Nat) (s : ByteArray) (p : Nat) (sep : Bool) (aE : Addr) (e1 e2 : Value) (w : World) (h : RdAt w br s p) (hs : s.size < 1048576) (hp : p ≤ s.size) (hbr : br ≠ 0) (a2 : Addr) (h2 : e2 = .iface 229 (.pointer (some a2))) (hE : Errs w (.iface 229 (.pointer (some aE))) e1 e2) (hPE : PErrs w) :
    Calls Tryz.prog 128 #[.iface 169 (.pointer (some ⟨br, 0, none⟩)), .bool true, .bool sep] w (ExpPost w br s (scanE sep s p) e1 e2) := by
  by_cases hq : p < s.size
  · cases hb : expBase (byteAt s p) with
    | none => exact scanExponent_none br s p sep aE e1 e2 w h hs hp hbr hE (Or.inr hb)
    | some b => exact scanExponent_some br s p sep aE e1 e2 w h hs hq hbr a2 h2 hE hPE b hb
  · exact scanExponent_none br s p sep aE e1 e2 w h hs hp hbr hE (Or.inl hq)
end Go.Proofs.YtmgfajamanakcaaGreatDoor
