/- Part of the proof of FnParse: what the functions that it reaches do, as contracts. Conditions: those that each theorem names. -/
import Derived.Test.YtmgfajamanakcaaGreatDoorR46
import Derived.Deep.DeepCutAuto
import Derived.Deep.CutBlock
import Derived.Outline
namespace Go.Proofs.YtmgfajamanakcaaGreatDoor
set_option linter.unusedVariables false
set_option linter.unusedSimpArgs false
open Go.RowKit
set_option maxRecDepth 100000
def NormRel (w : World) (bm om n : Nat) (V : Int) (s13 : Value) (wc : World) : Prop :=
  ∃ (sh : Nat) (Z : Nat → Int), s13 = .int .i64 ((n : Int) * 64 - (sh : Int)) ∧ Hid (sh < 64 ∧ Chg (zRow bm om n) w wc ∧ Words wc bm om n Z ∧ WF Z n ∧ val Z n = V * 2 ^ sh ∧ 9223372036854775808 ≤ Z (n - 1))
def pt2 (b cnt : Int) : Int := if cnt < 0 then cnt * digBits b else 0
def pt5 (b cnt : Int) : Int := if cnt < 0 ∧ b = 10 then cnt else 0
theorem cell_lt {w : World} {b o : Nat} {v : Value} (h : w.cell? ⟨b, o, none⟩ = some v) : b < w.heap.size := by
  unfold World.cell? at h
  cases hb : w.heap[b]? with
  | none => simp [hb] at h
  | some x => exact (Array.getElem?_eq_some_iff.1 hb).1
theorem settled {sc : Scan} {ex : EScan} {k E2 E5 : Int} (hk : 0 ≤ k ∧ k ≤ 704) (hc : -4096 ≤ sc.cnt ∧ sc.cnt ≤ 4096) (hv : -9223372036854775808 ≤ ex.v ∧ ex.v < 9223372036854775808) (h2 : E2 = IntKind.i64.wrap (k + pt2 sc.b sc.cnt + ex.v))
    (h5 : E5 = if ex.b = 10 then IntKind.i64.wrap (pt5 sc.b sc.cnt + ex.v) else pt5 sc.b sc.cnt) :
    (-2147483648 ≤ E2 ∧ E2 ≤ 2147483647 → E2 = k + x2of sc ex ∧ E5 = x5of sc ex ∧ -8589934592 ≤ E5 ∧ E5 ≤ 8589934592) ∧ (¬ (-2147483648 ≤ E2 ∧ E2 ≤ 2147483647) → ¬ (-1073741824 ≤ x2of sc ex ∧ x2of sc ex ≤ 1073741824)) := by
  have hp2 : -16384 ≤ pt2 sc.b sc.cnt ∧ pt2 sc.b sc.cnt ≤ 16384 := by
    unfold pt2 digBits
    split
    · split
      · omega
      · split <;> omega
    · omega
  have hp5 : -16384 ≤ pt5 sc.b sc.cnt ∧ pt5 sc.b sc.cnt ≤ 16384 := by
    unfold pt5
    split <;> omega
  have e2 : x2of sc ex = pt2 sc.b sc.cnt + ex.v := rfl; have e5 : x5of sc ex = pt5 sc.b sc.cnt + (if ex.b = 10 then ex.v else 0) := rfl; rw [e2, e5, h2, h5]
  generalize pt2 sc.b sc.cnt = A at *
  generalize pt5 sc.b sc.cnt = B at *
  generalize ex.v = X at *
  clear h2 h5 e2 e5 hc
  by_cases hb : ex.b = 10
  · rw [if_pos hb, if_pos hb, IntKind.wrap_i64, IntKind.wrap_i64]
    omega
  · rw [if_neg hb, if_neg hb, IntKind.wrap_i64]
    omega
set_option maxHeartbeats 16000000 in
theorem FScan_more (br : Nat) (s : ByteArray) (p : Nat) (base : Int) (zb P : Nat) (v : FV) (aE a1 a2 : Addr) (w : World) (h : RdAt w br s p) (hs : s.size ≤ 160) (hp : p < s.size) (hbr : 14 ≤ br) (hzb : 14 ≤ zb) (hne : zb ≠ br)
    (hE : FEnv w aE a1 a2) (hz : FltC w zb v) (hv : v.a = none ∧ v.n = 0 ∧ v.c = 0) (hP : precOf v.p = (P : Int)) (hP1 : 1 ≤ P) (hP2 : P ≤ 512) (hmd : 0 ≤ v.md ∧ v.md ≤ 5) (hac : v.ac = 0) (hbase : base = 0 ∨ base = 2 ∨ base = 8 ∨ base = 10 ∨ base = 16) :
    Calls Tryz.prog 112 #[.pointer (some ⟨zb, 0, none⟩), .iface 169 (.pointer (some ⟨br, 0, none⟩)), .int .i64 base] w
      (FSPost w br zb s v (signAt s p).1 (scanS base true s (signAt s p).2) (scanE (base == 0) s (scanS base true s (signAt s p).2).p) P) := by
  have hbr0 : br ≠ 0 := by omega
  have hlz := hz.lt
  have hlr : br < w.heap.size := by
    obtain ⟨h0, _⟩ := h; exact cell_lt h0
  have hq := signAt_le hp; have hsz := scanS_size (base := base) hq hbase; have hsp := scanS_ok (base := base) (frac := true) hq (by omega); have hse := scanE_b (sep := (base == 0)) (s := s) (p := (scanS base true s (signAt s p).2).p); obtain ⟨VP, md, ac, fm, ng0, a0, n0, c0', e0⟩ := v; simp only at hv hP hmd hac; obtain ⟨rfl, rfl, rfl⟩ := hv; subst hac; have hzs := hz.setFm 0; obtain ⟨z0, z1, z2, z3, z4, z5, z6, zp⟩ := hz; simp only at z0 z1 z2 z3 z4 z5 z6; have f3 := zp.fz 3; have kA := chg_cell w zb 3 (.int .u8 0); have HA := Lib.hid (show FltC (w.setCell ⟨zb, 3, none⟩ (.int .u8 0)) zb ⟨VP, md, 0, 0, ng0, none, 0, 0, e0⟩ from hzs); clear hzs; have HC := Lib.hid (scanSign_more br s p (w.setCell ⟨zb, 3, none⟩ (.int .u8 0)) (h.chg kA (fun o _ hh => hne hh.1.symm)) hp (by omega)); have HE := Lib.hid hE; have HKA : Hid (Chg (zFS br zb) w (w.setCell ⟨zb, 3, none⟩ (.int .u8 0))) := kA.mono (fun b o _ hh => Or.inr ⟨hh.1, by have := hh.2; omega, by have := hh.2; omega⟩); obtain ⟨sg, hsg⟩ : ∃ x, signAt s p = x := ⟨_, rfl⟩; rw [hsg] at hq HC hsz hsp hse ⊢; obtain ⟨neg, q⟩ := sg; simp only at hq HC hsz hsp hse ⊢; obtain ⟨sc, hsc⟩ : ∃ x, scanS base true s q = x := ⟨_, rfl⟩; rw [hsc] at hsz hsp hse ⊢; obtain ⟨ex, hex⟩ : ∃ x, scanE (base == 0) s sc.p = x := ⟨_, rfl⟩; rw [hex] at hse ⊢; have Hsc := Lib.hid hsc; have Hex := Lib.hid hex; have Hsz := Lib.hid hsz; have Hsp := Lib.hid hsp; have Hse := Lib.hid hse; clear h hE zp hsc hex hsg hsz hsp hse kA z1 z2 z4 z5 z6
  go_enter Tryz.func112, Tryz.ntmps112
  go_upto_if 22 with fail; go_cut [9] (fun s9 wc => s9 = .int .u32 (P : Int) ∧ w = wc)
  case first => as_aux_lemma =>
    unfold precOf at hP
    by_cases h0 : VP = 0
    · rw [if_pos h0] at hP
      have d0 : (VP == 0) = true := by simp [h0]
      have hP' : P = 64 := by omega
      subst hP'; clear h0 hP; go_wp2; go_meet; exact ⟨rfl, rfl⟩
    · rw [if_neg h0] at hP
      have d0 : (VP == 0) = false := by simp [h0]
      clear h0; subst hP; go_wp2; go_meet; exact ⟨rfl, rfl⟩
  case rest => as_aux_lemma =>
    obtain ⟨rfl, rfl⟩ := hcut; clear z0; go_wp2_with fail; refine HC.out.mono ?_; rintro e w1 ⟨rfl, h1, h2⟩; have HZ1 := Lib.hid ((HA.out.chg h2 (fun o _ hh => hne hh.1)).setNg neg); have k1 := chg_cell w1 zb 4 (.bool neg); have HK1 : Hid (Chg (zFS br zb) w (w1.setCell ⟨zb, 4, none⟩ (.bool neg))) := (HKA.out.trans h2 (fun _ _ _ hh => Or.inl hh)).trans k1 (fun b o _ hh => Or.inr ⟨hh.1, by have := hh.2; omega, by have := hh.2; omega⟩)
    have hE1 := HE.out.far HK1.out (by
      rintro b o hb (hh | hh)
      · have := hh.1; omega
      · have := hh.1; omega)
    have HS := Lib.hid (scan_any br s q base true aE _ _ (w1.setCell ⟨zb, 4, none⟩ (.bool neg)) (h1.chg k1 (fun o _ hh => hne hh.1.symm)) (by omega) hq hbr0 hE1.errs hbase); have y4 := (HA.out.chg h2 (fun o _ hh => hne hh.1)).ng; have g4 := (HA.out.chg h2 (fun o _ hh => hne hh.1)).pb.fz 4; have y5 := (HA.out.chg h2 (fun o _ hh => hne hh.1)).mt; simp only at y4 y5; clear h1 h2 k1 hE1 z3 f3; rw [Hsc.out] at HS; go_wp2_with fail; refine HS.out.mono ?_; rintro e w2 ⟨a, n, c, rfl, g1, g2, g3⟩; clear y4 g4 y5; have hz2 := HZ1.out.chg g3 (fun o _ hh => hne hh.1); have HZ2 := Lib.hid (hz2.setMt a n c); have k2 := chg_cell w2 zb 5 (.slice a n c); have HG := Lib.hid (And.intro (g1.base HK1.out.size) (And.intro (g2.chg k2 (fun o _ hh => hne hh.1.symm)) ((HK1.out.trans g3 (fun _ _ _ hh => Or.inl hh)).trans k2 (fun b o _ hh => Or.inr ⟨hh.1, by have := hh.2; omega, by have := hh.2; omega⟩)))); have y5 := hz2.mt; have g5 := hz2.pb.fz 5; simp only at y5; clear g1 g2 g3 hz2 k2
    by_cases h0 : sc.err = 0
    · rw [if_pos h0]
      have hE2 := HE.out.far HG.out.2.2 (by
        rintro b o hb (hh | hh)
        · have := hh.1; omega
        · have := hh.1; omega)
      have HX := Lib.hid (scanExponent_any br s sc.p (base == 0) aE _ _ (w2.setCell ⟨zb, 5, none⟩ (.slice a n c)) HG.out.2.1 (by omega) Hsp.out.2.1 hbr0 a2 rfl hE2.errs hE2.perrs); rw [Hex.out] at HX; clear hE2; go_wp2_with fail; refine HX.out.mono ?_; rintro e w3 ⟨xv, ev, rfl, x1, x2, x3, x4⟩; have HZ3 := Lib.hid (HZ2.out.chg x4 (fun o _ hh => hne hh.1)); have HK3 : Hid (Chg (zFS br zb) w w3 ∧ RdAt w3 br s ex.p) := ⟨HG.out.2.2.trans x4 (fun _ _ _ hh => Or.inl hh), x3⟩
      have HG3 := Lib.hid ((HG.out.1.cell zb 5 (.slice a n c) hlz).chg x4 (fun b o hz hh => by
        have := rd_apart' HG.out.2.1 (HG.out.1.cell zb 5 (.slice a n c) hlz).2.2.1 b o hz
        exact this hh))
      clear y5 g5 x3 x4
      rcases x2 with ⟨hx0, rfl⟩ | ⟨hx0, rfl⟩ | ⟨hx0, rfl⟩ | ⟨hx0, N, rfl⟩
      · have hxv : xv = ex.v := x1 (by omega)
        subst hxv; obtain ⟨k0, k1, k2, k3, k4, k5, k6, kp⟩ := HZ3.out; simp only at k0 k1 k2 k3 k4 k5 k6; have e0' := kp.fz 0; have e2' := kp.fz 2; have e3' := kp.fz 3; have e6' := kp.fz 6; clear x1 kp
        by_cases hn : n = 0
        · have d1 : ((n : Int) == 0) = true := by simp [hn]
          have hV : Hid (sc.V = 0) := by
            obtain ⟨_, _, _, _, X, _, _, _, hx⟩ := HG3.out; rw [hn] at hx; exact hx.symm
          clear hn; go_wp2
          go_ret3
          refine Or.inl ⟨⟨h0, hx0⟩, rfl, ?_, ?_, Or.inl ⟨hV.out, _, ((HZ3.out.setP _).setAc _).setFm _, rfl, rfl, rfl, rfl, rfl⟩⟩
          · exact ((HK3.out.1.setCell zb 0 _ (fun _ => Or.inr ⟨rfl, by omega, by omega⟩)).setCell zb 2 _ (fun _ => Or.inr ⟨rfl, by omega, by omega⟩)).setCell zb 3 _ (fun _ => Or.inr ⟨rfl, by omega, by omega⟩)
          · exact ((HK3.out.2.chg (chg_cell _ _ _ _) (fun o _ hh => hne hh.1.symm)).chg (chg_cell _ _ _ _) (fun o _ hh => hne hh.1.symm)).chg (chg_cell _ _ _ _) (fun o _ hh => hne hh.1.symm)
        · have d1 : ((n : Int) == 0) = false := by simp [hn]
          obtain ⟨m1, m2, m3, m4, X, m5, m6, m7, m8⟩ := HG3.out
          have hn10 : n ≤ 10 := by
            have hh := Hsz.out.2.1; refine words_few m6 m7 ?_; rw [m8]; refine Int.lt_of_lt_of_le hh ?_; rw [show (16 : Int) = 2 ^ 4 by decide, ← Int.pow_mul]; exact ipow_le (by decide) (by omega)
          obtain ⟨bm, om, rfl, hpb, hroom⟩ := m3.room (by omega)
          have hw : Words w3 bm om n X := by
            rcases m5 with h5 | ⟨b', o', e, hw⟩
            · omega
            · injection e with e; injection e with e1 e2; subst e1; subst e2; exact hw
          have hbm : w.heap.size ≤ bm := by
            rcases m4 with h4 | ⟨b', o', e, hb⟩
            · cases h4
            · injection e with e; injection e with e1 e2; subst e1; exact hb
          have HD : Hid (Chg zNone w3 w3.drew) := (Chg.refl _ _).drew
          have ht : X (n - 1) ≠ 0 := by
            rcases m7 with h7 | h7
            · exact absurd h7 hn
            · exact h7
          have HF := Lib.hid (fnorm_any bm om n c X w3.drew (by omega) (by omega) (hw.chg HD.out (fun _ _ h => h)) m6 ((hroom.le m1).chg HD.out (fun _ _ h => h)) ht); have HG := Lib.hid (And.intro m1 (And.intro m3 (And.intro hpb (And.intro hroom (And.intro hn10 (And.intro hbm (And.intro m8 (And.intro (show bm ≠ zb by omega) hn)))))))); have wn : IntKind.i64.wrap ((n : Int) * 64) = (n : Int) * 64 := IntWalk.i64_in _ (by omega); clear m1 m2 m3 m4 m5 m6 m7 m8 hpb hroom hw hbm ht hn hn10; go_upto_region 19 with fail; go_cut [13] (NormRel w3 bm om n sc.V)
          case first => as_aux_lemma =>
            refine wp_region_noPanic ?_; refine wp_region_any (by kernel_rfl) ?_; change wpAny _ _ _ _ _ _ _ (World.drew _); refine wpAny_take (i := 0) (v := ?_) rfl (by kernel_rfl) (by kernel_rfl) (by kernel_rfl) (fun _ _ _ h => False.elim h) (Or.inl ⟨by rfl, ?_⟩) ?_; rotate_left 1
            · intro w9
              go_simp; (try with_reducible rfl)
            (try simp only [Act.put, List.getElem_toArray, List.getElem_cons_zero, List.getElem_cons_succ, List.setIfInBounds_toArray, List.set_cons_zero, List.set_cons_succ]); refine wpAny_take (i := 1) (v := ?_) rfl (by kernel_rfl) (by kernel_rfl) (by kernel_rfl) (fun _ _ _ h => False.elim h) (Or.inl ⟨by rfl, ?_⟩) ?_; rotate_left 1
            · intro w9
              go_simp; (try with_reducible rfl)
            (try simp only [Act.put, List.getElem_toArray, List.getElem_cons_zero, List.getElem_cons_succ, List.setIfInBounds_toArray, List.set_cons_zero, List.set_cons_succ]); refine wpAny_take (i := 2) (v := ?_) rfl (by kernel_rfl) (by kernel_rfl) (by kernel_rfl) (fun _ _ _ h => False.elim h) (Or.inl ⟨by rfl, ?_⟩) ?_; rotate_left 1
            · intro w9
              go_simp; (try with_reducible rfl)
            (try simp only [Act.put, List.getElem_toArray, List.getElem_cons_zero, List.getElem_cons_succ, List.setIfInBounds_toArray, List.set_cons_zero, List.set_cons_succ]); refine wpAny_take (i := 6) (v := ?_) rfl (by kernel_rfl) (by kernel_rfl) (by kernel_rfl) (fun _ _ _ h => False.elim h) (Or.inl ⟨by rfl, ?_⟩) ?_; rotate_left 1
            · intro w9
              go_simp; (try with_reducible rfl)
            (try simp only [Act.put, List.getElem_toArray, List.getElem_cons_zero, List.getElem_cons_succ, List.setIfInBounds_toArray, List.set_cons_zero, List.set_cons_succ]); refine wpAny_take (i := 7) (v := ?_) rfl (by kernel_rfl) (by kernel_rfl) (by kernel_rfl) (fun _ _ _ h => False.elim h) (Or.inl ⟨by rfl, ?_⟩) ?_; rotate_left 1
            · intro w9
              go_simp; (try with_reducible rfl)
            (try simp only [Act.put, List.getElem_toArray, List.getElem_cons_zero, List.getElem_cons_succ, List.setIfInBounds_toArray, List.set_cons_zero, List.set_cons_succ]); refine wpAny_take (i := 8) (v := ?_) rfl (by kernel_rfl) (by kernel_rfl) (by kernel_rfl) (fun _ _ _ h => False.elim h) (Or.inl ⟨by rfl, ?_⟩) ?_; rotate_left 1
            · intro w9
              go_simp; (try with_reducible rfl)
            (try simp only [Act.put, List.getElem_toArray, List.getElem_cons_zero, List.getElem_cons_succ, List.setIfInBounds_toArray, List.set_cons_zero, List.set_cons_succ]); refine wpAny_ready (rs := [3, 9]) (by kernel_rfl) (by simp) ?_; refine AllReady.cons rfl (fun K hK => ?_) (AllReady.cons rfl (fun K hK => ?_) AllReady.nil)
            · skip
              go_simp; refine hK _ _ ?_; clear hK K; (try simp only [Act.put, List.getElem_toArray, List.getElem_cons_zero, List.getElem_cons_succ, List.setIfInBounds_toArray, List.set_cons_zero, List.set_cons_succ]); refine wpAny_take (i := 4) (v := ?_) rfl (by kernel_rfl) (by kernel_rfl) (by kernel_rfl) (fun _ _ _ h => False.elim h) (Or.inl ⟨by rfl, ?_⟩) ?_; rotate_left 1
              · intro w9
                go_simp; (try with_reducible rfl)
              (try simp only [Act.put, List.getElem_toArray, List.getElem_cons_zero, List.getElem_cons_succ, List.setIfInBounds_toArray, List.set_cons_zero, List.set_cons_succ]); refine wpAny_take (i := 5) (v := ?_) rfl (by kernel_rfl) (by kernel_rfl) (by kernel_rfl) (fun _ _ _ h => False.elim h) (Or.inl ⟨by rfl, ?_⟩) ?_; rotate_left 1
              · intro w9
                go_simp; (try with_reducible rfl)
              (try simp only [Act.put, List.getElem_toArray, List.getElem_cons_zero, List.getElem_cons_succ, List.setIfInBounds_toArray, List.set_cons_zero, List.set_cons_succ]); refine wpAny_ready (rs := [9]) (by kernel_rfl) (by simp) ?_; refine AllReady.cons rfl (fun K hK => ?_) AllReady.nil; go_simp; refine hK _ _ ?_; clear hK K; (try simp only [Act.put, List.getElem_toArray, List.getElem_cons_zero, List.getElem_cons_succ, List.setIfInBounds_toArray, List.set_cons_zero, List.set_cons_succ]); refine wpAny_ready (rs := [10]) (by kernel_rfl) (by simp) ?_; refine AllReady.cons rfl (fun K hK => ?_) AllReady.nil; go_simp; go_wp2_with (go_at_call 133; go_loud (refine HF.out.mono ?_; rintro e wf ⟨sh, Zf, rfl, f1, f2, f3, f4, f5, f6, f7⟩; have j5 : wf.cell? ⟨zb, 5, none⟩ = some (.slice (some ⟨bm, om, none⟩) n c) := f3.cell (w := w3.drew) k5 (fun hh => HG.out.2.2.2.2.2.2.2.1 hh.1.symm); have HFF := Lib.hid (And.intro f2 (And.intro ((HD.out.mono (fun _ _ _ h => h.elim)).trans f3 (fun _ _ _ h => h)) (And.intro f4 (And.intro f5 (And.intro f6 f7))))); have hn10' := HG.out.2.2.2.2.1; have wsh : IntKind.i64.wrap ((n : Int) * 64 - (sh : Int)) = (n : Int) * 64 - (sh : Int) := IntWalk.i64_in _ (by omega); clear f1 f2 f3 f4 f5 f6 f7)); (try simp only [Act.put, List.getElem_toArray, List.getElem_cons_zero, List.getElem_cons_succ, List.setIfInBounds_toArray, List.set_cons_zero, List.set_cons_succ]); refine wpAny_take (i := 11) (v := ?_) rfl (by kernel_rfl) (by kernel_rfl) (by kernel_rfl) (fun _ _ _ h => False.elim h) (Or.inl ⟨by rfl, ?_⟩) ?_; rotate_left 1
              · intro w9
                go_simp; (try with_reducible rfl)
              (try simp only [Act.put, List.getElem_toArray, List.getElem_cons_zero, List.getElem_cons_succ, List.setIfInBounds_toArray, List.set_cons_zero, List.set_cons_succ]); refine wpAny_take (i := 12) (v := ?_) rfl (by kernel_rfl) (by kernel_rfl) (by kernel_rfl) (fun _ _ _ h => False.elim h) (Or.inl ⟨by rfl, ?_⟩) ?_; rotate_left 1
              · intro w9
                go_simp; (try with_reducible rfl)
              (try simp only [Act.put, List.getElem_toArray, List.getElem_cons_zero, List.getElem_cons_succ, List.setIfInBounds_toArray, List.set_cons_zero, List.set_cons_succ]); refine wpAny_done (by kernel_rfl) ?_ _; refine NoPanic.normal ?_; go_wp2; go_meet; exact ⟨sh, Zf, rfl, HFF.out.1, HFF.out.2.1, HFF.out.2.2.1, HFF.out.2.2.2.1, by rw [HFF.out.2.2.2.2.1, HG.out.2.2.2.2.2.2.1], HFF.out.2.2.2.2.2⟩
            · skip
              go_simp; refine hK _ _ ?_; clear hK K; (try simp only [Act.put, List.getElem_toArray, List.getElem_cons_zero, List.getElem_cons_succ, List.setIfInBounds_toArray, List.set_cons_zero, List.set_cons_succ]); refine wpAny_ready (rs := [3, 10]) (by kernel_rfl) (by simp) ?_; refine AllReady.cons rfl (fun K hK => ?_) (AllReady.cons rfl (fun K hK => ?_) AllReady.nil)
              · skip
                go_simp; refine hK _ _ ?_; clear hK K; (try simp only [Act.put, List.getElem_toArray, List.getElem_cons_zero, List.getElem_cons_succ, List.setIfInBounds_toArray, List.set_cons_zero, List.set_cons_succ]); refine wpAny_take (i := 4) (v := ?_) rfl (by kernel_rfl) (by kernel_rfl) (by kernel_rfl) (fun _ _ _ h => False.elim h) (Or.inl ⟨by rfl, ?_⟩) ?_; rotate_left 1
                · intro w9
                  go_simp; (try with_reducible rfl)
                (try simp only [Act.put, List.getElem_toArray, List.getElem_cons_zero, List.getElem_cons_succ, List.setIfInBounds_toArray, List.set_cons_zero, List.set_cons_succ]); refine wpAny_take (i := 5) (v := ?_) rfl (by kernel_rfl) (by kernel_rfl) (by kernel_rfl) (fun _ _ _ h => False.elim h) (Or.inl ⟨by rfl, ?_⟩) ?_; rotate_left 1
                · intro w9
                  go_simp; (try with_reducible rfl)
                (try simp only [Act.put, List.getElem_toArray, List.getElem_cons_zero, List.getElem_cons_succ, List.setIfInBounds_toArray, List.set_cons_zero, List.set_cons_succ]); refine wpAny_ready (rs := [10]) (by kernel_rfl) (by simp) ?_; refine AllReady.cons rfl (fun K hK => ?_) AllReady.nil; go_simp; go_wp2_with (go_at_call 133; go_loud (refine HF.out.mono ?_; rintro e wf ⟨sh, Zf, rfl, f1, f2, f3, f4, f5, f6, f7⟩; have j5 : wf.cell? ⟨zb, 5, none⟩ = some (.slice (some ⟨bm, om, none⟩) n c) := f3.cell (w := w3.drew) k5 (fun hh => HG.out.2.2.2.2.2.2.2.1 hh.1.symm); have HFF := Lib.hid (And.intro f2 (And.intro ((HD.out.mono (fun _ _ _ h => h.elim)).trans f3 (fun _ _ _ h => h)) (And.intro f4 (And.intro f5 (And.intro f6 f7))))); have hn10' := HG.out.2.2.2.2.1; have wsh : IntKind.i64.wrap ((n : Int) * 64 - (sh : Int)) = (n : Int) * 64 - (sh : Int) := IntWalk.i64_in _ (by omega); clear f1 f2 f3 f4 f5 f6 f7)); (try simp only [Act.put, List.getElem_toArray, List.getElem_cons_zero, List.getElem_cons_succ, List.setIfInBounds_toArray, List.set_cons_zero, List.set_cons_succ]); refine wpAny_take (i := 11) (v := ?_) rfl (by kernel_rfl) (by kernel_rfl) (by kernel_rfl) (fun _ _ _ h => False.elim h) (Or.inl ⟨by rfl, ?_⟩) ?_; rotate_left 1
                · intro w9
                  go_simp; (try with_reducible rfl)
                (try simp only [Act.put, List.getElem_toArray, List.getElem_cons_zero, List.getElem_cons_succ, List.setIfInBounds_toArray, List.set_cons_zero, List.set_cons_succ]); refine wpAny_take (i := 12) (v := ?_) rfl (by kernel_rfl) (by kernel_rfl) (by kernel_rfl) (fun _ _ _ h => False.elim h) (Or.inl ⟨by rfl, ?_⟩) ?_; rotate_left 1
                · intro w9
                  go_simp; (try with_reducible rfl)
                (try simp only [Act.put, List.getElem_toArray, List.getElem_cons_zero, List.getElem_cons_succ, List.setIfInBounds_toArray, List.set_cons_zero, List.set_cons_succ]); refine wpAny_done (by kernel_rfl) ?_ _; refine NoPanic.normal ?_; go_wp2; go_meet; exact ⟨sh, Zf, rfl, HFF.out.1, HFF.out.2.1, HFF.out.2.2.1, HFF.out.2.2.2.1, by rw [HFF.out.2.2.2.2.1, HG.out.2.2.2.2.2.2.1], HFF.out.2.2.2.2.2⟩
              · skip
                go_simp; go_wp2_with (go_at_call 133; go_loud (refine HF.out.mono ?_; rintro e wf ⟨sh, Zf, rfl, f1, f2, f3, f4, f5, f6, f7⟩; have j5 : wf.cell? ⟨zb, 5, none⟩ = some (.slice (some ⟨bm, om, none⟩) n c) := f3.cell (w := w3.drew) k5 (fun hh => HG.out.2.2.2.2.2.2.2.1 hh.1.symm); have HFF := Lib.hid (And.intro f2 (And.intro ((HD.out.mono (fun _ _ _ h => h.elim)).trans f3 (fun _ _ _ h => h)) (And.intro f4 (And.intro f5 (And.intro f6 f7))))); have hn10' := HG.out.2.2.2.2.1; have wsh : IntKind.i64.wrap ((n : Int) * 64 - (sh : Int)) = (n : Int) * 64 - (sh : Int) := IntWalk.i64_in _ (by omega); clear f1 f2 f3 f4 f5 f6 f7)); (try simp only [Act.put, List.getElem_toArray, List.getElem_cons_zero, List.getElem_cons_succ, List.setIfInBounds_toArray, List.set_cons_zero, List.set_cons_succ]); refine wpAny_ready (rs := [3]) (by kernel_rfl) (by simp) ?_; refine AllReady.cons rfl (fun K hK => ?_) AllReady.nil; go_simp; refine hK _ _ ?_; clear hK K; (try simp only [Act.put, List.getElem_toArray, List.getElem_cons_zero, List.getElem_cons_succ, List.setIfInBounds_toArray, List.set_cons_zero, List.set_cons_succ]); refine wpAny_take (i := 4) (v := ?_) rfl (by kernel_rfl) (by kernel_rfl) (by kernel_rfl) (fun _ _ _ h => False.elim h) (Or.inl ⟨by rfl, ?_⟩) ?_; rotate_left 1
                · intro w9
                  go_simp; (try with_reducible rfl)
                (try simp only [Act.put, List.getElem_toArray, List.getElem_cons_zero, List.getElem_cons_succ, List.setIfInBounds_toArray, List.set_cons_zero, List.set_cons_succ]); refine wpAny_take (i := 5) (v := ?_) rfl (by kernel_rfl) (by kernel_rfl) (by kernel_rfl) (fun _ _ _ h => False.elim h) (Or.inl ⟨by rfl, ?_⟩) ?_; rotate_left 1
                · intro w9
                  go_simp; (try with_reducible rfl)
                (try simp only [Act.put, List.getElem_toArray, List.getElem_cons_zero, List.getElem_cons_succ, List.setIfInBounds_toArray, List.set_cons_zero, List.set_cons_succ]); refine wpAny_take (i := 11) (v := ?_) rfl (by kernel_rfl) (by kernel_rfl) (by kernel_rfl) (fun _ _ _ h => False.elim h) (Or.inl ⟨by rfl, ?_⟩) ?_; rotate_left 1
                · intro w9
                  go_simp; (try with_reducible rfl)
                (try simp only [Act.put, List.getElem_toArray, List.getElem_cons_zero, List.getElem_cons_succ, List.setIfInBounds_toArray, List.set_cons_zero, List.set_cons_succ]); refine wpAny_take (i := 12) (v := ?_) rfl (by kernel_rfl) (by kernel_rfl) (by kernel_rfl) (fun _ _ _ h => False.elim h) (Or.inl ⟨by rfl, ?_⟩) ?_; rotate_left 1
                · intro w9
                  go_simp; (try with_reducible rfl)
                (try simp only [Act.put, List.getElem_toArray, List.getElem_cons_zero, List.getElem_cons_succ, List.setIfInBounds_toArray, List.set_cons_zero, List.set_cons_succ]); refine wpAny_done (by kernel_rfl) ?_ _; refine NoPanic.normal ?_; go_wp2; go_meet; exact ⟨sh, Zf, rfl, HFF.out.1, HFF.out.2.1, HFF.out.2.2.1, HFF.out.2.2.2.1, by rw [HFF.out.2.2.2.2.1, HG.out.2.2.2.2.2.2.1], HFF.out.2.2.2.2.2⟩
          case rest => as_aux_lemma =>
            obtain ⟨sh, Z, rfl, HN⟩ := hcut; have HZ4 := Lib.hid (HZ3.out.chg HN.out.2.1 (fun o _ hh => HG.out.2.2.2.2.2.2.2.1 hh.1.symm)); have HK4 : Hid (Chg (zFS br zb) w wc ∧ RdAt wc br s ex.p) := ⟨HK3.out.1.trans HN.out.2.1 (fun b o hb hh => by have := hh.1; have := HG.out.2.2.2.2.2.1; omega), HK3.out.2.chg HN.out.2.1 (fun o _ hh => by have := hh.1; have := HG.out.2.2.2.2.2.1; omega)⟩; have hsh := HN.out.1; have hn10 := HG.out.2.2.2.2.1; have hnn := HG.out.2.2.2.2.2.2.2.2; have hc1 := Hsz.out.2.2.1; have hc2 := Hsz.out.2.2.2.1; clear k0 k1 k2 k3 k4 k5 k6 e0' e2' e3' e6' HF wn d1; obtain ⟨K, hK⟩ : ∃ K, (n : Int) * 64 - (sh : Int) = K := ⟨_, rfl⟩; have hK0 : 0 ≤ K ∧ K ≤ 704 := by omega
            rw [hK]; have HKK := Lib.hid hK; clear hK; go_upto_if 93 with fail; go_cut [13, 14] (fun s13 s14 wd => s13 = .int .i64 (K + pt2 sc.b sc.cnt) ∧ s14 = .int .i64 (pt5 sc.b sc.cnt) ∧ wc = wd)
            case first => as_aux_lemma =>
              have hb := Hsz.out.2.2.2.2; clear HZ4 HK4 HN HG HKK Hsc Hex Hsp Hse HA HC HE HKA HZ1 HK1 HS HZ2 HX HZ3 HK3 HG3 HD hsh hn10 hnn Hsz; obtain ⟨hK1, hK2⟩ := hK0
              by_cases hc : sc.cnt < 0
              · have d1 : decide (sc.cnt < 0) = true := by simp [hc]
                rw [d1]
                rcases hb with hb | hb | hb | hb
                · have q10 : (sc.b == 10) = false := by rw [hb]; rfl
                  have q2 : (sc.b == 2) = true := by rw [hb]; rfl
                  have r2 : pt2 sc.b sc.cnt = sc.cnt := by unfold pt2 digBits; rw [if_pos hc, hb]; simp
                  have r5 : pt5 sc.b sc.cnt = 0 := by unfold pt5; rw [hb]; simp
                  have R2 := Lib.hid r2; have R5 := Lib.hid r5; clear hc hb r2 r5; go_wp2; go_meet; exact ⟨by rw [R2.out], by rw [R5.out], rfl⟩
                · have q10 : (sc.b == 10) = false := by rw [hb]; rfl
                  have q2 : (sc.b == 2) = false := by rw [hb]; rfl
                  have q8 : (sc.b == 8) = true := by rw [hb]; rfl
                  have r2 : pt2 sc.b sc.cnt = sc.cnt * 3 := by unfold pt2 digBits; rw [if_pos hc, hb]; simp
                  have r5 : pt5 sc.b sc.cnt = 0 := by unfold pt5; rw [hb]; simp
                  have R2 := Lib.hid r2; have R5 := Lib.hid r5; clear hc hb r2 r5; go_wp2; go_meet; exact ⟨by rw [R2.out], by rw [R5.out], rfl⟩
                · have q10 : (sc.b == 10) = true := by rw [hb]; rfl
                  have r2 : pt2 sc.b sc.cnt = sc.cnt := by unfold pt2 digBits; rw [if_pos hc, hb]; simp
                  have r5 : pt5 sc.b sc.cnt = sc.cnt := by unfold pt5; rw [hb]; simp [hc]
                  have R2 := Lib.hid r2; have R5 := Lib.hid r5; clear hc hb r2 r5; go_wp2; go_meet; exact ⟨by rw [R2.out], by rw [R5.out], rfl⟩
                · have q10 : (sc.b == 10) = false := by rw [hb]; rfl
                  have q2 : (sc.b == 2) = false := by rw [hb]; rfl
                  have q8 : (sc.b == 8) = false := by rw [hb]; rfl
                  have q16 : (sc.b == 16) = true := by rw [hb]; rfl
                  have r2 : pt2 sc.b sc.cnt = sc.cnt * 4 := by unfold pt2 digBits; rw [if_pos hc, hb]; simp
                  have r5 : pt5 sc.b sc.cnt = 0 := by unfold pt5; rw [hb]; simp
                  have R2 := Lib.hid r2; have R5 := Lib.hid r5; clear hc hb r2 r5; go_wp2; go_meet; exact ⟨by rw [R2.out], by rw [R5.out], rfl⟩
              · have d1 : decide (sc.cnt < 0) = false := by simp [hc]
                rw [d1]; have r2 : pt2 sc.b sc.cnt = 0 := by unfold pt2; rw [if_neg hc]
                have r5 : pt5 sc.b sc.cnt = 0 := by unfold pt5; rw [if_neg (fun hh => hc hh.1)]
                have R2 := Lib.hid r2; have R5 := Lib.hid r5; clear hc hb r2 r5; go_wp2; go_meet; exact ⟨by rw [R2.out, Int.add_zero], by rw [R5.out], rfl⟩
            case rest => as_aux_lemma =>
              obtain ⟨rfl, rfl, rfl⟩ := hcut; obtain ⟨A, hA⟩ : ∃ A, pt2 sc.b sc.cnt = A := ⟨_, rfl⟩; obtain ⟨B, hB⟩ : ∃ B, pt5 sc.b sc.cnt = B := ⟨_, rfl⟩; rw [hA, hB]; have HAB := Lib.hid (And.intro hA hB); clear hA hB
              go_upto_block 6 with fail
              go_cut [13, 14] (fun s13 s14 wd => ∃ E2 E5, s13 = .int .i64 E2 ∧ s14 = .int .i64 E5 ∧ wc = wd ∧ Hid (E2 = IntKind.i64.wrap (K + A + ex.v) ∧ E5 = if ex.b = 10 then IntKind.i64.wrap (B + ex.v) else B))
              case first => as_aux_lemma =>
                have hb := Hse.out.1; clear HZ4 HK4 HN HG HKK Hsc Hex Hsp Hse HA HC HE HKA HZ1 HK1 HS HZ2 HX HZ3 HK3 HG3 HD hsh hn10 hnn Hsz HAB hc1 hc2 hK0
                rcases hb with hb | hb
                · have q10 : (ex.b == 10) = false := by rw [hb]; rfl
                  have q2 : (ex.b == 2) = true := by rw [hb]; rfl
                  go_wp2; go_meet; exact ⟨_, _, rfl, rfl, rfl, (IntWalk.i64_left _).symm, by rw [if_neg (by omega)]⟩
                · have q10 : (ex.b == 10) = true := by rw [hb]; rfl
                  go_wp2; go_meet; exact ⟨_, _, rfl, rfl, rfl, (IntWalk.i64_left _).symm, by rw [if_pos hb, IntWalk.i64_left]⟩
              case rest => as_aux_lemma =>
                obtain ⟨E2, E5, rfl, rfl, rfl, HQ⟩ := hcut
                have HST : Hid ((-2147483648 ≤ E2 ∧ E2 ≤ 2147483647 → E2 = K + x2of sc ex ∧ E5 = x5of sc ex ∧ -8589934592 ≤ E5 ∧ E5 ≤ 8589934592) ∧ (¬ (-2147483648 ≤ E2 ∧ E2 ≤ 2147483647) → ¬ (-1073741824 ≤ x2of sc ex ∧ x2of sc ex ≤ 1073741824))) :=
                  settled hK0 (by omega) Hse.out.2 (by rw [HAB.out.1]; exact HQ.out.1) (by rw [HAB.out.2]; exact HQ.out.2)
                go_upto_region 39 with fail; go_cut [134] (fun s134 wd => (∃ rb : Bool, s134 = .bool rb ∧ Hid (rb = true ↔ (-2147483648 ≤ E2 ∧ E2 ≤ 2147483647))) ∧ wc = wd)
                case first => as_aux_lemma =>
                  clear HZ4 HK4 HN HG HKK Hsc Hex Hsp Hse HA HC HE HKA HZ1 HK1 HS HZ2 HX HZ3 HK3 HG3 HD hsh hn10 hnn Hsz HAB hc1 hc2 hK0 HST HQ
                  by_cases hr1 : -2147483648 ≤ E2
                  · have d1 : decide (-2147483648 ≤ E2) = true := decide_eq_true hr1
                    by_cases hr2 : E2 ≤ 2147483647
                    · have d2 : decide (E2 ≤ 2147483647) = true := decide_eq_true hr2
                      have HR := Lib.hid (And.intro hr1 hr2); clear hr1 hr2; go_wp2; go_meet; exact ⟨⟨true, rfl, ⟨fun _ => HR.out, fun _ => rfl⟩⟩, rfl⟩
                    · have d2 : decide (E2 ≤ 2147483647) = false := decide_eq_false hr2
                      have HR := Lib.hid hr2; clear hr1 hr2; go_wp2; go_meet; exact ⟨⟨false, rfl, ⟨(fun h => by cases h), fun h => by have := HR.out; omega⟩⟩, rfl⟩
                  · have d1 : decide (-2147483648 ≤ E2) = false := decide_eq_false hr1
                    have HR := Lib.hid hr1; clear hr1; go_wp2; go_meet; exact ⟨⟨false, rfl, ⟨(fun h => by cases h), fun h => by have := HR.out; omega⟩⟩, rfl⟩
                obtain ⟨⟨rb, rfl, HRB⟩, rfl⟩ := hcut; go_upto_if 134 with fail; go_cut [6, 8] (fun s6 s8 wd => s6 = .pointer (some ⟨zb, 0, none⟩) ∧ s8 = .nilIface ∧ Hid (E2 = K + x2of sc ex ∧ E5 = x5of sc ex ∧ -8589934592 ≤ E5 ∧ E5 ≤ 8589934592) ∧ Hid (PreRnd w br zb s ⟨VP, md, 0, fm, ng0, none, 0, 0, e0⟩ neg sc ex P wd ⟨(P : Int), md, 0, 1, neg, some ⟨bm, om, none⟩, n, c, E2⟩ Z))
                case first => as_aux_lemma =>
                  have HV : Hid (sc.V ≠ 0) := by
                    have h1 := (val_ge_top HN.out.2.2.2.1 (by omega) HN.out.2.2.2.2.2).1; have h2 : (0 : Int) < 2 ^ (64 * n - 1) := Int.pow_pos (by decide); rw [HN.out.2.2.2.2.1] at h1; intro h0; rw [h0, Int.zero_mul] at h1; omega
                  obtain ⟨k0, k1, k2, k3, k4, k5, k6, kp⟩ := HZ4.out; simp only at k0 k1 k2 k3 k4 k5 k6; have e0' := kp.fz 0; have e3' := kp.fz 3; have e6' := kp.fz 6; clear kp
                  cases rb with
                  | true =>
                    have hr := HRB.out.1 rfl; have wE : IntKind.i32.wrap E2 = E2 := IntWalk.i32_in _ (by omega); have HR := Lib.hid hr; clear hr; go_wp2; go_meet; refine ⟨rfl, rfl, HST.out.1 HR.out, ?_⟩
                    have kW : Chg (zRow zb 0 7) wc (((wc.setCell ⟨zb, 0, none⟩ (.int .u32 (P : Int))).setCell ⟨zb, 3, none⟩ (.int .u8 1)).setCell ⟨zb, 6, none⟩ (.int .i32 E2)) :=
                      (((Chg.refl _ _).setCell zb 0 _ (fun _ => ⟨rfl, by omega, by omega⟩)).setCell zb 3 _ (fun _ => ⟨rfl, by omega, by omega⟩)).setCell zb 6 _ (fun _ => ⟨rfl, by omega, by omega⟩)
                    obtain ⟨g1, g2, g3, g4, g5, g6, g7, g8, g9⟩ := HG.out; obtain ⟨f1, f2, f3, f4, f5, f6⟩ := HN.out
                    have hzc : ZOK wc (some ⟨bm, om, none⟩) c := g2.ints f2 (by
                      rintro b o _ ⟨rfl, h1, h2⟩; have hy := f3 (o - om) (by omega); rw [show om + (o - om) = o by omega] at hy
                      exact ⟨_, hy⟩)
                    have hx := HST.out.1 HR.out; have hR := HR.out; have hkk := HKK.out; refine ⟨⟨((HZ4.out.setP _).setFm _).setEx _, hzc.chg kW ?_, ?_, ⟨by simp only; omega, by simp only; omega⟩, hmd, Or.inr (Or.inl rfl), ⟨by simp only; omega, by simp only; omega⟩, fun _ => ⟨by simp only; omega, g1, by simp only; omega, Or.inr ⟨bm, om, rfl, f3.chg kW ?_⟩, f4, f6⟩⟩, rfl, rfl, rfl, rfl, g5, ?_, ⟨sh, f1, f5, by simp only; omega⟩, HK4.out.2.chg kW (fun o _ hh => hne hh.1.symm), HK4.out.1.trans kW (fun b o _ hh => Or.inr hh), hlz, hlr, hne⟩
                    · rintro b o ⟨po, e, _⟩ hh
                      injection e with e; injection e with e1 e2; exact g8 (e1.trans hh.1)
                    · rintro b o e
                      injection e with e; injection e with e1 e2; rw [← e1]; exact g8
                    · intro i hi hh
                      exact g8 hh.1
                    · rintro b o e
                      injection e with e; injection e with e1 e2; rw [← e1]; exact g6
                  | false =>
                    have HR := Lib.hid (show ¬ (-2147483648 ≤ E2 ∧ E2 ≤ 2147483647) from fun h => by have := HRB.out.2 h; cases this); go_wp2_with fail; refine (errNew_any _ _).mono ?_; rintro e w5 ⟨rfl, kk⟩; have HKx := Lib.hid kk; clear kk; go_wp2
                    go_ret3
                    exact Or.inr ⟨Or.inr ⟨HV.out, HST.out.2 HR.out⟩, _, _, _, rfl, HK4.out.1.trans HKx.out (fun _ _ _ h => h.elim)⟩
                case rest => as_aux_lemma =>
                  obtain ⟨rfl, rfl, HX2, HPR⟩ := hcut; clear HQ HST HN HK4 HZ4 HG HG3; have hlw : 14 ≤ wc.heap.size := by have := HPR.out.chg.size; have := HPR.out.lz; omega
                  by_cases h5 : E5 = 0
                  · have d5 : (E5 == 0) = true := by simp [h5]
                    have HRd := Lib.hid (round_any zb P _ Z 0 false wc HPR.out.num rfl rfl (Or.inl rfl) (by simp)); have H5 := Lib.hid h5; clear h5; go_wp2_with fail; refine HRd.out.mono ?_; rintro e w5 ⟨rfl, hR⟩; have HR5 := Lib.hid hR; clear hR; go_wp2
                    go_ret3
                    exact Or.inl ⟨⟨h0, hx0⟩, rfl, HPR.out.round (HX2.out.2.1.symm.trans H5.out) HR5.out hP1⟩
                  · have d5 : (E5 == 0) = false := by simp [h5]
                    have hb1 := HX2.out.2.2.1; have hb2 := HX2.out.2.2.2; have hal := newFlt wc 136; have kal : Chg zNone wc (wc.alloc (.cells #[.int .u32 0, .int .u8 0, .int .i8 0, .int .u8 0, .bool false, .slice none 0 0, .int .i32 0] 136)) := (Chg.refl _ _).alloc _; obtain ⟨W5, hW5⟩ : ∃ x, x = wc.alloc (.cells #[.int .u32 0, .int .u8 0, .int .i8 0, .int .u8 0, .bool false, .slice none 0 0, .int .i32 0] 136) := ⟨_, rfl⟩; rw [← hW5] at hal kal; have hp5 := HPR.out.far kal; have HPc := Lib.hid (Prec_any zb _ W5 hp5.num.c (by simp only; omega)); have HQ := Lib.hid (SetPrec_new wc.heap.size _ ((P : Int) + 64) W5 hal rfl rfl (by omega)); have HK5 := Lib.hid (And.intro kal hW5); have w4 : IntKind.u64.wrap ((P : Int) + 64) = (P : Int) + 64 := IntWalk.u64_in _ (by omega); rw [hW5] at HPc HQ; clear hal kal hp5 hW5; go_wp2_with fail; refine HPc.out.mono ?_; rintro e w5 ⟨rfl, rfl⟩; go_wp2_with fail; refine HQ.out.mono ?_; rintro e w6 ⟨rfl, q1, q2⟩
                    have HF6 : Hid (FNum w6 wc.heap.size ⟨(P : Int) + 64, 0, 0, 0, false, none, 0, 0, 0⟩ Z ∧ Chg zNone wc w6 ∧ FEnv w6 aE a1 a2) := by
                      have k6 : Chg zNone wc w6 := (HK5.out.2 ▸ HK5.out.1).trans q2 (fun b o hb hh => by have := hh.1; omega); refine ⟨⟨q1, Or.inl ⟨rfl, rfl⟩, fun _ _ e => (by cases e), ⟨by simp only; omega, by simp only; omega⟩, (by simp), Or.inl rfl, (by simp), fun e => by cases e⟩, k6, ?_⟩
                      exact HE.out.far (HPR.out.chg.trans k6 (fun _ _ _ h => h.elim)) (by
                        rintro b o hb (hh | hh)
                        · have := hh.1; omega
                        · have := hh.1; omega)
                    clear q1 q2 HK5 HQ HPc
                    by_cases hs5 : E5 < 0
                    · skip
                      obtain ⟨k, hk⟩ : ∃ k : Nat, -E5 = (k : Int) := ⟨(-E5).toNat, by omega⟩; have d6 : decide (E5 < 0) = true := decide_eq_true hs5; have w7 : IntKind.i64.wrap (-E5) = -E5 := IntWalk.i64_in _ (by omega); have w8 : IntKind.u64.wrap (-E5) = -E5 := IntWalk.u64_in _ (by omega); have hk0 : 0 < k := by omega
                      have hk1 : k < 18446744073709551616 := by omega
                      have HF5 := Lib.hid (pow5_full wc.heap.size k (P + 64) _ Z w6 HF6.out.1 (by simp only; push_cast; rfl) (by omega) (by omega) hk1 HF6.out.2.2.tab (by
                        rintro b o (hh | ⟨po, e, _⟩)
                        · have := hh.1; omega
                        · cases e) HF6.out.2.2.k1 HF6.out.2.2.k5 HF6.out.2.2.k6)
                      have HKe := Lib.hid hk; rw [← hk] at HF5; clear hk h5 hs5; go_wp2_with fail; refine HF5.out.mono ?_; rintro e w7 ⟨rfl, vp, Y, r1, r2, r3⟩; have hfive := HPR.out.five HF6.out.2.1 rfl r1
                      have hE7 := HF6.out.2.2.far r1.chg (by
                        rintro b o hb (hh | ⟨po, e, _⟩)
                        · have := hh.1; omega
                        · cases e)
                      have HQS := Lib.hid (quo_step (HPR.out.far hfive.1) k (by rw [← HX2.out.2.1]; exact HKe.out) hk0 wc.heap.size (P + 64) vp Y r1.num r2 (by omega) r3 hfive.2 hE7.k4 hzb); clear r1 r2 r3 hfive hE7; go_wp2_with fail; refine HQS.out.mono ?_; rintro e w8 ⟨rfl, hR⟩; have HR8 := Lib.hid hR; clear hR; go_wp2
                      go_ret3
                      exact Or.inl ⟨⟨h0, hx0⟩, rfl, HR8.out⟩
                    · skip
                      obtain ⟨k, hk⟩ : ∃ k : Nat, E5 = (k : Int) := ⟨E5.toNat, by omega⟩; have d6 : decide (E5 < 0) = false := decide_eq_false hs5; have w8 : IntKind.u64.wrap E5 = E5 := IntWalk.u64_in _ (by omega); have hk0 : 0 < k := by omega
                      have hk1 : k < 18446744073709551616 := by omega
                      have HF5 := Lib.hid (pow5_full wc.heap.size k (P + 64) _ Z w6 HF6.out.1 (by simp only; push_cast; rfl) (by omega) (by omega) hk1 HF6.out.2.2.tab (by
                        rintro b o (hh | ⟨po, e, _⟩)
                        · have := hh.1; omega
                        · cases e) HF6.out.2.2.k1 HF6.out.2.2.k5 HF6.out.2.2.k6)
                      have HKe := Lib.hid hk; rw [← hk] at HF5; clear hk h5 hs5; go_wp2_with fail; refine HF5.out.mono ?_; rintro e w7 ⟨rfl, vp, Y, r1, r2, r3⟩; have hfive := HPR.out.five HF6.out.2.1 rfl r1
                      have hE7 := HF6.out.2.2.far r1.chg (by
                        rintro b o hb (hh | ⟨po, e, _⟩)
                        · have := hh.1; omega
                        · cases e)
                      have HQS := Lib.hid (mul_step (HPR.out.far hfive.1) k (by rw [← HX2.out.2.1]; exact HKe.out) hk0 wc.heap.size (P + 64) vp Y r1.num r2 (by omega) r3 hfive.2 hE7.k1 hzb); clear r1 r2 r3 hfive hE7; go_wp2_with fail; refine HQS.out.mono ?_; rintro e w8 ⟨rfl, hR⟩; have HR8 := Lib.hid hR; clear hR; go_wp2
                      go_ret3
                      exact Or.inl ⟨⟨h0, hx0⟩, rfl, HR8.out⟩
      · go_wp2
        go_ret3
        exact Or.inr ⟨Or.inl (fun hh => by have := hh.2; omega), _, _, _, rfl, HK3.out.1⟩
      · go_wp2
        go_ret3
        exact Or.inr ⟨Or.inl (fun hh => by have := hh.2; omega), _, _, _, rfl, HK3.out.1⟩
      · go_wp2
        go_ret3
        exact Or.inr ⟨Or.inl (fun hh => by have := hh.2; omega), _, _, _, rfl, HK3.out.1⟩
    · rw [if_neg h0]
      by_cases h1 : sc.err = 1
      · rw [if_pos h1]
        go_wp2
        go_ret3
        exact Or.inr ⟨Or.inl (fun hh => h0 hh.1), _, _, _, rfl, HG.out.2.2⟩
      · rw [if_neg h1]
        go_wp2
        go_ret3
        exact Or.inr ⟨Or.inl (fun hh => h0 hh.1), _, _, _, rfl, HG.out.2.2⟩
end Go.Proofs.YtmgfajamanakcaaGreatDoor
