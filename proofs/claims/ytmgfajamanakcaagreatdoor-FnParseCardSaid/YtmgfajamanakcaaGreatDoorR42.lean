/- Part of the proof of FnParse: what the functions that it reaches do, as contracts. Conditions: those that each theorem names. -/
import Derived.Test.YtmgfajamanakcaaGreatDoorR41
import Derived.Test.YtmgfajamanakcaaGreatDoorR36
import Derived.Test.YtmgfajamanakcaaGreatDoorR38
import Derived.Deep.QuietTactic
namespace Go.Proofs.YtmgfajamanakcaaGreatDoor.Si
set_option linter.unusedVariables false
set_option linter.unusedSimpArgs false
open Go Go.RowKit
set_option maxRecDepth 100000
def Sz6 (w : World) (p : Nat) : Prop := ∃ c e fr, w.heap[p]? = some (.cells c e fr) ∧ c.size = 6
theorem Sz6.chg {Z : Zone} {w w' : World} {p : Nat} (h : Sz6 w p) (k : Chg Z w w') : Sz6 w' p := by
  obtain ⟨c, e, fr, h1, h2⟩ := h; obtain ⟨c', g1, g2, _⟩ := k.cells p c e fr h1; exact ⟨c', e, fr, g1, g2.trans h2⟩
theorem Sz6.none {w : World} {p o : Nat} (h : Sz6 w p) (ho : 6 ≤ o) : w.cell? ⟨p, o, .none⟩ = .none := by
  obtain ⟨c, e, fr, h1, h2⟩ := h; simp only [World.cell?, h1]
  simp
  omega
def RdC (w : World) (ng : Bool) (b : Int) (a : Option Addr) (n c : Nat) (bh : Int) (wc : World) : Prop :=
  SrcC wc (w.heap.size + 1) ng b a n c bh 0 false ∧ SrcC wc w.heap.size false 0 none 0 0 0 0 false ∧ Sz6 wc w.heap.size ∧ Chg zNone w wc
theorem RdC.base (w : World) (base : Int) : RdC w false base none 0 0 0 ((w.alloc (.cells #[.bool false, .int .i64 0, .slice none 0 0, .int .i64 0, .int .i64 0, .bool false] 61)).alloc (.cells #[.bool false, .int .i64 base, .slice none 0 0, .int .i64 0, .int .i64 0, .bool false] 61)) := by
  obtain ⟨w1, hw1⟩ : ∃ w1, w1 = w.alloc (.cells #[.bool false, .int .i64 0, .slice none 0 0, .int .i64 0, .int .i64 0, .bool false] 61) := ⟨_, rfl⟩
  have hs1 : w1.heap.size = w.heap.size + 1 := by
    rw [hw1]; show (w.heap.push _).size = _
    simp
  have k1 : Chg zNone w w1 := by rw [hw1]; exact (Chg.refl _ _).alloc _
  have h1 := newSrc w false 0 none 0 0 0 0 false 61; rw [← hw1] at h1; have hz : Sz6 w1 w.heap.size := by rw [hw1]; exact ⟨_, _, _, Array.getElem?_push_size, rfl⟩
  have h2 := newSrc w1 false base none 0 0 0 0 false 61; rw [hs1] at h2; rw [← hw1]; have k2 : Chg zNone w1 (w1.alloc (.cells #[.bool false, .int .i64 base, .slice none 0 0, .int .i64 0, .int .i64 0, .bool false] 61)) := (Chg.refl _ _).alloc _; exact ⟨h2, h1.chg k2 (fun _ h => h), hz.chg k2, k1.trans k2 (fun _ _ _ h => h)⟩
theorem RdC.set {w wc : World} {ng : Bool} {b : Int} {a : Option Addr} {n c : Nat} {bh : Int} (h : RdC w ng b a n c bh wc) (i : Nat) (v : Value) : SrcC (wc.setCell ⟨w.heap.size + 1, i, none⟩ v) w.heap.size false 0 none 0 0 0 0 false ∧ Sz6 (wc.setCell ⟨w.heap.size + 1, i, none⟩ v) w.heap.size ∧ Chg zNone w (wc.setCell ⟨w.heap.size + 1, i, none⟩ v) :=
  ⟨h.2.1.chg (chg_cell _ _ _ _) (fun o hh => by have := hh.1; omega), h.2.2.1.chg (chg_cell _ _ _ _), h.2.2.2.setCell (w.heap.size + 1) i _ (fun hb => absurd hb (by omega))⟩
theorem RdC.far {w wc wd : World} {ng : Bool} {b : Int} {a : Option Addr} {n c : Nat} {bh : Int} (h : RdC w ng b a n c bh wc) (k : Chg zNone wc wd) : RdC w ng b a n c bh wd :=
  ⟨h.1.chg k (fun _ h => h), h.2.1.chg k (fun _ h => h), h.2.2.1.chg k, h.2.2.2.trans k (fun _ _ _ h => h)⟩
def ReadP (w : World) (s : ByteArray) (base : Int) (e : Ending) (w' : World) : Prop :=
  ∃ ng b a n c bh ex two ok V, e = .returned (.tuple #[srcV ng b a n c bh ex two, .bool ok]) ∧ (V ≠ 0 → NatV w' a n c V) ∧ (n = 0 ↔ V = 0) ∧ n ≤ 60 ∧ 0 ≤ bh ∧ bh ≤ 60 ∧ -9999 ≤ ex ∧ ex ≤ 9999 ∧ (ok = true → ReadSays s base ng b V bh ex two) ∧ Chg zNone w w'
def RLRel (w : World) (s u : ByteArray) (base : Int) (sg : Bool) (b : Int) (p : Nat) (pk0 : Int) (gk : Nat) (s7 s8 s9 : Value) (wc : World) : Prop :=
  ∃ (n k bh : Nat) (pt : Bool) (a : Option Addr) (m c : Nat) (V : Int), s7 = .int .i64 (n : Int) ∧ s8 = .bool pt ∧ s9 = .int .i64 (k : Int) ∧ k + gk = u.size ∧ n ≤ k ∧ bh ≤ n ∧ m ≤ n ∧
    Hid (RunAt s base b p pk0 k n bh pt V ∧ NatV wc a m c V ∧ V < 16 ^ n ∧ RdC w sg b a m c bh wc)
theorem base_four {base : Int} {u : ByteArray} (h : base = 0 ∨ base = 2 ∨ base = 8 ∨ base = 10 ∨ base = 16) : baseV base u = 2 ∨ baseV base u = 8 ∨ baseV base u = 10 ∨ baseV base u = 16 := by
  unfold baseV
  split
  · split
    · rename_i h0
      unfold prefV at h0 ⊢
      split at h0
      · rename_i h1
        rw [if_pos h1]
        split at h0
        · rename_i h2; rw [if_pos h2]; simp
        · rename_i h2
          rw [if_neg h2]
          split at h0
          · rename_i h3; rw [if_pos h3]; simp
          · rename_i h3
            rw [if_neg h3]
            split at h0
            · rename_i h4; rw [if_pos h4]; simp
            · omega
      · omega
    · simp
  · omega
theorem NatV.nil (w : World) : NatV w none 0 0 0 := ⟨Nat.le_refl _, Or.inl ⟨rfl, rfl⟩, fun _ => 0, Or.inl rfl, fun i hi => by omega, Or.inl rfl, rfl⟩
theorem six_far {w wc : World} {ng : Bool} {b : Int} {a : Option Addr} {n c : Nat} {bh : Int} {V : Int} (h : RdC w ng b a n c bh wc) (hv : NatV wc a n c V) (hV : V ≠ 0) (wd : World) (k : Chg (zRow w.heap.size 0 6) wc wd) : NatV wd a n c V := by
  have hn : 0 < n := by
    rcases Nat.eq_zero_or_pos n with h0 | h0
    · exact absurd (hv.zero.1 h0) hV
    · exact h0
  obtain ⟨l1, hz, X, hr, hX, hN, hval⟩ := hv
  have hb : ∀ b2 o2, a = some ⟨b2, o2, none⟩ → b2 ≠ w.heap.size := by
    rintro b2 o2 rfl rfl
    rcases hr with h0 | ⟨b3, o3, e, hw⟩
    · omega
    · injection e with e
      injection e with e1 e2; subst e1; subst e2; have hc := hw (n - 1) (by omega); obtain ⟨_, ⟨g0, g1, g2, g3, g4, g5, _⟩, g6, _⟩ := h
      have hx : X (n - 1) = 0 := by
        obtain ⟨i, hi⟩ : ∃ i, o2 + (n - 1) = i := ⟨_, rfl⟩; rw [hi] at hc
        by_cases h6 : 6 ≤ i
        · rw [g6.none h6] at hc; cases hc
        · obtain rfl | rfl | rfl | rfl | rfl | rfl : i = 0 ∨ i = 1 ∨ i = 2 ∨ i = 3 ∨ i = 4 ∨ i = 5 := by omega
          · rw [g0] at hc; cases hc
          · rw [g1] at hc; injection hc with hc; injection hc with _ hc; exact hc.symm
          · rw [g2] at hc; cases hc
          · rw [g3] at hc; injection hc with hc; injection hc with _ hc; exact hc.symm
          · rw [g4] at hc; injection hc with hc; injection hc with _ hc; exact hc.symm
          · rw [g5] at hc; cases hc
      rcases hN with hN | hN
      · omega
      · exact hN hx
  refine ⟨l1, hz.chg k ?_, X, hr.chg k ?_, hX, hN, hval⟩
  · rintro b' o ⟨po, e, _⟩ hh
    exact hb b' po e hh.1
  · intro b' o i e _ hh
    exact hb b' o e hh.1
theorem rd_step {w wc wv : World} {ng : Bool} {b : Int} {a av : Option Addr} {n c nv cv : Nat} {bh : Int} (h : RdC w ng b a n c bh wc) (k : Chg zNone wc wv) : RdC w ng b av nv cv bh (wv.setCell ⟨w.heap.size + 1, 2, none⟩ (.slice av nv cv)) :=
  ⟨(h.far k).1.setMt av nv cv, (h.far k).set 2 _⟩
theorem rd_step2 {w wc wv : World} {ng : Bool} {b : Int} {a av : Option Addr} {n c nv cv : Nat} {bh : Int} (h : RdC w ng b a n c bh wc) (k : Chg zNone wc wv) (bh' : Int) : RdC w ng b av nv cv bh' ((wv.setCell ⟨w.heap.size + 1, 2, none⟩ (.slice av nv cv)).setCell ⟨w.heap.size + 1, 3, none⟩ (.int .i64 bh')) :=
  ⟨(rd_step h k).1.setBh bh', (rd_step h k).set 3 _⟩
set_option maxHeartbeats 4000000 in
theorem read_any (s : ByteArray) (base : Int) (w : World) (hs : s.size ≤ 60) (hbase : base = 0 ∨ base = 2 ∨ base = 8 ∨ base = 10 ∨ base = 16) :
    Calls Tryz.prog 29 #[.string s, .int .i64 base] w (ReadP w s base) := by
  have HC0 := Lib.hid (RdC.base w base)
  go_enter Tryz.func29, Tryz.ntmps29
  go_upto_region 2 with fail; obtain ⟨wA, hwA⟩ : ∃ wA, wA = (w.alloc (.cells #[.bool false, .int .i64 0, .slice none 0 0, .int .i64 0, .int .i64 0, .bool false] 61)).alloc (.cells #[.bool false, .int .i64 base, .slice none 0 0, .int .i64 0, .int .i64 0, .bool false] 61) := ⟨_, rfl⟩; rw [← hwA] at HC0 ⊢; clear hwA; go_cut [24] (fun s24 wd => (∃ sp, s24 = .bool sp ∧ Hid (sp = true ↔ (0 < s.size ∧ (byteAt s 0 = 45 ∨ byteAt s 0 = 43)))) ∧ wA = wd)
  case first => as_aux_lemma =>
    by_cases z0 : 0 < s.size
    · have g1 : decide ((0 : Int) < (s.size : Int)) = true := by simp; omega
      have g2 : (0 : Int) < (s.size : Int) := by omega
      have e1 := byteAt_eq s 0 z0
      by_cases z1 : byteAt s 0 = 45
      · have z1' : (byteAt s 0 == 45) = true := by simp [z1]
        have HR := Lib.hid (show 0 < s.size ∧ (byteAt s 0 = 45 ∨ byteAt s 0 = 43) from ⟨z0, Or.inl z1⟩); rw [← e1] at z1'; clear z1 e1; go_wp2
        all_goals (go_meet; exact ⟨⟨true, rfl, ⟨fun _ => HR.out, fun _ => rfl⟩⟩, rfl⟩)
      · have z1' : (byteAt s 0 == 45) = false := by simp [z1]
        by_cases z2 : byteAt s 0 = 43
        · have z2' : (byteAt s 0 == 43) = true := by simp [z2]
          have HR := Lib.hid (show 0 < s.size ∧ (byteAt s 0 = 45 ∨ byteAt s 0 = 43) from ⟨z0, Or.inr z2⟩); rw [← e1] at z1' z2'; clear z1 z2 e1; go_wp2
          all_goals (go_meet; exact ⟨⟨true, rfl, ⟨fun _ => HR.out, fun _ => rfl⟩⟩, rfl⟩)
        · have z2' : (byteAt s 0 == 43) = false := by simp [z2]
          have HR := Lib.hid (show ¬ (0 < s.size ∧ (byteAt s 0 = 45 ∨ byteAt s 0 = 43)) from fun hh => hh.2.elim z1 z2); rw [← e1] at z1' z2'; clear z1 z2 e1; go_wp2
          all_goals (go_meet; exact ⟨⟨false, rfl, ⟨(fun h => by cases h), fun h => absurd h HR.out⟩⟩, rfl⟩)
    · have g1 : decide ((0 : Int) < (s.size : Int)) = false := decide_eq_false (by omega)
      have g2 : ((s.size : Int) == 0) = true := beq_iff_eq.2 (by omega); go_wp2
      all_goals (go_meet; exact ⟨⟨false, rfl, ⟨(fun h => by cases h), fun h => absurd h.1 z0⟩⟩, rfl⟩)
  obtain ⟨⟨sp, rfl, HSP⟩, rfl⟩ := hcut; go_upto_if 24 with fail; go_cut [0] (fun s0 wc => ∃ sg u, s0 = .string u ∧ u.size ≤ s.size ∧ Hid (SignSays s u sg ∧ RdC w sg base none 0 0 0 wc))
  case first => as_aux_lemma =>
    cases sp with
    | true =>
      have hr := HSP.out.1 rfl; have h0 := hr.1; have f3 : (1 : Int) ≤ (s.size : Int) := by omega
      have f4 : (0 : Int) ≤ (1 : Int) := by omega
      have g2 : (0 : Int) < (s.size : Int) := by omega
      have e1 := byteAt_eq s 0 h0; have i0 := HC0.out.1.ng; have i0z := HC0.out.1.pb.fz 0; have HR := Lib.hid hr; have hT := (Tail.cut (k := 1) s h0).sz; have HT := Lib.hid (show (s.extract 1 s.size).size ≤ s.size by omega); clear hr hT
      by_cases z1 : byteAt s 0 = 45
      · have z1' : (byteAt s 0 == 45) = true := by simp [z1]
        have HZ := Lib.hid z1; rw [← e1] at z1'; clear z1 e1; go_wp2; go_meet; exact ⟨true, _, rfl, HT.out, Or.inl ⟨HR.out.1, HZ.out, rfl, rfl⟩, HC0.out.1.setNg true, HC0.out.set 0 _⟩
      · have z1' : (byteAt s 0 == 45) = false := by simp [z1]
        have HZ := Lib.hid z1; rw [← e1] at z1'; clear z1 e1; go_wp2; go_meet; exact ⟨false, _, rfl, HT.out, Or.inr (Or.inl ⟨HR.out.1, HR.out.2.resolve_left HZ.out, rfl, rfl⟩), HC0.out.1.setNg false, HC0.out.set 0 _⟩
    | false =>
      go_wp2; go_meet; refine ⟨false, s, rfl, Nat.le_refl _, Or.inr (Or.inr ⟨fun h => ⟨fun hh => ?_, fun hh => ?_⟩, rfl, rfl⟩), HC0.out⟩
      · have := HSP.out.2 ⟨h, Or.inl hh⟩; cases this
      · have := HSP.out.2 ⟨h, Or.inr hh⟩; cases this
  obtain ⟨sg, u, rfl, hus, HU⟩ := hcut; obtain ⟨hsg, hT1⟩ := signAt_tail HU.out.1; obtain ⟨pk0, hpk, hrun, hpb, hpf, hpn⟩ := pre_run (base := base) hT1; have HPR := Lib.hid (And.intro hsg (And.intro hT1 (And.intro hpk (And.intro hrun (And.intro hpb (And.intro hpf hpn)))))); clear hsg hT1 hpk hrun hpb hpf hpn HC0 HSP; go_upto_region 5 with fail; go_cut [32] (fun s32 wd => s32 = .bool (base == 0) ∧ wc = wd)
  case first => as_aux_lemma =>
    go_wp2; go_meet; exact ⟨rfl, rfl⟩
  obtain ⟨rfl, rfl⟩ := hcut; go_upto_if 32 with fail; go_cut [0] (fun s0 wd => ∃ u2, s0 = .string u2 ∧ u2.size ≤ s.size ∧ Hid (Tail u (preN base u) u2 ∧ RdC w sg (baseV base u) none 0 0 0 wd))
  case first => as_aux_lemma =>
    by_cases hb : base = 0
    · subst hb
      have HP := Lib.hid (prefix_any u wc (by omega)); have i1 := HU.out.2.1.b; have i1z := HU.out.2.1.pb.fz 1; go_wp2_with fail; refine HP.out.mono ?_; rintro e w1 ⟨rfl, hw1⟩; subst hw1; obtain ⟨pv, hpv⟩ : ∃ pv, prefV u = pv := ⟨_, rfl⟩; rw [hpv]; have hR1 : RdC w sg pv none 0 0 0 (wc.setCell ⟨w.heap.size + 1, 1, none⟩ (.int .i64 pv)) := ⟨HU.out.2.1.setB pv, HU.out.2.set 1 _⟩; have HR1 := Lib.hid hR1; have j1 := hR1.1.b; have j1z := hR1.1.pb.fz 1; have HPV := Lib.hid hpv; clear hR1 hpv
      by_cases h0 : 0 < pv
      · have d1 : decide (0 < pv) = true := decide_eq_true h0
        have hpn : preN 0 u = 2 := by unfold preN; rw [HPV.out, if_pos ⟨rfl, h0⟩]
        have h2 : 2 ≤ u.size := by have := HPR.out.2.2.2.2.2.2; rw [hpn] at this; exact this
        have f3 : (2 : Int) ≤ (u.size : Int) := by omega
        have f4 : (0 : Int) ≤ (2 : Int) := by omega
        have HN := Lib.hid (And.intro hpn (And.intro h2 h0)); clear hpn h0; go_wp2; go_meet; refine ⟨_, rfl, by have := (Tail.cut (k := 2) u h2).sz; omega, by rw [HN.out.1]; exact Tail.cut u h2, ?_⟩; have e : baseV 0 u = pv := by unfold baseV; rw [if_pos rfl, HPV.out, if_pos HN.out.2.2]
        rw [e]; exact HR1.out
      · have d1 : decide (0 < pv) = false := decide_eq_false h0
        have hpn : preN 0 u = 0 := by unfold preN; rw [HPV.out, if_neg (fun hh => h0 hh.2)]
        have HN := Lib.hid (And.intro hpn h0); clear hpn h0; go_wp2; go_meet; refine ⟨_, rfl, by omega, by rw [HN.out.1]; exact Tail.refl u, ?_⟩; have e : baseV 0 u = 10 := by unfold baseV; rw [if_pos rfl, HPV.out, if_neg (by have := HN.out.2; omega)]
        rw [e]; exact ⟨HR1.out.1.setB 10, HR1.out.set 1 _⟩
    · have d1 : (base == 0) = false := by simp [hb]
      have e1 : baseV base u = base := by unfold baseV; rw [if_neg hb]
      have e2 : preN base u = 0 := by unfold preN; rw [if_neg (fun hh => hb hh.1)]
      have HE := Lib.hid (And.intro e1 e2); clear e1 e2 hb; go_wp2; go_meet; exact ⟨u, rfl, by omega, by rw [HE.out.2]; exact Tail.refl u, by rw [HE.out.1]; exact HU.out.2⟩
  obtain ⟨u2, rfl, hu2, HT2⟩ := hcut; have hb4 : baseV base u = 2 ∨ baseV base u = 8 ∨ baseV base u = 10 ∨ baseV base u = 16 := base_four hbase; obtain ⟨b, hb⟩ : ∃ b, baseV base u = b := ⟨_, rfl⟩; rw [hb] at HPR HT2 hb4; obtain ⟨p, hp⟩ : ∃ p, (signAt s 0).2 + preN base u = p := ⟨_, rfl⟩; have hTail : Tail s p u2 := by rw [← hp]; exact HPR.out.2.1.trans HT2.out.1
  have HTA := Lib.hid (And.intro hTail (And.intro hp hb)); clear hTail hp hb; go_wp2_with fail
  go_loopg [7, 8, 9] u2.size (RLRel w s u2 base sg b p pk0)
  case atStart => exact ⟨0, 0, 0, false, none, 0, 0, 0, rfl, rfl, rfl, by omega, by omega, by omega, by omega, RunAt.start HPR.out.2.2.1, NatV.nil _, by simp, HT2.out.2⟩
  case round =>
    obtain ⟨n, k, bh, pt, am, nm, cm, V, rfl, rfl, rfl, hk, hnk, hbn, hmn, HL⟩ := hrel; obtain ⟨cc, hcc⟩ : ∃ c, byteAt u2 k = c := ⟨_, rfl⟩; have hcr := byteAt_range u2 k; rw [hcc] at hcr; obtain ⟨hc0, hc1⟩ := hcr; have HCC := Lib.hid hcc; obtain ⟨i0, i1, i2, i3, i4, i5, ip⟩ := HL.out.2.2.2.1; obtain ⟨f, hf⟩ : ∃ f, figV cc b = f := ⟨_, rfl⟩; have HFg : Hid (∀ q, Calls Tryz.prog 61 #[.int .u8 cc, .int .i64 b] (wr.drewN q) fun e w' => e = .returned (.int .i64 f) ∧ w' = wr.drewN q) := fun q => (figure_any cc b (wr.drewN q) hc0 hc1).mono (fun e w' h => ⟨by rw [← hf]; exact h.1, h.2.symm⟩)
    have HF := Lib.hid hf; have k0 : (0 : Int) ≤ (k : Int) := by omega
    clear hcc hf; go_upto_region 11 with fail; go_cut [64] (fun s64 wd => (∃ T, s64 = .bool T ∧ Hid (T = true ↔ (k < u2.size ∧ (0 ≤ f ∨ (cc = 46 ∧ pt = false))))) ∧ ∃ q, wd = wr.drewN q)
    case first => as_aux_lemma =>
      by_cases hku : k < u2.size
      · have g1 : decide ((k : Int) < (u2.size : Int)) = true := by simp; omega
        have g3 : (k : Int) < (u2.size : Int) := by omega
        have ek := byteAt_eq u2 k hku; rw [HCC.out] at ek; rw [← ek] at HFg
        by_cases hf0 : 0 ≤ f
        · have d1 : decide (0 ≤ f) = true := decide_eq_true hf0
          have HR := Lib.hid (show k < u2.size ∧ (0 ≤ f ∨ (cc = 46 ∧ pt = false)) from ⟨hku, Or.inl hf0⟩); clear hf0 ek; go_wp2
          go_quiet ((go_at_call 61; with_reducible exact Calls.quiet_of_same (HFg.out _)))
          all_goals (try go_wp2)
          all_goals (go_meet; exact ⟨⟨true, rfl, ⟨fun _ => HR.out, fun _ => rfl⟩⟩, by (try simp only [World.drewN_drewN]); exact ⟨_, rfl⟩⟩)
        · have d1 : decide (0 ≤ f) = false := decide_eq_false hf0
          by_cases h46 : cc = 46
          · have z1 : (cc == 46) = true := by simp [h46]
            rw [← ek] at z1
            cases pt with
            | false =>
              have HR := Lib.hid (show k < u2.size ∧ (0 ≤ f ∨ (cc = 46 ∧ (false : Bool) = false)) from ⟨hku, Or.inr ⟨h46, rfl⟩⟩); clear hf0 ek h46; go_wp2
              go_quiet ((go_at_call 61; with_reducible exact Calls.quiet_of_same (HFg.out _)))
              all_goals (try go_wp2)
              all_goals (go_meet; exact ⟨⟨true, rfl, ⟨fun _ => HR.out, fun _ => rfl⟩⟩, by (try simp only [World.drewN_drewN]); exact ⟨_, rfl⟩⟩)
            | true =>
              have HR := Lib.hid (show ¬ (k < u2.size ∧ (0 ≤ f ∨ (cc = 46 ∧ (true : Bool) = false))) from fun hh => by rcases hh.2 with h | h; exact hf0 h; cases h.2); clear hf0 ek h46; go_wp2
              go_quiet ((go_at_call 61; with_reducible exact Calls.quiet_of_same (HFg.out _)))
              all_goals (try go_wp2)
              all_goals (go_meet; exact ⟨⟨false, rfl, ⟨(fun h => by cases h), fun h => absurd h HR.out⟩⟩, by (try simp only [World.drewN_drewN]); exact ⟨_, rfl⟩⟩)
          · have z1 : (cc == 46) = false := by simp [h46]
            rw [← ek] at z1; have HR := Lib.hid (show ¬ (k < u2.size ∧ (0 ≤ f ∨ (cc = 46 ∧ pt = false))) from fun hh => by rcases hh.2 with h | h; exact hf0 h; exact h46 h.1); clear hf0 ek h46; go_wp2
            go_quiet ((go_at_call 61; with_reducible exact Calls.quiet_of_same (HFg.out _)))
            all_goals (try go_wp2)
            all_goals (go_meet; exact ⟨⟨false, rfl, ⟨(fun h => by cases h), fun h => absurd h HR.out⟩⟩, by (try simp only [World.drewN_drewN]); exact ⟨_, rfl⟩⟩)
      · have g1 : decide ((k : Int) < (u2.size : Int)) = false := decide_eq_false (by omega)
        have HR := Lib.hid (show ¬ (k < u2.size ∧ (0 ≤ f ∨ (cc = 46 ∧ pt = false))) from fun hh => hku hh.1); go_wp2
        go_quiet (fail)
        all_goals (try go_wp2)
        all_goals (go_meet; exact ⟨⟨false, rfl, ⟨(fun h => by cases h), fun h => absurd h HR.out⟩⟩, by (try simp only [World.drewN_drewN]); exact ⟨_, rfl⟩⟩)
    case rest => as_aux_lemma =>
      obtain ⟨⟨T, rfl, HT⟩, q, hq⟩ := hcut
      have HLc : Hid (RunAt s base b p pk0 k n bh pt V ∧ NatV wc am nm cm V ∧ V < 16 ^ n ∧ RdC w sg b am nm cm bh wc) := by
        have kd : Chg zNone wr wc := by rw [hq]; exact (Chg.refl _ _).drewN q
        exact ⟨HL.out.1, HL.out.2.1.far kd, HL.out.2.2.1, HL.out.2.2.2.far kd⟩
      clear hq HL HFg i0 i1 i2 i3 i4 i5 ip; obtain ⟨i0, i1, i2, i3, i4, i5, ip⟩ := HLc.out.2.2.2.1; have i2z := ip.fz 2; have i3z := ip.fz 3; clear ip
      cases T with
      | true =>
        obtain ⟨hku, hor⟩ := HT.out.1 rfl; have HGK := Lib.hid (show 0 < gk by omega); have g3 : (k : Int) < (u2.size : Int) := by omega
        have ek := byteAt_eq u2 k hku; rw [HCC.out] at ek; have hps : p + k < s.size := by have := HTA.out.1.sz; have := HTA.out.1.le; omega
        have hpc : byteAt s (p + k) = cc := by rw [← HTA.out.1.at_, HCC.out]
        by_cases h46 : cc = 46
        · have hpt : pt = false := by
            rcases hor with h | h
            · exfalso
              rw [← HF.out, h46] at h; exact absurd h (by unfold figV; simp)
            · exact h.2
          subst hpt; have HR := Lib.hid (HLc.out.1.point hps (by rw [hpc]; exact h46)); have z1 : (cc == 46) = true := by simp [h46]
          rw [← ek] at z1; clear hor h46 ek hpc hps
          as_aux_lemma =>
            go_wp2; go_roundg (gk - 1)
            case measure => omega
            case rel => exact ⟨n, k + 1, bh, true, am, nm, cm, V, rfl, rfl, by go_num, by omega, by omega, by omega, by omega, HR.out, HLc.out.2⟩
        · have hf0 : 0 ≤ f := by
            rcases hor with h | h
            · exact h
            · exact absurd h.1 h46
          have HR := Lib.hid (HLc.out.1.figure hps (by rw [hpc, HF.out]; exact hf0)); rw [hpc, HF.out] at HR; obtain ⟨fr1, _, _, _, fr2⟩ := fig_range (c := cc) (b := b) (by rw [HF.out]; exact hf0); rw [HF.out] at fr1 fr2; have z1 : (cc == 46) = false := by simp [h46]
          have hfn : ((f.toNat : Nat) : Int) = f := by omega
          have hbn : ((b.toNat : Nat) : Int) = b := by omega
          obtain ⟨fN, hfN⟩ : ∃ fN : Nat, f = (fN : Int) := ⟨f.toNat, by omega⟩; obtain ⟨bN, hbN⟩ : ∃ bN : Nat, b = (bN : Int) := ⟨b.toNat, by omega⟩; have HZ := Lib.hid (And.intro hfN hbN); rw [← ek] at z1; clear hor h46 hpc hps hfn hbn; have hv1 : nm ≤ 60 := by omega
          have HB : Hid (∀ W, Calls Tryz.prog 21 #[.int .i64 b] W (NRes W b)) := fun W => by rw [hbN]; exact small_any bN W (by omega)
          have HFi : Hid (∀ W, Calls Tryz.prog 21 #[.int .i64 f] W (NRes W f)) := fun W => by rw [hfN]; exact small_any fN W (by omega)
          have HMu : Hid (∀ W ab nb cb, NatV W ab nb cb b → Chg zNone wc W → Calls Tryz.prog 25 #[.slice am nm cm, .slice ab nb cb] W (NRes W (V * b))) := fun W ab nb cb h k =>
            mul_any am ab nm cm nb cb V b W (HLc.out.2.1.far k) h (by omega) (by have := h.len (k := 1) (by rw [Int.pow_one]; unfold SB; omega); omega)
          have hVb : V * b + f < 16 ^ (n + 1) := by
            have h1 := HLc.out.2.2.1; have h2 : 0 ≤ V := HLc.out.2.1.nonneg; rw [Int.pow_succ]; have h3 : V * b ≤ V * 16 := Int.mul_le_mul_of_nonneg_left (by omega) h2
            by_cases hb16 : b = 16
            · rw [hb16]; omega
            · have h4 : V * b ≤ V * 10 := Int.mul_le_mul_of_nonneg_left (by omega) h2
              omega
          have hV16 : V * b + f < SB ^ (n + 1) := Int.lt_of_lt_of_le hVb (pow_le_SB (b := 16) (by decide) (n + 1)); have HVB := Lib.hid (And.intro hVb hV16)
          have HAd : Hid (∀ W a1 n1 c1 a2 n2 c2, NatV W a1 n1 c1 (V * b) → NatV W a2 n2 c2 f → Calls Tryz.prog 57 #[.slice a1 n1 c1, .slice a2 n2 c2] W (NResF W (V * b + f))) := fun W a1 n1 c1 a2 n2 c2 h1 h2 =>
            add_fresh a1 a2 n1 c1 n2 c2 _ _ W h1 h2 (by have := h1.len (k := n + 1) (by have := HVB.out.2; omega); omega) (by have := h2.len (k := 1) (by rw [Int.pow_one]; unfold SB; omega); omega)
          have HFg2 : Hid (∀ W, Calls Tryz.prog 61 #[.int .u8 (((u2[k]'hku).toNat : Nat) : Int), .int .i64 b] W fun e w' => e = .returned (.int .i64 f) ∧ w' = W) := fun W => by
            rw [ek]; exact (figure_any cc b W hc0 hc1).mono (fun e w' h => ⟨by rw [← HF.out]; exact h.1, h.2.symm⟩)
          have hS : wc.drew.cell? ⟨w.heap.size + 1, 1, none⟩ = some (.int .i64 b) := i1; have HC3 := Lib.hid i3; have HC2 := Lib.hid i2; clear hVb hV16 ek hfN hbN i0 i3 i4 i5
          as_aux_lemma =>
            go_upto_region 14 with fail; go_wp2_with fail; refine wp_region_noPanic ?_; refine wp_region_held (S := (fun W => W.cell? ⟨w.heap.size + 1, 1, none⟩ = some (.int .i64 b))) (by kernel_rfl) ?_; change wpAnyH _ _ _ _ _ _ _ _ (World.drew _); refine wpAnyH_take (i := 0) (v := ?_) rfl (by kernel_rfl) (by kernel_rfl) (by kernel_rfl) (fun _ _ _ h => False.elim h) (Or.inl ⟨by rfl, ?_⟩) hS ?_; rotate_left 1
            · intro w9 h9
              go_simp; (try with_reducible rfl)
            (try simp only [Act.put, List.getElem_toArray, List.getElem_cons_zero, List.getElem_cons_succ, List.setIfInBounds_toArray, List.set_cons_zero, List.set_cons_succ]); refine wpAnyH_take (i := 2) (v := ?_) rfl (by kernel_rfl) (by kernel_rfl) (by kernel_rfl) (fun _ _ _ h => False.elim h) (Or.inl ⟨by rfl, ?_⟩) hS ?_; rotate_left 1
            · intro w9 h9
              go_simp; (try with_reducible rfl)
            (try simp only [Act.put, List.getElem_toArray, List.getElem_cons_zero, List.getElem_cons_succ, List.setIfInBounds_toArray, List.set_cons_zero, List.set_cons_succ]); refine wpAnyH_take (i := 3) (v := ?_) rfl (by kernel_rfl) (by kernel_rfl) (by kernel_rfl) (fun _ _ _ h => False.elim h) (Or.inl ⟨by rfl, ?_⟩) hS ?_; rotate_left 1
            · intro w9 h9
              have h1 : w9.cell? ⟨w.heap.size + 1, 1, none⟩ = some (.int .i64 b) := h9; go_simp; (try with_reducible rfl)
            (try simp only [Act.put, List.getElem_toArray, List.getElem_cons_zero, List.getElem_cons_succ, List.setIfInBounds_toArray, List.set_cons_zero, List.set_cons_succ]); refine wpAnyH_take (i := 6) (v := ?_) rfl (by kernel_rfl) (by kernel_rfl) (by kernel_rfl) (fun _ _ _ h => False.elim h) (Or.inl ⟨by rfl, ?_⟩) hS ?_; rotate_left 1
            · intro w9 h9
              go_simp; (try with_reducible rfl)
            (try simp only [Act.put, List.getElem_toArray, List.getElem_cons_zero, List.getElem_cons_succ, List.setIfInBounds_toArray, List.set_cons_zero, List.set_cons_succ]); refine wpAnyH_take (i := 7) (v := ?_) rfl (by kernel_rfl) (by kernel_rfl) (by kernel_rfl) (fun _ _ _ h => False.elim h) (Or.inl ⟨by rfl, ?_⟩) hS ?_; rotate_left 1
            · intro w9 h9
              go_simp; (try with_reducible rfl)
            (try simp only [Act.put, List.getElem_toArray, List.getElem_cons_zero, List.getElem_cons_succ, List.setIfInBounds_toArray, List.set_cons_zero, List.set_cons_succ]); refine wpAnyH_take (i := 8) (v := ?_) rfl (by kernel_rfl) (by kernel_rfl) (by kernel_rfl) (fun _ _ _ h => False.elim h) (Or.inl ⟨by rfl, ?_⟩) hS ?_; rotate_left 1
            · intro w9 h9
              go_simp; (try with_reducible rfl)
            (try simp only [Act.put, List.getElem_toArray, List.getElem_cons_zero, List.getElem_cons_succ, List.setIfInBounds_toArray, List.set_cons_zero, List.set_cons_succ]); refine wpAnyH_take (i := 9) (v := ?_) rfl (by kernel_rfl) (by kernel_rfl) (by kernel_rfl) (fun _ _ _ h => False.elim h) (Or.inl ⟨by rfl, ?_⟩) hS ?_; rotate_left 1
            · intro w9 h9
              go_simp; (try with_reducible rfl)
            (try simp only [Act.put, List.getElem_toArray, List.getElem_cons_zero, List.getElem_cons_succ, List.setIfInBounds_toArray, List.set_cons_zero, List.set_cons_succ]); refine wpAnyH_take (i := 10) (v := ?_) rfl (by kernel_rfl) (by kernel_rfl) (by kernel_rfl) (fun _ _ _ h => False.elim h) (Or.inl ⟨by rfl, ?_⟩) hS ?_; rotate_left 1
            · intro w9 h9
              have h1 : w9.cell? ⟨w.heap.size + 1, 1, none⟩ = some (.int .i64 b) := h9; go_simp; (try with_reducible rfl)
            (try simp only [Act.put, List.getElem_toArray, List.getElem_cons_zero, List.getElem_cons_succ, List.setIfInBounds_toArray, List.set_cons_zero, List.set_cons_succ]); refine wpAnyH_ready (rs := [1, 4]) (by kernel_rfl) (by simp) ?_; refine HReady.cons rfl (fun K hK => ?_) (HReady.cons rfl (fun K hK => ?_) HReady.nil)
            · skip
              go_simp; refine hK _ _ ⟨hS, ?_⟩; clear hK K; (try simp only [Act.put, List.getElem_toArray, List.getElem_cons_zero, List.getElem_cons_succ, List.setIfInBounds_toArray, List.set_cons_zero, List.set_cons_succ]); refine wpAnyH_ready (rs := [4]) (by kernel_rfl) (by simp) ?_; refine HReady.cons rfl (fun K hK => ?_) HReady.nil; go_simp; go_wp2_with (go_at_call 21; go_loud (refine (HB.out wc.drew).mono ?_; rintro e wx ⟨ab, nb, cb, rfl, g1, g2⟩; have hS : wx.cell? ⟨w.heap.size + 1, 1, none⟩ = some (.int .i64 b) := g2.base_drew.cell i1 (fun h => h); have i2 : wx.cell? ⟨w.heap.size + 1, 2, none⟩ = some (.slice am nm cm) := g2.base_drew.cell i2 (fun h => h); have HF9 := Lib.hid (And.intro g1 g2.base_drew); clear g1 g2)); refine ⟨hS, ?_⟩; (try simp only [Act.put, List.getElem_toArray, List.getElem_cons_zero, List.getElem_cons_succ, List.setIfInBounds_toArray, List.set_cons_zero, List.set_cons_succ]); refine wpAnyH_ready (rs := [5]) (by kernel_rfl) (by simp) ?_; refine HReady.cons rfl (fun K hK => ?_) HReady.nil; go_simp; go_wp2_with (go_at_call 25; go_loud (refine (HMu.out wx ab nb cb HF9.out.1 HF9.out.2).mono ?_; rintro e wy ⟨ay, ny, cy, rfl, g1, g2⟩; have hS : wy.cell? ⟨w.heap.size + 1, 1, none⟩ = some (.int .i64 b) := g2.cell hS (fun h => h); have HG := Lib.hid (And.intro g1 (HF9.out.2.trans g2 (fun _ _ _ h => h))); clear g1 g2)); refine ⟨hS, ?_⟩; (try simp only [Act.put, List.getElem_toArray, List.getElem_cons_zero, List.getElem_cons_succ, List.setIfInBounds_toArray, List.set_cons_zero, List.set_cons_succ]); refine wpAnyH_ready (rs := [11]) (by kernel_rfl) (by simp) ?_; refine HReady.cons rfl (fun K hK => ?_) HReady.nil; go_simp; go_wp2_with (go_at_call 61; go_loud (refine (HFg2.out wy).mono ?_; rintro e wz ⟨rfl, hwz⟩; subst hwz)); refine ⟨hS, ?_⟩; (try simp only [Act.put, List.getElem_toArray, List.getElem_cons_zero, List.getElem_cons_succ, List.setIfInBounds_toArray, List.set_cons_zero, List.set_cons_succ]); refine wpAnyH_ready (rs := [12]) (by kernel_rfl) (by simp) ?_; refine HReady.cons rfl (fun K hK => ?_) HReady.nil; go_simp; go_wp2_with (go_at_call 21; go_loud (refine (HFi.out wz).mono ?_; rintro e wu ⟨az, nz, cz, rfl, g1, g2⟩; have hS : wu.cell? ⟨w.heap.size + 1, 1, none⟩ = some (.int .i64 b) := g2.cell hS (fun h => h); have HH := Lib.hid (And.intro (HG.out.1.far g2) (And.intro g1 (HG.out.2.trans g2 (fun _ _ _ h => h)))); clear g1 g2)); refine ⟨hS, ?_⟩; (try simp only [Act.put, List.getElem_toArray, List.getElem_cons_zero, List.getElem_cons_succ, List.setIfInBounds_toArray, List.set_cons_zero, List.set_cons_succ]); refine wpAnyH_ready (rs := [13]) (by kernel_rfl) (by simp) ?_; refine HReady.cons rfl (fun K hK => ?_) HReady.nil; go_simp; go_wp2_with (go_at_call 57; go_loud (refine (HAd.out wu ay ny cy az nz cz HH.out.1 HH.out.2.1).mono ?_; rintro e wv ⟨av, nv, cv, rfl, g1, g2, g3⟩; have hS : wv.cell? ⟨w.heap.size + 1, 1, none⟩ = some (.int .i64 b) := g2.cell hS (fun h => h); have hnv : nv ≤ n + 1 := g1.len HVB.out.2; have i2 : wv.cell? ⟨w.heap.size + 1, 2, none⟩ = some (.slice am nm cm) := (HH.out.2.2.trans g2 (fun _ _ _ h => h)).cell (w := wc) HC2.out (fun h => h); have i3 : wv.cell? ⟨w.heap.size + 1, 3, none⟩ = some (.int .i64 (bh : Int)) := (HH.out.2.2.trans g2 (fun _ _ _ h => h)).cell (w := wc) HC3.out (fun h => h); have i2z : wv.frozen? ⟨w.heap.size + 1, 2, none⟩ = false := (HLc.out.2.2.2.1.pb.chg (HH.out.2.2.trans g2 (fun _ _ _ h => h))).fz 2; have i3z : wv.frozen? ⟨w.heap.size + 1, 3, none⟩ = false := (HLc.out.2.2.2.1.pb.chg (HH.out.2.2.trans g2 (fun _ _ _ h => h))).fz 3; have HI := Lib.hid (And.intro g1 (And.intro (HH.out.2.2.trans g2 (fun _ _ _ h => h)) (fresh_in (HH.out.2.2.trans g2 (fun _ _ _ h => h)) HH.out.2.2 g3))); clear g1 g2 g3)); refine ⟨hS, ?_⟩; (try simp only [Act.put, List.getElem_toArray, List.getElem_cons_zero, List.getElem_cons_succ, List.setIfInBounds_toArray, List.set_cons_zero, List.set_cons_succ]); refine wpAnyH_take (i := 14) (v := ?_) rfl (by kernel_rfl) (by kernel_rfl) (by kernel_rfl) (fun _ _ _ h => False.elim h) (Or.inl ⟨by rfl, ?_⟩) hS ?_; rotate_left 1
              · intro w9 h9
                go_simp; (try with_reducible rfl)
              (try simp only [Act.put, List.getElem_toArray, List.getElem_cons_zero, List.getElem_cons_succ, List.setIfInBounds_toArray, List.set_cons_zero, List.set_cons_succ]); refine wpAnyH_ready (rs := [15]) (by kernel_rfl) (by simp) ?_; refine HReady.cons rfl (fun K hK => ?_) HReady.nil; go_simp; have hS2 := show (World.setCell wv ⟨w.heap.size + 1, 2, none⟩ (.slice av nv cv)).cell? ⟨w.heap.size + 1, 1, none⟩ = some (.int .i64 b) from (cs_other (by omega)).trans hS; refine hK _ _ ⟨hS2, ?_⟩; clear hK K hS; have hS := hS2; (try simp only [Act.put, List.getElem_toArray, List.getElem_cons_zero, List.getElem_cons_succ, List.setIfInBounds_toArray, List.set_cons_zero, List.set_cons_succ]); refine wpAnyH_done (by kernel_rfl) ?_ _; refine NoPanic.normal ?_; have HDone := Lib.hid (And.intro HI.out (And.intro HR.out HVB.out))
              cases pt with
              | true =>
                go_wp2; go_roundg (gk - 1)
                case measure => have := HGK.out; omega
                case rel => exact ⟨n + 1, k + 1, bh + 1, true, av, nv, cv, V * b + f, by go_num, rfl, by go_num, by omega, by omega, by omega, hnv, HDone.out.2.1, (HI.out.1.fresh_set HI.out.2.2 HLc.out.2.2.2.1.pb.lt 2 _).fresh_set HI.out.2.2 HLc.out.2.2.2.1.pb.lt 3 _, HVB.out.1, rd_step2 HLc.out.2.2.2 HI.out.2.1 _⟩
              | false =>
                go_wp2; go_roundg (gk - 1)
                case measure => have := HGK.out; omega
                case rel => exact ⟨n + 1, k + 1, bh, false, av, nv, cv, V * b + f, by go_num, rfl, by go_num, by omega, by omega, by omega, hnv, HDone.out.2.1, HI.out.1.fresh_set HI.out.2.2 HLc.out.2.2.2.1.pb.lt 2 _, HVB.out.1, rd_step HLc.out.2.2.2 HI.out.2.1⟩
            · skip
              go_simp; go_wp2_with (go_at_call 21; go_loud (refine (HB.out wc.drew).mono ?_; rintro e wx ⟨ab, nb, cb, rfl, g1, g2⟩; have hS : wx.cell? ⟨w.heap.size + 1, 1, none⟩ = some (.int .i64 b) := g2.base_drew.cell i1 (fun h => h); have i2 : wx.cell? ⟨w.heap.size + 1, 2, none⟩ = some (.slice am nm cm) := g2.base_drew.cell i2 (fun h => h); have HF9 := Lib.hid (And.intro g1 g2.base_drew); clear g1 g2)); refine ⟨hS, ?_⟩; (try simp only [Act.put, List.getElem_toArray, List.getElem_cons_zero, List.getElem_cons_succ, List.setIfInBounds_toArray, List.set_cons_zero, List.set_cons_succ]); refine wpAnyH_ready (rs := [1]) (by kernel_rfl) (by simp) ?_; refine HReady.cons rfl (fun K hK => ?_) HReady.nil; go_simp; refine hK _ _ ⟨hS, ?_⟩; clear hK K; (try simp only [Act.put, List.getElem_toArray, List.getElem_cons_zero, List.getElem_cons_succ, List.setIfInBounds_toArray, List.set_cons_zero, List.set_cons_succ]); refine wpAnyH_ready (rs := [5]) (by kernel_rfl) (by simp) ?_; refine HReady.cons rfl (fun K hK => ?_) HReady.nil; go_simp; go_wp2_with (go_at_call 25; go_loud (refine (HMu.out wx ab nb cb HF9.out.1 HF9.out.2).mono ?_; rintro e wy ⟨ay, ny, cy, rfl, g1, g2⟩; have hS : wy.cell? ⟨w.heap.size + 1, 1, none⟩ = some (.int .i64 b) := g2.cell hS (fun h => h); have HG := Lib.hid (And.intro g1 (HF9.out.2.trans g2 (fun _ _ _ h => h))); clear g1 g2)); refine ⟨hS, ?_⟩; (try simp only [Act.put, List.getElem_toArray, List.getElem_cons_zero, List.getElem_cons_succ, List.setIfInBounds_toArray, List.set_cons_zero, List.set_cons_succ]); refine wpAnyH_ready (rs := [11]) (by kernel_rfl) (by simp) ?_; refine HReady.cons rfl (fun K hK => ?_) HReady.nil; go_simp; go_wp2_with (go_at_call 61; go_loud (refine (HFg2.out wy).mono ?_; rintro e wz ⟨rfl, hwz⟩; subst hwz)); refine ⟨hS, ?_⟩; (try simp only [Act.put, List.getElem_toArray, List.getElem_cons_zero, List.getElem_cons_succ, List.setIfInBounds_toArray, List.set_cons_zero, List.set_cons_succ]); refine wpAnyH_ready (rs := [12]) (by kernel_rfl) (by simp) ?_; refine HReady.cons rfl (fun K hK => ?_) HReady.nil; go_simp; go_wp2_with (go_at_call 21; go_loud (refine (HFi.out wz).mono ?_; rintro e wu ⟨az, nz, cz, rfl, g1, g2⟩; have hS : wu.cell? ⟨w.heap.size + 1, 1, none⟩ = some (.int .i64 b) := g2.cell hS (fun h => h); have HH := Lib.hid (And.intro (HG.out.1.far g2) (And.intro g1 (HG.out.2.trans g2 (fun _ _ _ h => h)))); clear g1 g2)); refine ⟨hS, ?_⟩; (try simp only [Act.put, List.getElem_toArray, List.getElem_cons_zero, List.getElem_cons_succ, List.setIfInBounds_toArray, List.set_cons_zero, List.set_cons_succ]); refine wpAnyH_ready (rs := [13]) (by kernel_rfl) (by simp) ?_; refine HReady.cons rfl (fun K hK => ?_) HReady.nil; go_simp; go_wp2_with (go_at_call 57; go_loud (refine (HAd.out wu ay ny cy az nz cz HH.out.1 HH.out.2.1).mono ?_; rintro e wv ⟨av, nv, cv, rfl, g1, g2, g3⟩; have hS : wv.cell? ⟨w.heap.size + 1, 1, none⟩ = some (.int .i64 b) := g2.cell hS (fun h => h); have hnv : nv ≤ n + 1 := g1.len HVB.out.2; have i2 : wv.cell? ⟨w.heap.size + 1, 2, none⟩ = some (.slice am nm cm) := (HH.out.2.2.trans g2 (fun _ _ _ h => h)).cell (w := wc) HC2.out (fun h => h); have i3 : wv.cell? ⟨w.heap.size + 1, 3, none⟩ = some (.int .i64 (bh : Int)) := (HH.out.2.2.trans g2 (fun _ _ _ h => h)).cell (w := wc) HC3.out (fun h => h); have i2z : wv.frozen? ⟨w.heap.size + 1, 2, none⟩ = false := (HLc.out.2.2.2.1.pb.chg (HH.out.2.2.trans g2 (fun _ _ _ h => h))).fz 2; have i3z : wv.frozen? ⟨w.heap.size + 1, 3, none⟩ = false := (HLc.out.2.2.2.1.pb.chg (HH.out.2.2.trans g2 (fun _ _ _ h => h))).fz 3; have HI := Lib.hid (And.intro g1 (And.intro (HH.out.2.2.trans g2 (fun _ _ _ h => h)) (fresh_in (HH.out.2.2.trans g2 (fun _ _ _ h => h)) HH.out.2.2 g3))); clear g1 g2 g3)); refine ⟨hS, ?_⟩; (try simp only [Act.put, List.getElem_toArray, List.getElem_cons_zero, List.getElem_cons_succ, List.setIfInBounds_toArray, List.set_cons_zero, List.set_cons_succ]); refine wpAnyH_take (i := 14) (v := ?_) rfl (by kernel_rfl) (by kernel_rfl) (by kernel_rfl) (fun _ _ _ h => False.elim h) (Or.inl ⟨by rfl, ?_⟩) hS ?_; rotate_left 1
              · intro w9 h9
                go_simp; (try with_reducible rfl)
              (try simp only [Act.put, List.getElem_toArray, List.getElem_cons_zero, List.getElem_cons_succ, List.setIfInBounds_toArray, List.set_cons_zero, List.set_cons_succ]); refine wpAnyH_ready (rs := [15]) (by kernel_rfl) (by simp) ?_; refine HReady.cons rfl (fun K hK => ?_) HReady.nil; go_simp; have hS2 := show (World.setCell wv ⟨w.heap.size + 1, 2, none⟩ (.slice av nv cv)).cell? ⟨w.heap.size + 1, 1, none⟩ = some (.int .i64 b) from (cs_other (by omega)).trans hS; refine hK _ _ ⟨hS2, ?_⟩; clear hK K hS; have hS := hS2; (try simp only [Act.put, List.getElem_toArray, List.getElem_cons_zero, List.getElem_cons_succ, List.setIfInBounds_toArray, List.set_cons_zero, List.set_cons_succ]); refine wpAnyH_done (by kernel_rfl) ?_ _; refine NoPanic.normal ?_; have HDone := Lib.hid (And.intro HI.out (And.intro HR.out HVB.out))
              cases pt with
              | true =>
                go_wp2; go_roundg (gk - 1)
                case measure => have := HGK.out; omega
                case rel => exact ⟨n + 1, k + 1, bh + 1, true, av, nv, cv, V * b + f, by go_num, rfl, by go_num, by omega, by omega, by omega, hnv, HDone.out.2.1, (HI.out.1.fresh_set HI.out.2.2 HLc.out.2.2.2.1.pb.lt 2 _).fresh_set HI.out.2.2 HLc.out.2.2.2.1.pb.lt 3 _, HVB.out.1, rd_step2 HLc.out.2.2.2 HI.out.2.1 _⟩
              | false =>
                go_wp2; go_roundg (gk - 1)
                case measure => have := HGK.out; omega
                case rel => exact ⟨n + 1, k + 1, bh, false, av, nv, cv, V * b + f, by go_num, rfl, by go_num, by omega, by omega, by omega, hnv, HDone.out.2.1, HI.out.1.fresh_set HI.out.2.2 HLc.out.2.2.2.1.pb.lt 2 _, HVB.out.1, rd_step HLc.out.2.2.2 HI.out.2.1⟩
      | false =>
        have hno : ¬ (k < u2.size ∧ (0 ≤ f ∨ (cc = 46 ∧ pt = false))) := fun hh => by have := HT.out.2 hh; cases this
        have HNO := Lib.hid hno; obtain ⟨l0, l1, l2, l3, l4, l5, lp⟩ := HLc.out.2.2.2.2.1; have l0z := lp.fz 0; have l1z := lp.fz 1; have l2z := lp.fz 2; have l3z := lp.fz 3; have l4z := lp.fz 4; have l5z := lp.fz 5; have HP4 := Lib.hid HLc.out.2.2.2.2.1; have HK := Lib.hid HLc.out.2.2.2.2.2.2; have hnm : nm ≤ 60 := by omega
        have hVz := HLc.out.2.1.zero; have HVZ := Lib.hid hVz; clear lp hno hVz
        by_cases hn0 : n = 0
        · have d1 : ((n : Int) == 0) = true := by simp [hn0]
          have d1' : (n == 0) = true := by simp [hn0]
          clear hn0
          as_aux_lemma =>
            go_wp2; refine bodyPost_ret (v := .tuple #[srcV sg b am nm cm bh 0 false, .bool false]) (res29 (HP4.out.six _ _ _ _ _ _ _ _) rfl rfl) rfl ?_; exact ⟨sg, b, am, nm, cm, bh, 0, false, false, V, rfl, fun hV => six_far HLc.out.2.2.2 HLc.out.2.1 hV _ (src_row wc w.heap.size _ _ _ _ _ _), HVZ.out, hnm, by omega, by omega, by omega, by omega, (fun h => by cases h), SrcC.six_chg HK.out (Nat.le_refl _) _ _ _ _ _ _⟩
        · have d1 : ((n : Int) == 0) = false := by simp [hn0]
          have d1' : (n == 0) = false := by simp [hn0]
          have hbase2 := Lib.hid hbase
          by_cases hke : k = u2.size
          · have d2 : ((k : Int) == (u2.size : Int)) = true := by simp [hke]
            have d2' : (k == u2.size) = true := by simp [hke]
            have hsz : p + k = s.size := by have := HTA.out.1.sz; have := HTA.out.1.le; omega
            have HSays : Hid (ReadSays s base sg b V bh 0 false) := by
              obtain ⟨q1, q2, q3, q4, q5, q6, q7⟩ := HPR.out; have hp := HTA.out.2.1; have hbb := HTA.out.2.2; subst hbb; subst hp; exact RunAt.says HU.out.1 hbase2.out q4 q5 q6 HLc.out.1 (by omega) (Or.inl ⟨hsz, rfl, rfl⟩)
            clear hn0 hke hsz
            as_aux_lemma =>
              go_wp2; refine bodyPost_ret (v := .tuple #[srcV sg b am nm cm bh 0 false, .bool true]) (res29 (HP4.out.six _ _ _ _ _ _ _ _) rfl rfl) rfl ?_; exact ⟨sg, b, am, nm, cm, bh, 0, false, true, V, rfl, fun hV => six_far HLc.out.2.2.2 HLc.out.2.1 hV _ (src_row wc w.heap.size _ _ _ _ _ _), HVZ.out, hnm, by omega, by omega, by omega, by omega, fun _ => HSays.out, SrcC.six_chg HK.out (Nat.le_refl _) _ _ _ _ _ _⟩
          · have d2 : ((k : Int) == (u2.size : Int)) = false := by simp; omega
            have d2' : (k == u2.size) = false := by simp; omega
            have hkz : k < u2.size := by omega
            obtain ⟨eT, heT⟩ : ∃ eT, u2.extract k u2.size = eT := ⟨_, rfl⟩; have hTe := Tail.cut (k := k) u2 (by omega); have hez : eT.size = u2.size - k := by rw [← heT]; exact hTe.sz
            have HE : Hid (∀ W, Calls Tryz.prog 62 #[.agg #[.bool sg, .int .i64 b, .slice am nm cm, .int .i64 bh, .int .i64 0, .bool false], .string (u2.extract k u2.size)] W (ExpPost W eT sg b am nm cm bh)) := fun W => by
              rw [heT]; exact exponent_any eT sg b am nm cm bh W (by omega) (by omega)
            have f3 : (k : Int) ≤ (u2.size : Int) := by omega
            have HSays : Hid (∀ ex two, ExpSays eT b ex two → ReadSays s base sg b V bh ex two) := fun ex two hx => by
              obtain ⟨q1, q2, q3, q4, q5, q6, q7⟩ := HPR.out; have hp := HTA.out.2.1; have hbb := HTA.out.2.2; have hT3 : Tail s (p + k) eT := by rw [← heT]; exact HTA.out.1.trans hTe
              have hsz : p + k < s.size := by have := HTA.out.1.sz; have := HTA.out.1.le; omega
              subst hbb; subst hp; exact RunAt.says HU.out.1 hbase2.out q4 q5 q6 HLc.out.1 (by omega) (Or.inr ⟨hsz, eT, hT3, hx⟩)
            clear hn0 hke heT hTe hez hkz
            as_aux_lemma =>
              go_upto_region 23 with fail; go_wp2_with fail; refine wp_region_noPanic ?_; refine wp_region_any (by kernel_rfl) ?_; change wpAny _ _ _ _ _ _ _ (World.drew _); refine wpAny_take (i := 1) (v := ?_) rfl (by kernel_rfl) (by kernel_rfl) (by kernel_rfl) (fun _ _ _ h => False.elim h) (Or.inl ⟨by rfl, ?_⟩) ?_; rotate_left 1
              · intro w9
                go_simp; (try with_reducible rfl)
              (try simp only [Act.put, List.getElem_toArray, List.getElem_cons_zero, List.getElem_cons_succ, List.setIfInBounds_toArray, List.set_cons_zero, List.set_cons_succ]); refine wpAny_take (i := 2) (v := ?_) rfl (by kernel_rfl) (by kernel_rfl) (by kernel_rfl) (fun _ _ _ h => False.elim h) (Or.inl ⟨by rfl, ?_⟩) ?_; rotate_left 1
              · intro w9
                go_simp; (try with_reducible rfl)
              (try simp only [Act.put, List.getElem_toArray, List.getElem_cons_zero, List.getElem_cons_succ, List.setIfInBounds_toArray, List.set_cons_zero, List.set_cons_succ]); refine wpAny_take (i := 3) (v := ?_) rfl (by kernel_rfl) (by kernel_rfl) (by kernel_rfl) (fun _ _ _ h => False.elim h) (Or.inl ⟨by rfl, ?_⟩) ?_; rotate_left 1
              · intro w9
                go_simp; (try with_reducible rfl)
              (try simp only [Act.put, List.getElem_toArray, List.getElem_cons_zero, List.getElem_cons_succ, List.setIfInBounds_toArray, List.set_cons_zero, List.set_cons_succ]); refine wpAny_ready (rs := [0]) (by kernel_rfl) (by simp) ?_; refine AllReady.cons rfl (fun K hK => ?_) AllReady.nil; go_simp; refine hK _ _ ?_; clear hK K; (try simp only [Act.put, List.getElem_toArray, List.getElem_cons_zero, List.getElem_cons_succ, List.setIfInBounds_toArray, List.set_cons_zero, List.set_cons_succ]); refine wpAny_ready (rs := [4]) (by kernel_rfl) (by simp) ?_; refine AllReady.cons rfl (fun K hK => ?_) AllReady.nil; go_simp; go_wp2_with (go_at_call 62; go_loud (refine (HE.out wc.drew).mono ?_; rintro e wx ⟨ex, two, ok, he, q1, q2, q3, q4⟩; unfold srcV at he; subst he; have HX := Lib.hid (And.intro q3 q4); clear q3 q4; obtain ⟨l0, l1, l2, l3, l4, l5, lp⟩ := HP4.out.chg (HX.out.2.base_drew) (fun _ h => h); have l0z := lp.fz 0; have l1z := lp.fz 1; have l2z := lp.fz 2; have l3z := lp.fz 3; have l4z := lp.fz 4; have l5z := lp.fz 5)); (try simp only [Act.put, List.getElem_toArray, List.getElem_cons_zero, List.getElem_cons_succ, List.setIfInBounds_toArray, List.set_cons_zero, List.set_cons_succ]); refine wpAny_take (i := 5) (v := ?_) rfl (by kernel_rfl) (by kernel_rfl) (by kernel_rfl) (fun _ _ _ h => False.elim h) (Or.inl ⟨by rfl, ?_⟩) ?_; rotate_left 1
              · intro w9
                go_simp; (try with_reducible rfl)
              (try simp only [Act.put, List.getElem_toArray, List.getElem_cons_zero, List.getElem_cons_succ, List.setIfInBounds_toArray, List.set_cons_zero, List.set_cons_succ]); refine wpAny_take (i := 6) (v := ?_) rfl (by kernel_rfl) (by kernel_rfl) (by kernel_rfl) (fun _ _ _ h => False.elim h) (Or.inl ⟨by rfl, ?_⟩) ?_; rotate_left 1
              · intro w9
                go_simp; (try with_reducible rfl)
              (try simp only [Act.put, List.getElem_toArray, List.getElem_cons_zero, List.getElem_cons_succ, List.setIfInBounds_toArray, List.set_cons_zero, List.set_cons_succ]); refine wpAny_ready (rs := [7]) (by kernel_rfl) (by simp) ?_; refine AllReady.cons rfl (fun K hK => ?_) AllReady.nil; go_simp; refine hK _ _ ?_; clear hK K; (try simp only [Act.put, List.getElem_toArray, List.getElem_cons_zero, List.getElem_cons_succ, List.setIfInBounds_toArray, List.set_cons_zero, List.set_cons_succ]); refine wpAny_take (i := 8) (v := ?_) rfl (by kernel_rfl) (by kernel_rfl) (by kernel_rfl) (fun _ _ _ h => False.elim h) (Or.inl ⟨by rfl, ?_⟩) ?_; rotate_left 1
              · intro w9
                go_simp; (try with_reducible rfl)
              (try simp only [Act.put, List.getElem_toArray, List.getElem_cons_zero, List.getElem_cons_succ, List.setIfInBounds_toArray, List.set_cons_zero, List.set_cons_succ]); refine wpAny_done (by kernel_rfl) ?_ _; refine NoPanic.normal ?_; go_wp2; have k9 := HX.out.2.base_drew; refine bodyPost_ret (v := .tuple #[srcV sg b am nm cm bh ex two, .bool ok]) (res29 ((HP4.out.chg k9 (fun _ h => h)).six _ _ _ _ _ _ _ _) rfl rfl) rfl ?_; exact ⟨sg, b, am, nm, cm, bh, ex, two, ok, V, rfl, fun hV => six_far (HLc.out.2.2.2.far k9) (HLc.out.2.1.far k9) hV _ (src_row wx w.heap.size _ _ _ _ _ _), HVZ.out, hnm, by omega, by omega, q1, q2, fun h => HSays.out _ _ (HX.out.1 h), SrcC.six_chg (HK.out.trans k9 (fun _ _ _ h => h)) (Nat.le_refl _) _ _ _ _ _ _⟩
end Go.Proofs.YtmgfajamanakcaaGreatDoor.Si


