/- Part of the proof of FnParse: what the functions that it reaches do, as contracts. Conditions: those that each theorem names. -/
import Derived.Test.YtmgfajamanakcaaGreatDoorR18
import Derived.Test.YtmgfajamanakcaaGreatDoorR22
import Derived.BigRegion
namespace Go.Proofs.YtmgfajamanakcaaGreatDoor
set_option linter.unusedVariables false
set_option linter.unusedSimpArgs false
open Go.RowKit
set_option maxRecDepth 100000
structure QuoAll (w : World) (b p : Nat) (v : FV) (A B : Int) (na nb : Nat) (ex : Int) (w' : World) (v' : FV) (Z : Nat → Int) : Prop where
  new : FNew w b v w' v' Z
  ng : v'.ng = v.ng
  len : v'.fm = 1 → 64 * v'.n ≤ p + 63
  val : -268435456 ≤ ex → ex ≤ 268435456 → FVal v' Z v.ng A B (ex - 64 * na + 64 * nb) p v.md
theorem Stk.sep {Z : Zone} {w w' : World} {p : Nat} {d : Option SD} (h : Stk w p d) (k : Chg Z w w') (hz : ∀ b o, Z b o → SepB p d b) : Stk w' p d := by
  refine h.chg k (fun hh => (hz _ _ hh).1 rfl) (fun s e => ⟨fun hh => ((hz _ _ hh).2 s e).1 rfl, ?_⟩); rintro b o ⟨po, e1, _⟩ hh; exact absurd rfl (((hz _ _ hh).2 s e).2 b po e1)
structure DivRel (w2 : World) (zb p0 : Nat) (v : FV) (A B : Int) (qa : Option Addr) (qn qc : Nat) (Q : Nat → Int) (rn : Nat) (d' : Option SD) (wc : World) : Prop where
  c : FltC wc zb { v with a := qa, n := qn, c := qc }
  le : qn ≤ qc
  z : ZOK wc qa qc
  rd : Rd wc qa qn Q
  wf : WF Q qn
  nm : Norm Q qn
  vl : val Q qn = A / B
  rz : rn = 0 ↔ A % B = 0
  home : Home w2 v.a v.c qa qc
  chg : Chg (fun b o => zF zb v b o ∨ zRow p0 0 1 b o) w2 wc
  stk : Stk wc p0 d'
  frm : StkFrom w2 none d'
  sq : ∀ b o, qa = some ⟨b, o, none⟩ → SepB p0 d' b
  sz : SepB p0 d' zb
  ap : ∀ b o, qa = some ⟨b, o, none⟩ → b ≠ zb
theorem divrel_of {w2 w1 : World} {zb p0 : Nat} {v : FV} {X : Nat → Int} {A B : Int} {qa : Option Addr} {qn qc rn : Nat} {Q R : Nat → Int} {d' : Option SD} (h : FNum w2 zb v X) (hp : zb ≠ p0)
    (s1 : Stk w1 p0 d') (s2 : StkFrom w2 none d') (hq : qn ≤ qc ∧ ZOK w1 qa qc ∧ Rd w1 qa qn Q ∧ WF Q qn ∧ Norm Q qn ∧ val Q qn = A / B ∧ Home w2 v.a v.c qa qc) (hr : WF R rn ∧ Norm R rn ∧ val R rn = A % B)
    (hc : Chg (zDL v.a v.c none 0 p0 none) w2 w1) (hs : ∀ b o, qa = some ⟨b, o, none⟩ → SepB p0 d' b) (hap : ∀ b o, v.a = some ⟨b, o, none⟩ → b ≠ zb) : DivRel w2 zb p0 v A B qa qn qc Q rn d' (w1.setCell ⟨zb, 5, none⟩ (.slice qa qn qc)) := by
  obtain ⟨h1, h2, h3, h4, h5, h6, h7⟩ := hq
  have hz : ∀ b o, zDL v.a v.c none 0 p0 none b o → zAddr v.a v.c b o ∨ zRow p0 0 1 b o := by
    rintro b o ((hh | ⟨po, e, _⟩) | hh)
    · exact Or.inl hh
    · cases e
    · exact Or.inr hh
  have hc1 := h.c.chg hc (fun o ho hh => by
    rcases hz _ _ hh with ⟨po, e, _⟩ | hh
    · exact hap _ _ e rfl
    · exact hp hh.1)
  have ha : ∀ b o, qa = some ⟨b, o, none⟩ → b ≠ zb := by
    intro b o e
    rcases h7 with ⟨g, _⟩ | ⟨b2, o2, g, hb⟩
    · exact hap b o (g.symm.trans e)
    · rw [g] at e; injection e with e; injection e with e1 _; have := h.c.lt; omega
  have sz : SepB p0 d' zb := (show SepB p0 none zb from ⟨hp, fun s e => by cases e⟩).from s2 h.c.lt; have k := chg_cell w1 zb 5 (.slice qa qn qc); refine ⟨hc1.setMt qa qn qc, h1, h2.chg k ?_, ?_, h4, h5, h6, ?_, h7, ?_, s1.sep k (fun b o hh => by rw [hh.1]; exact sz), s2, hs, sz, ha⟩
  · rintro b o ⟨po, e, _⟩ hh
    exact ha b po e hh.1
  · rcases h3 with hh | ⟨b, o, e, hw⟩
    · exact Or.inl hh
    · exact Or.inr ⟨b, o, e, hw.chg k (fun i hi hh => ha b o e hh.1)⟩
  · obtain ⟨r1, r2, r3⟩ := hr
    constructor
    · intro e; rw [e] at r3; exact r3.symm
    · intro e
      rw [e] at r3; have h0 := (val_eq_zero r1).1 r3
      rcases r2 with e2 | e2
      · exact e2
      · rcases Nat.eq_zero_or_pos rn with e3 | e3
        · exact e3
        · exact absurd (h0 (rn - 1) (by omega)) e2
  · refine (hc.mono (fun b o _ hh => ?_)).trans k (fun b o _ hh => Or.inl (Or.inl ⟨hh.1, by omega, by have := hh.2.2; omega⟩))
    rcases hz b o hh with hh | hh
    · exact Or.inl (Or.inr hh)
    · exact Or.inr hh
def XAdj (W : World) (b : Nat) (v : FV) (X : Nat → Int) (p ny : Nat) (s7 : Value) (wc : World) : Prop :=
  ∃ ax cx dd, s7 = .slice ax (v.n + dd) cx ∧ Hid (NatIn wc ax (v.n + dd) cx (padW X dd) ∧ ((ax = v.a ∧ cx = v.c) ∨ ∃ b2 o2, ax = some ⟨b2, o2, none⟩ ∧ W.heap.size ≤ b2) ∧ Chg zNone W wc ∧ ny + p / 64 + 1 ≤ v.n + dd ∧ v.n + dd ≤ v.n + ny + p / 64 + 1)
set_option maxHeartbeats 8000000 in
theorem uquo_any (zb yb p : Nat) (v vy : FV) (X Y : Nat → Int) (w : World) (h : FNum w zb v X) (hy : FNum w yb vy Y) (hf : v.fm = 1) (hfy : vy.fm = 1) (hp : v.p = (p : Int)) (hne : zb ≠ yb) (hsep : ∀ b o, zF zb v b o → ¬ zF yb vy b o) (hn : v.n < 1000) (hny : vy.n < 40)
    (hK : w.cell? ⟨4, 0, none⟩ = some (.int .i64 40)) :
    Calls Tryz.prog 150 #[.pointer (some ⟨zb, 0, none⟩), .pointer (some ⟨zb, 0, none⟩), .pointer (some ⟨yb, 0, none⟩)] w fun e w' => e = .returned (.tuple #[]) ∧ ∃ v' Z, QuoAll w zb p v (val X v.n) (val Y vy.n) v.n vy.n (v.e - vy.e) w' v' Z := by
  have H := Lib.hid (And.intro h (And.intro hy (And.intro hf (And.intro hfy (And.intro hsep hK))))); obtain ⟨P, md, ac, fm, ng, a, n, c, e0⟩ := v; obtain ⟨Py, mdy, acy, fmy, ngy, ay, ny, cy, ey⟩ := vy; have hpp := h.p; have hex := h.ex; have hey := hy.ex; simp only at hf hfy hp hn hny hpp hex hey; subst hf; subst hfy; subst hp; obtain ⟨bm, om, ha, hX, hroom, hpm, hbm⟩ := h.words rfl; simp only at ha hX hroom; subst ha; have hxi := h.natin rfl; have hfx := h.fin rfl; have hfy := hy.fin rfl; obtain ⟨c0, c1, c2, c3, c4, c5, c6, cb⟩ := h.c; obtain ⟨y0, y1, y2, y3, y4, y5, y6, yb'⟩ := hy.c; simp only at c0 c1 c2 c3 c4 c5 c6 y0 y1 y2 y3 y4 y5 y6 hxi hfx hfy; have q1 : 0 < n := hfx.1; have q2 : n ≤ c := hfx.2.1; have r1 : 0 < ny := hfy.1; obtain ⟨k, hk⟩ : ∃ k, p / 64 = k := ⟨_, rfl⟩; have s1 : (p : Int).tdiv 64 = (k : Int) := by rw [Int.tdiv_eq_ediv_of_nonneg (by omega)]; omega
  have s2 : IntKind.u32.wrap (k : Int) = (k : Int) := by rw [wrap_u32]; omega
  have s3 : IntKind.i64.wrap (k : Int) = (k : Int) := IntWalk.i64_in _ (by omega); have HX := Lib.hid (And.intro hX (And.intro hxi (And.intro hpm (And.intro hbm (And.intro hfx hfy))))); have k16 : k ≤ 16384 := by omega
  clear h hy hsep hK cb yb' hX hroom hpm hxi hfx hfy
  go_enter_defers Tryz.func150, Tryz.ntmps150
  go_wp2_with fail
  go_quiet (fail)
  obtain ⟨W, hW⟩ : ∃ W, W = w.drewN nq := ⟨_, rfl⟩; have kD : Chg zNone w W := by rw [hW]; exact (Chg.refl _ _).drewN nq
  have c0' : W.cell? ⟨zb, 0, none⟩ = some (.int .u32 (p : Int)) := kD.cell c0 (fun h => h); have c5' : W.cell? ⟨zb, 5, none⟩ = some (.slice (some ⟨bm, om, none⟩) n c) := kD.cell c5 (fun h => h); have c6' : W.cell? ⟨zb, 6, none⟩ = some (.int .i32 e0) := kD.cell c6 (fun h => h); have y5' : W.cell? ⟨yb, 5, none⟩ = some (.slice ay ny cy) := kD.cell y5 (fun h => h); have y6' : W.cell? ⟨yb, 6, none⟩ = some (.int .i32 ey) := kD.cell y6 (fun h => h); have HK := Lib.hid kD; rw [← hW]; clear c0 c1 c2 c3 c4 c5 c6 y0 y1 y2 y3 y4 y5 y6 kD hW; go_upto_if 39 with fail; go_cut [7] from 14 to 115 (fun s7 wc => XAdj W zb ⟨(p : Int), md, ac, 1, ng, some ⟨bm, om, none⟩, n, c, e0⟩ X p ny s7 wc)
  case first => as_aux_lemma =>
    by_cases hd : 0 < (k : Int) + 1 - (n : Int) + (ny : Int)
    · rw [decide_eq_true hd]
      obtain ⟨dd, hdd⟩ : ∃ dd : Nat, (k : Int) + 1 - (n : Int) + (ny : Int) = (dd : Int) := ⟨k + 1 + ny - n, by omega⟩; rw [hdd]; have Hdd := Lib.hid hdd; have hmk := fun w => run_make_words w ((n : Int) + (dd : Int)) ((n : Int) + (dd : Int)) (by omega) (by omega) (by omega)
      have jb : dd ≤ 20000 := by omega
      have t1 : ((n : Int) + (dd : Int)).toNat = n + dd := by omega
      rw [t1] at hmk; have j1 : (0 : Int) ≤ (dd : Int) := by omega
      have j2 : (dd : Int) ≤ (n : Int) + (dd : Int) := by omega
      have j3 : (dd : Int) ≤ ((n + dd : Nat) : Int) := by omega
      have j4 : ¬ n + dd = dd := by omega
      have j5 : n + dd - dd = n := by omega
      have kal : Chg zNone W (W.alloc (.cells (madeCells #[.int .u64 0] (n + dd)) 153)) := (Chg.refl _ _).alloc _; have hrm := room_made W (n + dd); have hpn := PB.new W (madeCells #[.int .u64 0] (n + dd)) 153
      have hz0 : Words (W.alloc (.cells (madeCells #[.int .u64 0] (n + dd)) 153)) W.heap.size 0 (n + dd) (fun _ => 0) := by
        intro i hi; exact cell?_alloc_new W _ _ _ _ (by simp [madeCells, hi, Nat.mod_one])
      have c5w := kal.cell c5' (fun h => h); have hXw : Words (W.alloc (.cells (madeCells #[.int .u64 0] (n + dd)) 153)) bm om n X := (HX.out.1.chg HK.out (fun _ _ h => h)).chg kal (fun _ _ h => h); have lbm : bm < W.heap.size := lt_of_cell (HX.out.1.chg HK.out (fun _ _ h => h) 0 q1); clear hd hdd; go_wp2_with fail; obtain ⟨W1, hW1⟩ : ∃ x, x = W.alloc (.cells (madeCells #[.int .u64 0] (n + dd)) 153) := ⟨_, rfl⟩; rw [← hW1] at kal hrm hpn hz0 c5w hXw ⊢; have kd : Chg zNone W1 W1.drew := (Chg.refl _ _).drew; have HA := Lib.hid (And.intro kal (And.intro hrm (And.intro hpn (And.intro hz0 (And.intro hXw (And.intro lbm kd))))))
      have HRm : Hid (Room W1.drew W.heap.size dd n) := by
        have := (hrm.chg kd (fun _ _ h => h)).drop dd n (by omega)
        rwa [Nat.zero_add] at this
      have HRd : Hid (Rd W1.drew (some ⟨bm, om, none⟩) n X) := Or.inr ⟨bm, om, rfl, hXw.chg kd (fun _ _ h => h)⟩; clear kal hrm hpn hz0 hXw lbm kd hW1 hmk; refine wp_region_noPanic ?_
      go_still_tail 7, (by kernel_rfl)
      go_wp2_with (refine wpList_copy_word rfl (.tmp 50) (.tmp 54) 120 120 rfl Tryz.underlying120 W.heap.size dd n n (some ⟨bm, om, none⟩) n c n X ?_ ?_ ?_ ?_ ?_ ?_)
      · exact (Nat.min_self n).symm
      · exact HRm.out
      · exact HRd.out
      intro w2 h1 h2 h3; have HW2 := Lib.hid (And.intro h1 (And.intro h2 h3)); clear h1 h2 h3; go_wp2_with fail; refine NoPanic.normal ?_; go_wp2; rw [← Hdd.out]; go_meet; obtain ⟨kal, hrm, hpn, hz0, hXw, lbm, kd⟩ := HA.out; have k1 : Chg (zRow W.heap.size dd n) W1 w2 := (kd.mono (fun _ _ _ h => h.elim)).trans HW2.out.1 (fun _ _ _ h => h); have k2 : Chg zNone W w2 := kal.trans k1 (fun b o hb hh => by have := hh.1; omega); have hdd := Hdd.out; refine ⟨some ⟨W.heap.size, 0, none⟩, n + dd, dd, rfl, ⟨Or.inr ⟨_, _, rfl, fun i hi => ?_⟩, ?_, Nat.le_refl _, by simp only; omega, Or.inr ⟨_, _, rfl, hpn.chg k1, by omega⟩⟩, Or.inr ⟨_, _, rfl, Nat.le_refl _⟩, k2, by simp only; omega, by simp only; omega⟩
      · unfold padW
        by_cases hx : i < dd
        · rw [if_pos hx]
          exact k1.cell (hz0 i hi) (fun hh => by have := hh.2.1; omega)
        · rw [if_neg hx]
          have hi' : i < n + dd := hi; have := HW2.out.2.1 (i - dd) (by omega)
          rwa [show dd + (i - dd) = 0 + i by omega] at this
      · have := padW_wf (d := dd) HX.out.2.1.wf
        rwa [Nat.add_comm] at this
    · rw [decide_eq_false hd]
      have Hd := Lib.hid hd; clear hd; go_wp2; go_meet; refine ⟨some ⟨bm, om, none⟩, c, 0, rfl, ?_, Or.inl ⟨rfl, rfl⟩, Chg.refl _ _, ?_, ?_⟩
      · have hx := HX.out.2.1
        exact ⟨Or.inr ⟨bm, om, rfl, (HX.out.1.chg HK.out (fun _ _ h => h)).congr (fun i hi => by unfold padW; rw [if_neg (by omega)]; rfl)⟩, hx.wf.congr (fun i hi => by unfold padW; rw [if_neg (by omega)]; rfl), hx.le, hx.small, hx.aok.chg HK.out⟩
      · have := Hd.out; simp only; omega
      · simp only; omega
  case rest => as_aux_lemma =>
    obtain ⟨ax, cx, dd, rfl, HA⟩ := hcut; obtain ⟨a1, a2, a3, a4, a5⟩ := HA.out; simp only at a1 a2 a4 a5; have kw : Chg zNone w wc := HK.out.trans a3 (fun _ _ _ h => h); have k0 : Chg zNone wc (wc.alloc (.cells #[.pointer none] 208)) := (Chg.refl _ _).alloc _; obtain ⟨W2, hW2⟩ : ∃ x, x = wc.alloc (.cells #[.pointer none] 208) := ⟨_, rfl⟩; have k1 : Chg zNone wc W2 := by rw [hW2]; exact k0
    have kd : Chg zNone wc W2.drew := k1.drew; have kwd : Chg zNone w W2.drew := kw.trans kd (fun _ _ _ h => h); have hsw : wc.heap.size < W2.heap.size := by rw [hW2, alloc_size']; omega
    have hst : Stk W2.drew wc.heap.size none := by
      rw [hW2]; exact ⟨cell?_alloc_new wc _ _ _ _ rfl, frozen?_alloc_new wc _ _ _⟩
    obtain ⟨bx, ox, hax, hxw⟩ := a1.words (by omega); have lbx := lt_of_cell (hxw 0 (by omega)); have hN2 := H.out.1.chg kwd (fun _ _ _ h => h); have hY2 := H.out.2.1.chg kwd (fun _ _ _ h => h); have hyi := hY2.natin rfl; have lbm : bm < wc.heap.size := (HX.out.2.2.1.chg kw).lt; obtain ⟨by', oy, hay, hyw⟩ := (H.out.2.1.natin rfl |>.words r1); simp only at hay; have lby : by' < wc.heap.size := by have := kw.size; have := lt_of_cell (hyw 0 r1); omega
    have l4 : 4 < wc.heap.size := by have := kw.size; have := lt_of_cell H.out.2.2.2.2.2; omega
    have lzb : zb < wc.heap.size := by have := kw.size; have := H.out.1.c.lt; omega
    have xtop : padW X dd (n + dd - 1) ≠ 0 := by
      have h6 := HX.out.2.2.2.2.1.2.2.2.2.2; unfold padW; rw [if_neg (by omega), show n + dd - 1 - dd = n - 1 by omega]; omega
    have ytop : Y (ny - 1) ≠ 0 := by have h6 := HX.out.2.2.2.2.2.2.2.2.2.2; omega
    have HD := Lib.hid (div_any (some ⟨bm, om, none⟩) none ax ay n c 0 0 (n + dd) cx ny cy wc.heap.size none (padW X dd) Y W2.drew
      { z := hN2.z, z2 := Or.inl ⟨rfl, rfl⟩
        x := ⟨Or.inr ⟨bx, ox, hax, hxw.chg kd (fun _ _ h => h)⟩, a1.wf, a1.le, a1.small, a1.aok.chg kd⟩
        v := hyi, xN := Or.inr xtop, vt := ytop, n1 := r1, xs := by omega, s := hst, sl := by simp [stkL]
        k4 := kwd.cell H.out.2.2.2.2.2 (fun h => h)
        zz := fun _ _ _ _ _ e => by cases e
        zS := fun b o e => by
          injection e with e; injection e with e1 _; exact ⟨by omega, fun s e => by cases e⟩
        z2S := fun _ _ e => by cases e
        xS := fun b o i e _ hh => by
          rw [hax] at e; injection e with e; injection e with e1 _; have := hh.1; omega
        vS := fun b o i e _ hh => by
          rw [hay] at e; injection e with e; injection e with e1 _; have := hh.1; omega
        x2 := disj_none, v2 := disj_none
        xa := by
          rcases a2 with ⟨e, _⟩ | ⟨b2, o2, e, hb⟩
          · exact Or.inl e
          · refine Or.inr (fun b o i e2 _ hh => ?_)
            obtain ⟨po, e3, _⟩ := hh; injection e3 with e3; injection e3 with e4 _; rw [e] at e2; injection e2 with e2; injection e2 with e5 _; have h9 := (HX.out.2.2.1.chg HK.out).lt; omega
        k4s := fun hh => by have := hh.1; omega
        k42 := fun hh => by obtain ⟨po, e, _⟩ := hh; cases e } hny)
    have HG := Lib.hid (getStack_any wc); rw [← hW2] at HG; have HW2 := Lib.hid hW2; have HB := Lib.hid (And.intro kw (And.intro k1 (And.intro kwd (And.intro hN2 (And.intro lzb (And.intro hsw (And.intro lbm a1))))))); have kw2 : Chg zNone w W2 := kw.trans k1 (fun _ _ _ h => h); have c0n : W2.cell? ⟨zb, 0, none⟩ = some (.int .u32 (p : Int)) := kw2.cell H.out.1.c.p (fun h => h); have c5n : W2.cell? ⟨zb, 5, none⟩ = some (.slice (some ⟨bm, om, none⟩) n c) := kw2.cell H.out.1.c.mt (fun h => h); have f5n : W2.frozen? ⟨zb, 5, none⟩ = false := ((H.out.1.c.chg kw2 (fun _ _ h => h)).pb).fz 5; have y5n : W2.cell? ⟨yb, 5, none⟩ = some (.slice ay ny cy) := kw2.cell H.out.2.1.c.mt (fun h => h); have y5w : wc.cell? ⟨yb, 5, none⟩ = some (.slice ay ny cy) := kw.cell H.out.2.1.c.mt (fun h => h)
    have HZ5 : Hid (¬ zDL (some ⟨bm, om, none⟩) c none 0 wc.heap.size none zb 5) := by
      rintro ((⟨po, e, _⟩ | ⟨po, e, _⟩) | hh)
      · injection e with e; injection e with e1 _; exact hbm e1
      · cases e
      · have := hh.1; omega
    have ddb : n + dd ≤ 20000 := by omega
    have w6 : IntKind.i64.wrap (((n + dd : Nat) : Int) - (ny : Int)) = ((n + dd : Nat) : Int) - (ny : Int) := IntWalk.i64_in _ (by omega); clear a1 a2 a3 a4 a5 kw kw2 k0 k1 kd kwd hst hxw hN2 hY2 hyi hyw hax hay lbx lbm lby l4 xtop ytop hW2; clear c0' c5' c6' y5' y6'; go_wp2_with fail; refine HG.out.mono ?_; rintro e w3 ⟨rfl, rfl⟩; go_wp2_with fail; obtain ⟨p0, hp0⟩ : ∃ x, wc.heap.size = x := ⟨_, rfl⟩; have Hp0 := Lib.hid hp0; clear hp0; go_cut [11] from 14 to 115 (fun s11 wx => ∃ qa qn qc Q rn ra rc d', s11 = .slice ra rn rc ∧ Hid (DivRel w3.drew zb wc.heap.size ⟨(p : Int), md, ac, 1, ng, some ⟨bm, om, none⟩, n, c, e0⟩ (val (padW X dd) (n + dd)) (val Y ny) qa qn qc Q rn d' wx))
    case first => as_aux_lemma =>
      refine wp_region_noPanic ?_; refine wp_region_any (by kernel_rfl) ?_; change wpAny _ _ _ _ _ _ _ (World.drew _); refine wpAny_take (i := 0) (v := ?_) rfl (by kernel_rfl) (by kernel_rfl) (by kernel_rfl) (fun _ _ _ h => False.elim h) (Or.inl ⟨by rfl, ?_⟩) ?_; rotate_left 1
      · intro w9
        go_simp; (try with_reducible rfl)
      (try simp only [Act.put, List.getElem_toArray, List.getElem_cons_zero, List.getElem_cons_succ, List.setIfInBounds_toArray, List.set_cons_zero, List.set_cons_succ]); refine wpAny_take (i := 1) (v := ?_) rfl (by kernel_rfl) (by kernel_rfl) (by kernel_rfl) (fun _ _ _ h => False.elim h) (Or.inl ⟨by rfl, ?_⟩) ?_; rotate_left 1
      · intro w9
        go_simp; (try with_reducible rfl)
      (try simp only [Act.put, List.getElem_toArray, List.getElem_cons_zero, List.getElem_cons_succ, List.setIfInBounds_toArray, List.set_cons_zero, List.set_cons_succ]); refine wpAny_take (i := 5) (v := ?_) rfl (by kernel_rfl) (by kernel_rfl) (by kernel_rfl) (fun _ _ _ h => False.elim h) (Or.inl ⟨by rfl, ?_⟩) ?_; rotate_left 1
      · intro w9
        go_simp; (try with_reducible rfl)
      (try simp only [Act.put, List.getElem_toArray, List.getElem_cons_zero, List.getElem_cons_succ, List.setIfInBounds_toArray, List.set_cons_zero, List.set_cons_succ]); refine wpAny_take (i := 6) (v := ?_) rfl (by kernel_rfl) (by kernel_rfl) (by kernel_rfl) (fun _ _ _ h => False.elim h) (Or.inl ⟨by rfl, ?_⟩) ?_; rotate_left 1
      · intro w9
        go_simp; (try with_reducible rfl)
      (try simp only [Act.put, List.getElem_toArray, List.getElem_cons_zero, List.getElem_cons_succ, List.setIfInBounds_toArray, List.set_cons_zero, List.set_cons_succ]); refine wpAny_take (i := 7) (v := ?_) rfl (by kernel_rfl) (by kernel_rfl) (by kernel_rfl) (fun _ _ _ h => False.elim h) (Or.inl ⟨by rfl, ?_⟩) ?_; rotate_left 1
      · intro w9
        go_simp; (try with_reducible rfl)
      (try simp only [Act.put, List.getElem_toArray, List.getElem_cons_zero, List.getElem_cons_succ, List.setIfInBounds_toArray, List.set_cons_zero, List.set_cons_succ]); refine wpAny_take (i := 2) (v := ?_) rfl (by kernel_rfl) (by kernel_rfl) (by kernel_rfl) (fun _ _ _ h => False.elim h) (Or.inl ⟨by rfl, ?_⟩) ?_; rotate_left 1
      · intro w9
        go_simp; (try with_reducible rfl)
      (try simp only [Act.put, List.getElem_toArray, List.getElem_cons_zero, List.getElem_cons_succ, List.setIfInBounds_toArray, List.set_cons_zero, List.set_cons_succ]); refine wpAny_take (i := 8) (v := ?_) rfl (by kernel_rfl) (by kernel_rfl) (by kernel_rfl) (fun _ _ _ h => False.elim h) (Or.inl ⟨by rfl, ?_⟩) ?_; rotate_left 1
      · intro w9
        go_simp; (try with_reducible rfl)
      (try simp only [Act.put, List.getElem_toArray, List.getElem_cons_zero, List.getElem_cons_succ, List.setIfInBounds_toArray, List.set_cons_zero, List.set_cons_succ]); refine wpAny_take (i := 3) (v := ?_) rfl (by kernel_rfl) (by kernel_rfl) (by kernel_rfl) (fun _ _ _ h => False.elim h) (Or.inl ⟨by rfl, ?_⟩) ?_; rotate_left 1
      · intro w9
        go_simp; (try with_reducible rfl)
      (try simp only [Act.put, List.getElem_toArray, List.getElem_cons_zero, List.getElem_cons_succ, List.setIfInBounds_toArray, List.set_cons_zero, List.set_cons_succ]); refine wpAny_take (i := 9) (v := ?_) rfl (by kernel_rfl) (by kernel_rfl) (by kernel_rfl) (fun _ _ _ h => False.elim h) (Or.inl ⟨by rfl, ?_⟩) ?_; rotate_left 1
      · intro w9
        go_simp; (try with_reducible rfl)
      (try simp only [Act.put, List.getElem_toArray, List.getElem_cons_zero, List.getElem_cons_succ, List.setIfInBounds_toArray, List.set_cons_zero, List.set_cons_succ]); refine wpAny_ready (rs := [4, 10]) (by kernel_rfl) (by simp) ?_
      all_goals refine AllReady.cons rfl (fun K hK => ?_) (AllReady.cons rfl (fun K hK => ?_) AllReady.nil)
      all_goals go_simp
      all_goals refine hK _ _ ?_
      all_goals clear hK K
      all_goals try simp only [Act.put, List.getElem_toArray, List.getElem_cons_zero, List.getElem_cons_succ, List.setIfInBounds_toArray, List.set_cons_zero, List.set_cons_succ]
      refine wpAny_ready (rs := [10]) (by kernel_rfl) (by simp) ?_; rotate_left 1; refine wpAny_ready (rs := [4]) (by kernel_rfl) (by simp) ?_; rotate_left 1
      all_goals refine AllReady.cons rfl (fun K hK => ?_) AllReady.nil
      all_goals go_simp
      all_goals refine hK _ _ ?_
      all_goals clear hK K
      all_goals try simp only [Act.put, List.getElem_toArray, List.getElem_cons_zero, List.getElem_cons_succ, List.setIfInBounds_toArray, List.set_cons_zero, List.set_cons_succ]
      all_goals
        refine wpAny_ready (rs := [11]) (by kernel_rfl) (by simp) ?_; refine AllReady.cons rfl (fun K hK => ?_) AllReady.nil; go_simp; go_wp2_with (go_at_call 102; go_loud (refine HD.out.mono ?_; rintro e w1 ⟨d', s1, s2, s3, ⟨qa, qn, qc, Q, ra, rn, rc, R, rfl, hq, hr, hchg, hdiff⟩, hsep⟩; have z5' : w1.cell? ⟨zb, 5, none⟩ = some (.slice (some ⟨bm, om, none⟩) n c) := hchg.cell (w := w3.drew) c5n HZ5.out; have f5' : w1.frozen? ⟨zb, 5, none⟩ = false := (hchg.frozen (w := w3.drew) c5n 5).trans f5n; have HR := Lib.hid (And.intro s1 (And.intro s2 (And.intro hq (And.intro hr (And.intro hchg hsep))))); clear s1 s2 s3 hq hr hchg hdiff hsep)); (try simp only [Act.put, List.getElem_toArray, List.getElem_cons_zero, List.getElem_cons_succ, List.setIfInBounds_toArray, List.set_cons_zero, List.set_cons_succ]); refine wpAny_take (i := 12) (v := ?_) rfl (by kernel_rfl) (by kernel_rfl) (by kernel_rfl) (fun _ _ _ h => False.elim h) (Or.inl ⟨by rfl, ?_⟩) ?_; rotate_left 1
        · intro w9
          go_simp; (try with_reducible rfl)
        (try simp only [Act.put, List.getElem_toArray, List.getElem_cons_zero, List.getElem_cons_succ, List.setIfInBounds_toArray, List.set_cons_zero, List.set_cons_succ]); refine wpAny_take (i := 13) (v := ?_) rfl (by kernel_rfl) (by kernel_rfl) (by kernel_rfl) (fun _ _ _ h => False.elim h) (Or.inl ⟨by rfl, ?_⟩) ?_; rotate_left 1
        · intro w9
          go_simp; (try with_reducible rfl)
        (try simp only [Act.put, List.getElem_toArray, List.getElem_cons_zero, List.getElem_cons_succ, List.setIfInBounds_toArray, List.set_cons_zero, List.set_cons_succ]); refine wpAny_take (i := 14) (v := ?_) rfl (by kernel_rfl) (by kernel_rfl) (by kernel_rfl) (fun _ _ _ h => False.elim h) (Or.inl ⟨by rfl, ?_⟩) ?_; rotate_left 1
        · intro w9
          go_simp; (try with_reducible rfl)
        (try simp only [Act.put, List.getElem_toArray, List.getElem_cons_zero, List.getElem_cons_succ, List.setIfInBounds_toArray, List.set_cons_zero, List.set_cons_succ]); refine wpAny_take (i := 15) (v := ?_) rfl (by kernel_rfl) (by kernel_rfl) (by kernel_rfl) (fun _ _ _ h => False.elim h) (Or.inl ⟨by rfl, ?_⟩) ?_; rotate_left 1
        · intro w9
          go_simp; (try with_reducible rfl)
        (try simp only [Act.put, List.getElem_toArray, List.getElem_cons_zero, List.getElem_cons_succ, List.setIfInBounds_toArray, List.set_cons_zero, List.set_cons_succ]); refine wpAny_take (i := 16) (v := ?_) rfl (by kernel_rfl) (by kernel_rfl) (by kernel_rfl) (fun _ _ _ h => False.elim h) (Or.inl ⟨by rfl, ?_⟩) ?_; rotate_left 1
        · intro w9
          go_simp; (try with_reducible rfl)
        (try simp only [Act.put, List.getElem_toArray, List.getElem_cons_zero, List.getElem_cons_succ, List.setIfInBounds_toArray, List.set_cons_zero, List.set_cons_succ]); refine wpAny_ready (rs := [17]) (by kernel_rfl) (by simp) ?_; refine AllReady.cons rfl (fun K hK => ?_) AllReady.nil; go_simp; refine hK _ _ ?_; clear hK K; (try simp only [Act.put, List.getElem_toArray, List.getElem_cons_zero, List.getElem_cons_succ, List.setIfInBounds_toArray, List.set_cons_zero, List.set_cons_succ]); refine wpAny_take (i := 18) (v := ?_) rfl (by kernel_rfl) (by kernel_rfl) (by kernel_rfl) (fun _ _ _ h => False.elim h) (Or.inl ⟨by rfl, ?_⟩) ?_; rotate_left 1
        · intro w9
          go_simp; (try with_reducible rfl)
        (try simp only [Act.put, List.getElem_toArray, List.getElem_cons_zero, List.getElem_cons_succ, List.setIfInBounds_toArray, List.set_cons_zero, List.set_cons_succ]); refine wpAny_done (by kernel_rfl) ?_ _; refine NoPanic.normal ?_; go_wp2; go_meet; obtain ⟨s1, s2, hq, hr, hchg, hsep⟩ := HR.out; obtain ⟨kw, k1, kwd, hN2, lzb, hsw, lbm, a1⟩ := HB.out; refine ⟨qa, qn, qc, Q, rn, ra, rc, d', rfl, divrel_of hN2 (by omega) s1 s2 hq ⟨hr.2.2.2.1, hr.2.2.2.2.1, hr.2.2.2.2.2.1⟩ hchg (fun b o e => hsep _ _ b o qn qc rfl (Or.inl (by rw [e]))) (fun b o e => ?_)⟩; injection e with e; injection e with e1 _; rw [← e1]; exact hbm
    case rest => as_aux_lemma =>
      obtain ⟨qa, qn, qc, Q, rn, ra, rc, d', rfl, HR⟩ := hcut; have hp0 := Hp0.out; rw [hp0] at HR HB ⊢; obtain ⟨kw, k1, kwd, hN2, lzb, hsw, lbm, a1⟩ := HB.out; have hr := HR.out; have hfx := HX.out.2.2.2.2.1; have hfy := HX.out.2.2.2.2.2; obtain ⟨x1, x2⟩ := val_ge_top hfx.2.2.2.2.1 hfx.1 hfx.2.2.2.2.2; obtain ⟨y1, y2⟩ := val_ge_top hfy.2.2.2.2.1 hfy.1 hfy.2.2.2.2.2
      have hA : val (padW X dd) (n + dd) = val X n * 2 ^ (64 * dd) := by
        rw [Nat.add_comm, padW_val, BB_pow]
      have pB : 0 < val Y ny := by have := two_pos (64 * ny - 1); omega
      have pA : 2 ^ (64 * (n + dd) - 1) ≤ val (padW X dd) (n + dd) := by
        rw [hA]; have := Int.mul_le_mul_of_nonneg_right x1 (Int.le_of_lt (two_pos (64 * dd))); rw [← Int.pow_add, show 64 * n - 1 + 64 * dd = 64 * (n + dd) - 1 by omega] at this; exact this
      have hdn : ny + k + 1 ≤ n + dd := by have h9 : ny + p / 64 + 1 ≤ n + dd := HA.out.2.2.2.1; omega
      have hq1 : 2 ^ (64 * (n + dd) - 64 * ny - 1) ≤ val Q qn := by
        rw [hr.vl]; apply Int.le_ediv_of_mul_le pB; have e : (2 : Int) ^ (64 * (n + dd) - 64 * ny - 1) * 2 ^ (64 * ny) = 2 ^ (64 * (n + dd) - 1) := by rw [← Int.pow_add]; congr 1; omega
        have h2 := Int.mul_le_mul_of_nonneg_left (Int.le_of_lt y2) (Int.le_of_lt (two_pos (64 * (n + dd) - 64 * ny - 1))); omega
      have hq0 : 0 < qn := by
        rcases Nat.eq_zero_or_pos qn with e | e
        · rw [e] at hq1; simp only [val] at hq1; have := two_pos (64 * (n + dd) - 64 * ny - 1); omega
        · exact e
      have hqn : qn ≤ n + dd := by
        refine val_mono_len hr.wf hr.nm hq0 ?_; rw [hr.vl]; have h1 := Int.ediv_le_self (val Y ny) (show 0 ≤ val (padW X dd) (n + dd) by have := two_pos (64 * (n + dd) - 1); omega); have h2 := val_lt (show WF (padW X dd) (n + dd) by have := padW_wf (d := dd) hfx.2.2.2.2.1; rwa [Nat.add_comm] at this); omega
      obtain ⟨bq, oq, rfl, hqw⟩ : ∃ b o, qa = some ⟨b, o, none⟩ ∧ Words wc b o qn Q := by
        rcases hr.rd with h | h
        · omega
        · exact h
      have hqt : Q (qn - 1) ≠ 0 := by
        rcases hr.nm with h | h
        · omega
        · exact h
      have HF := Lib.hid (fun k => fnorm_any bq oq qn qc Q (wc.drewN k) hq0 (by omega) hqw hr.wf (hr.z.room0.le hr.le) hqt); have HV := Lib.hid (And.intro hA (And.intro pB (And.intro hq1 hdn)))
      have y6 : wc.cell? ⟨yb, 6, none⟩ = some (.int .i32 ey) := by
        refine hr.chg.cell (kwd.cell H.out.2.1.c.ex (fun h => h)) ?_; rintro (hh | hh)
        · exact H.out.2.2.2.2.1 _ _ hh (Or.inl ⟨rfl, by omega, by omega⟩)
        · have h1 := H.out.2.1.c.lt
          have h2 := kw.size; have h3 := hh.1; omega
      obtain ⟨c0, c1, c2, c3, c4, c5, c6, cb⟩ := hr.c; simp only at c0 c1 c2 c3 c4 c5 c6; have hrz := hr.rz
      obtain ⟨sv, hsv, hsv2⟩ : ∃ sv : Int, (if rn = 0 then 0 else 1) = sv ∧ (sv = 0 ∨ sv = 1) := by
        by_cases e : rn = 0
        · exact ⟨0, if_pos e, Or.inl rfl⟩
        · exact ⟨1, if_neg e, Or.inr rfl⟩
      have HR2 := Lib.hid hr; have HS := Lib.hid (And.intro hsv (And.intro hsv2 hrz)); have l1 := hqn; clear hr hqw hqt hA pA pB hq1 hdn x1 x2 y1 y2 hfx hfy a1 kw k1 kwd hN2 cb hsv hsv2 hrz hp0 hqn; go_wp2_with fail
      go_quiet (fail)
      obtain ⟨EE, hEE⟩ : ∃ x, e0 - ey - ((n : Int) + (dd : Int) - (ny : Int) - (qn : Int)) * 64 = x := ⟨_, rfl⟩; rw [hEE]; have eb : -4300000000 ≤ EE ∧ EE ≤ 4300000000 := by omega
      have HE := Lib.hid hEE; obtain ⟨W3, hW3⟩ : ∃ x, x = wc.drewN nq := ⟨_, rfl⟩; have kD : Chg zNone wc W3 := by rw [hW3]; exact (Chg.refl _ _).drewN nq
      have HF3 := Lib.hid (HF.out nq); rw [← hW3] at HF3 ⊢; have d5 : W3.cell? ⟨zb, 5, none⟩ = some (.slice (some ⟨bq, oq, none⟩) qn qc) := kD.cell c5 (fun h => h); have HD3 := Lib.hid kD; clear HF c0 c1 c2 c3 c4 c5 c6 y6 hW3 kD hEE; go_upto_if 105 with fail; go_cut [13] from 14 to 115 (fun s13 wx => s13 = .int .u64 sv ∧ W3 = wx)
      case first => as_aux_lemma =>
        obtain ⟨hsv, hsv2, hrz⟩ := HS.out
        by_cases e : rn = 0
        · have d1 : decide ((0 : Int) < (rn : Int)) = false := by simp; omega
          have d2 : decide (0 < rn) = false := by simp; omega
          rw [if_pos e] at hsv
          first | rw [d1] | rw [d2]
          have Hs := Lib.hid hsv; clear hsv hsv2 hrz e d1 d2; go_wp2; go_meet; exact ⟨by rw [← Hs.out], rfl⟩
        · have d1 : decide ((0 : Int) < (rn : Int)) = true := by simp; omega
          have d2 : decide (0 < rn) = true := by simp; omega
          rw [if_neg e] at hsv
          first | rw [d1] | rw [d2]
          have Hs := Lib.hid hsv; clear hsv hsv2 hrz e d1 d2; go_wp2; go_meet; exact ⟨by rw [← Hs.out], rfl⟩
      case rest => as_aux_lemma =>
        obtain ⟨rfl, rfl⟩ := hcut; go_wp2_with fail; refine HF3.out.mono ?_; rintro e wd ⟨s, Z, rfl, f1, f2, f3, f4, f5, f6, f7⟩; have hr := HR2.out; have hdis : ∀ b o, zRow bq oq qn b o → b = bq := fun b o hh => hh.1
        have hbz : bq ≠ zb := hr.ap bq oq rfl; have k3 : Chg (zRow bq oq qn) wc wd := (HD3.out.mono (fun _ _ _ h => h.elim)).trans f3 (fun _ _ _ h => h); have hC := hr.c.chg k3 (fun o ho hh => hbz hh.1.symm)
        have hZ : ZOK wd (some ⟨bq, oq, none⟩) qc := hr.z.ints k3 (by
          rintro b o _ ⟨rfl, h1, h2⟩; have hy := f4 (o - oq) (by omega); rw [show oq + (o - oq) = o by omega] at hy
          exact ⟨_, hy⟩)
        have hle : qn ≤ qc := hr.le; have hM : FMant wd ⟨(p : Int), md, ac, 1, ng, some ⟨bq, oq, none⟩, qn, qc, e0⟩ Z := ⟨hq0, hle, by simp only; omega, Or.inr ⟨bq, oq, rfl, f4⟩, f5, f7⟩; have hN : FNum wd zb ⟨(p : Int), md, ac, 1, ng, some ⟨bq, oq, none⟩, qn, qc, e0⟩ Z := ⟨hC, hZ, hr.ap, H.out.1.p, H.out.1.md, H.out.1.fm, H.out.1.ex, fun _ => hM⟩; have HS4 := Lib.hid (setExpAndRound_any zb p ⟨(p : Int), md, ac, 1, ng, some ⟨bq, oq, none⟩, qn, qc, e0⟩ Z (EE - s) sv (decide (sv = 1)) wd hN hM rfl HS.out.2.1 (by simp)); have hsd : Stk wd p0 d' := hr.stk.sep k3 (fun b o hh => by rw [hh.1]; exact hr.sq bq oq rfl); have s64 : s < 64 := f2; have w4 : IntKind.i64.wrap (EE - (s : Int)) = EE - (s : Int) := IntWalk.i64_in _ (by omega); have HQ := Lib.hid (And.intro k3 (And.intro f5 (And.intro f6 (And.intro f7 (And.intro hM (And.intro hsd hbz)))))); clear f1 f2 f3 f4 f5 f6 f7 hr k3 hC hZ hM hN hsd hdis hbz d5; go_wp2_with fail; refine HS4.out.mono ?_; rintro e we ⟨rfl, hs⟩; obtain ⟨v', Y', g⟩ := ser_all hs HQ.out.2.2.2.2.1 (by omega); have Hg := Lib.hid g; clear hs g HS4
        have hse : Stk we p0 d' := by
          refine HQ.out.2.2.2.2.2.1.sep Hg.out.new.chg ?_; rintro b o (hh | ⟨po, e, _⟩)
          · rw [hh.1]; exact HR2.out.sz
          · injection e with e; injection e with e1 _; rw [← e1]; exact HR2.out.sq bq oq rfl
        go_wp2; refine leaves_cons (f := 101) (args := #[.pointer (some ⟨p0, 0, none⟩)]) (by simp) (by simp [go_sem]) ?_; refine (free_d p0 d' .returning we hse).mono ?_; rintro e u' w'' ⟨rfl, rfl, hrest⟩; refine ⟨_, results_none rfl _ _ _, rfl, ?_⟩; obtain ⟨d3, t1, t2, t3⟩ := hrest; obtain ⟨k3, f5, f6, f7, hM, hsd, hbz⟩ := HQ.out; obtain ⟨kw, k1, kwd, hN2, lzb, hsw, lbm, a1⟩ := HB.out; obtain ⟨hA, pB, hq1, hdn⟩ := HV.out; have hr := HR2.out; have g := Hg.out
        have hqd : ∀ s, d' = some s → s.q < wd.heap.size ∧ w.heap.size ≤ s.q := by
          intro s e; subst e; refine ⟨hsd.lt _ _ zStk_q, ?_⟩; have h1 := hr.frm.1; have h2 := kwd.size; omega
        have hzone : ∀ b o, (match d' with | none => zNone | some s => zRow s.q 0 1) b o → ∃ s, d' = some s ∧ b = s.q := by
          intro b o hh
          cases d' with
          | none => exact hh.elim
          | some s => exact ⟨s, rfl, hh.1⟩
        have kwe : Chg (zF zb ⟨(p : Int), md, ac, 1, ng, some ⟨bm, om, none⟩, n, c, e0⟩) w wd := by
          refine ((kwd.mono (fun _ _ _ h => h.elim)).trans hr.chg (fun b o hb hh => ?_)).trans k3 (fun b o hb hh => ?_)
          · rcases hh with hh | hh
            · exact hh
            · have h1 := hh.1
              have h2 := kw.size; have h3 := Hp0.out; omega
          · obtain ⟨rfl, h1, h2⟩ := hh
            have hle : qn ≤ qc := hr.le; exact Or.inr ((home_le hr.home kwd.size).zone _ _ hb ⟨oq, rfl, h1, by omega⟩)
        have hnew := g.new.base (v := ⟨(p : Int), md, ac, 1, ng, some ⟨bm, om, none⟩, n, c, e0⟩) rfl rfl (home_le hr.home kwd.size) kwe; refine ⟨v', Y', ⟨⟨g.new.num.chg t3 ?_, hnew.p, hnew.md, hnew.home, hnew.chg.trans t3 ?_⟩, g.ng, g.len, fun hx1 hx2 => ?_⟩⟩
        · intro b o hz hh
          obtain ⟨s', e, rfl⟩ := hzone b o hh
          rcases hz with hz | ⟨po, e2, _⟩
          · exact (hr.sz.2 s' e).1 hz.1.symm
          · rcases g.new.home with ⟨e3, _⟩ | ⟨b2, o2, e3, hb2⟩
            · rw [e3] at e2
              exact (hr.sq _ _ e2).2 s' e |>.1 rfl
            · rw [e3] at e2; injection e2 with e2; injection e2 with e4 _
              have := (hqd s' e).1; omega
        · intro b o hb hh
          obtain ⟨s', e, rfl⟩ := hzone b o hh; have := (hqd s' e).2; omega
        · have hee := HE.out
          have hk64 : p / 64 = k := by omega
          obtain ⟨m1, m2⟩ := val_ge_top f5 hq0 f7; rw [f6] at m2
          have hps : p + s < 64 * qn := by
            have h3 := Int.mul_le_mul_of_nonneg_right hq1 (Int.le_of_lt (two_pos s)); rw [← Int.pow_add] at h3; have := pow_lt_of (show (2 : Int) ^ (64 * (n + dd) - 64 * ny - 1 + s) < 2 ^ (64 * qn) by omega); omega
          have hl1 : qn ≤ n + dd := l1
          have hsb : decide (sv = 1) = true ↔ val (padW X dd) (n + dd) % val Y ny ≠ 0 := by
            have h1 := HS.out.1; have h2 := HS.out.2.2; simp only [decide_eq_true_eq]
            by_cases e : rn = 0
            · rw [if_pos e] at h1
              have := h2.1 e
              constructor
              · intro h; omega
              · intro h; exact absurd this h
            · rw [if_neg e] at h1
              constructor
              · intro _ h; exact e (h2.2 h)
              · intro _; omega
          have hF := g.valq (by omega) (by omega) (val (padW X dd) (n + dd)) (val Y ny) (val Q qn) s pB f6 hr.vl hsb hps; rw [hA] at hF; have hF2 := FVal.conv (c := 64 * dd) (d := 0) (N := val X n) (D := val Y ny) (by simpa using hF); rw [show EE - (s : Int) - 64 * (qn : Int) + (s : Int) + ((64 * dd : Nat) : Int) - ((0 : Nat) : Int) = e0 - ey - 64 * (n : Int) + 64 * (ny : Int) by push_cast; omega] at hF2; exact hF2
theorem FNum.setNg {w : World} {b : Nat} {v : FV} {X : Nat → Int} (h : FNum w b v X) (x : Bool) : FNum (w.setCell ⟨b, 4, none⟩ (.bool x)) b { v with ng := x } X := by
  refine ⟨h.c.setNg x, h.zset 4 _, h.ap, h.p, h.md, h.fm, h.ex, ?_⟩
  intro hf
  obtain ⟨g1, g2, g3, g4, g5, g6⟩ := h.fin hf
  refine ⟨g1, g2, g3, ?_, g5, g6⟩
  rcases g4 with hh | ⟨b', o, e', hw⟩
  · exact Or.inl hh
  · exact Or.inr ⟨b', o, e', hw.chg (chg_cell _ _ _ _) (fun i hi hh => h.ap b' o e' hh.1)⟩
set_option maxHeartbeats 4000000 in
theorem Mul_fin (zb yb p : Nat) (v vy : FV) (X Y : Nat → Int) (w : World) (h : FNum w zb v X) (hy : FNum w yb vy Y) (hf : v.fm = 1) (hfy : vy.fm = 1) (hp : v.p = (p : Int)) (hne : zb ≠ yb) (hsep : ∀ b o, zF zb v b o → ¬ zF yb vy b o) (hn : v.n < 12) (hny : vy.n < 12)
    (hK : w.cell? ⟨1, 0, none⟩ = some (.int .i64 40)) (hK1 : zb ≠ 1) :
    Calls Tryz.prog 176 #[.pointer (some ⟨zb, 0, none⟩), .pointer (some ⟨zb, 0, none⟩), .pointer (some ⟨yb, 0, none⟩)] w fun e w' => e = .returned (.pointer (some ⟨zb, 0, none⟩)) ∧ ∃ v' Z, MulAll w zb p { v with ng := v.ng != vy.ng } (val X v.n) (val Y vy.n) v.n vy.n (v.e + vy.e) w' v' Z := by
  have H := Lib.hid (And.intro h (And.intro hy (And.intro hf (And.intro hfy (And.intro hsep (And.intro hK hK1))))))
  obtain ⟨P, md, ac, fm, ng, a, n, c, e0⟩ := v
  obtain ⟨Py, mdy, acy, fmy, ngy, ay, ny, cy, ey⟩ := vy
  have hpp := h.p
  simp only at hf hfy hp hn hny hpp
  subst hf
  subst hfy
  subst hp
  obtain ⟨c0, c1, c2, c3, c4, c5, c6, cb⟩ := h.c
  obtain ⟨y0, y1, y2, y3, y4, y5, y6, yb'⟩ := hy.c
  have f4 := cb.fz 4
  simp only at c0 c1 c2 c3 c4 c5 c6 y0 y1 y2 y3 y4 y5 y6
  have d0 : ((p : Int) == 0) = false := by simp; omega
  clear h hy hsep hK hK1 cb yb'
  go_enter Tryz.func176, Tryz.ntmps176
  go_wp2_with fail
  go_cut [6] (fun s6 wc => s6 = .pointer none ∧ Hid (FNum wc zb ⟨(p : Int), md, ac, 1, ng != ngy, a, n, c, e0⟩ X ∧ FNum wc yb ⟨Py, mdy, acy, 1, ngy, ay, ny, cy, ey⟩ Y ∧ Chg (zRow zb 0 7) w wc))
  case first => as_aux_lemma =>
    refine wp_region_noPanic ?_
    go_still_tail 12, (by kernel_rfl)
    go_wp2
    refine NoPanic.normal ?_
    go_wp2
    go_meet
    have kd : Chg zNone w w.drew := (Chg.refl _ _).drew
    have k4 := chg_cell w.drew zb 4 (.bool (ng != ngy))
    refine ⟨rfl, (H.out.1.chg kd (fun _ _ _ h => h)).setNg _, (H.out.2.1.chg kd (fun _ _ _ h => h)).chg k4 (fun b' o hh hz => H.out.2.2.2.2.1 b' o (Or.inl ⟨hz.1, by omega, by have := hz.2.2; omega⟩) hh), (kd.mono (fun _ _ _ h => h.elim)).trans k4 (fun b' o _ hh => ⟨hh.1, by omega, by have := hh.2.2; omega⟩)⟩
  case rest => as_aux_lemma =>
    obtain ⟨rfl, HC⟩ := hcut
    have HU := Lib.hid (umul_other zb yb p ⟨(p : Int), md, ac, 1, ng != ngy, a, n, c, e0⟩ ⟨Py, mdy, acy, 1, ngy, ay, ny, cy, ey⟩ X Y wc HC.out.1 HC.out.2.1 rfl rfl rfl hne H.out.2.2.2.2.1 hn hny (HC.out.2.2.cell H.out.2.2.2.2.2.1 (fun hh => H.out.2.2.2.2.2.2 hh.1.symm)))
    clear c0 c1 c2 c3 c4 c5 c6 y0 y1 y2 y3 y4 y5 y6 f4
    obtain ⟨c0, c1, c2, c3, c4, c5, c6, cb⟩ := HC.out.1.c
    obtain ⟨y0, y1, y2, y3, y4, y5, y6, yb'⟩ := HC.out.2.1.c
    simp only at c0 c1 c2 c3 c4 c5 c6 y0 y1 y2 y3 y4 y5 y6
    clear cb yb'
    go_wp2_with fail
    refine HU.out.mono ?_
    rintro e w2 ⟨rfl, hu⟩
    have Hu := Lib.hid hu
    clear hu
    go_wp2
    go_ret
    refine ⟨rfl, ?_⟩
    have hx := H.out.1.fin rfl
    have hy := H.out.2.1.fin rfl
    simp only at hx hy
    obtain ⟨x1, x2⟩ := val_ge_top hx.2.2.2.2.1 hx.1 hx.2.2.2.2.2
    obtain ⟨y1, y2⟩ := val_ge_top hy.2.2.2.2.1 hy.1 hy.2.2.2.2.2
    obtain ⟨v', Z, g⟩ := umul_res (na := n) (nb := ny) Hu.out (by omega) hx.1 hy.1 x1 x2 y1 y2
    exact ⟨v', Z, ⟨g.new.base rfl rfl (Or.inl ⟨rfl, rfl⟩) (HC.out.2.2.mono (fun _ _ _ h => Or.inl h)), g.ng, g.len, g.fms, g.val⟩⟩
end Go.Proofs.YtmgfajamanakcaaGreatDoor
