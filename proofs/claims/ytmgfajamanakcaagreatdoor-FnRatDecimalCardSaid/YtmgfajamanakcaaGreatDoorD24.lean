/- Part of the proof of FnParse: what the functions that it reaches do, as contracts. Conditions: those that each theorem names. -/
import Derived.Test.YtmgfajamanakcaaGreatDoorD22
import Derived.Test.YtmgfajamanakcaaGreatDoorD23
import Derived.Test.YtmgfajamanakcaaGreatDoorD11
namespace Go.Proofs.YtmgfajamanakcaaGreatDoor
set_option linter.unusedVariables false
set_option linter.unusedSimpArgs false
open Go Go.RowKit
set_option maxRecDepth 100000
theorem divisors_few (p m : Nat) (w : World) (hm : m ≤ 8) (h9 : w.cell? ⟨9, 0, none⟩ = some (.int .i64 8)) :
    Calls Tryz.prog 202 #[.pointer (some ⟨p, 0, none⟩), .int .i64 (m : Int), .int .u64 10, .int .i64 19, .int .u64 10000000000000000000] w fun e w' => e = .returned (.slice none 0 0) ∧ w' = w := by
  have h1 : decide ((m : Int) ≤ 8) = true := by simp; omega
  go_enter Tryz.func202, Tryz.ntmps202
  go_wp2
  go_ret
  exact ⟨rfl, rfl⟩
theorem info281 : (Tryz.prog.info? 281).map (fun i => (i.zero, i.size, i.bytes)) = some (some (.agg #[.slice none 0 0, .int .i64 0, .int .i64 0]), 3, 40) := by kernel_rfl
theorem run_make_divs (w : World) (k : Nat) (hk : k ≤ 64) :
    (Instr.makeSlice 253 (.int .i64 (k : Int)) (.int .i64 (k : Int))).run Tryz.prog w = .ok (.slice (some ⟨w.heap.size, 0, none⟩) k k) (w.alloc (.cells (madeCells #[.slice none 0 0, .int .i64 0, .int .i64 0] (k * 3)) 281)) := by
  obtain ⟨i0, hi, hz0, hz1, hz2⟩ := info_parts info281
  have := run_make (P := Tryz.prog) w 253 281 i0 _ Tryz.underlying253 hi hz0 .i64 .i64 (k : Int) (k : Int) (by omega) (by omega) (by rw [hz2]; omega) (by omega)
  rw [this, hz1]
  rfl
structure DivE (w0 w : World) (tb j : Nat) (a : Option Addr) (m c : Nat) (X : Nat → Int) (nd L : Nat) : Prop where
  c0 : w.cell? ⟨tb, j * 3, none⟩ = some (.slice a m c)
  c1 : w.cell? ⟨tb, j * 3 + 1, none⟩ = some (.int .i64 L)
  c2 : w.cell? ⟨tb, j * 3 + 2, none⟩ = some (.int .i64 nd)
  z : ZOK w a c
  rd : Rd w a m X
  wf : WF X m
  le : m ≤ c
  nm : Norm X m
  v : val X m = 10 ^ nd
  n0 : 0 < nd
  lo : 152 * (j + 1) ≤ nd
  m16 : m ≤ 16
  l0 : 0 < L
  l1 : 2 ^ (L - 1) ≤ (10 : Int) ^ nd
  l2 : (10 : Int) ^ nd < 2 ^ L
  fr : Fresh w0 a
  ne : ∀ b o, a = some ⟨b, o, none⟩ → b ≠ tb
  first : j = 0 → m ≤ 8
structure TabS (w0 w : World) (tb k i : Nat) : Prop where
  pb : PB w tb
  done : ∀ j, j < i → ∃ a m c X nd L, DivE w0 w tb j a m c X nd L
  zero : ∀ j, i ≤ j → j < k → w.cell? ⟨tb, j * 3, none⟩ = some (.slice none 0 0) ∧ w.cell? ⟨tb, j * 3 + 1, none⟩ = some (.int .i64 0) ∧ w.cell? ⟨tb, j * 3 + 2, none⟩ = some (.int .i64 0)
  ge : w0.heap.size ≤ tb
  k : Chg zNone w0 w
structure Grow (wB w : World) (tb i : Nat) (a : Option Addr) (m c lb lo lc nd : Nat) (X Y : Nat → Int) : Prop where
  c0 : w.cell? ⟨tb, i * 3, none⟩ = some (.slice a m c)
  c2 : w.cell? ⟨tb, i * 3 + 2, none⟩ = some (.int .i64 nd)
  z : ZOK w a c
  le : m ≤ c
  rd : Rd w a m X
  wf : WF X m
  nm : Norm X m
  v : val X m = 10 ^ nd
  n0 : 0 < nd
  low : 152 * (i + 1) ≤ nd
  m0 : 0 < m
  m16 : m ≤ 16
  fr : Fresh wB a
  lw : Words w lb lo m Y
  lr : Room w lb lo m
  lwf : WF Y m
  lv : val Y m = 10 ^ nd
  lf : wB.heap.size ≤ lb
  ln : ∀ b o, a = some ⟨b, o, none⟩ → b ≠ lb
  k : Chg (zRow tb (i * 3) 3) wB w
theorem norm_of_ge {X : Nat → Int} {m : Nat} (hw : WF X m) (h0 : 0 < m) (h : BB ^ (m - 1) ≤ val X m) : Norm X m := by
  refine Or.inr (fun hz => ?_)
  obtain ⟨k, rfl⟩ : ∃ k, m = k + 1 := ⟨m - 1, by omega⟩
  rw [Nat.add_sub_cancel] at h hz
  rw [val, hz] at h
  have := val_lt (show WF X k from fun i hi => hw i (by omega))
  omega
theorem ten_bound {nd m : Nat} (hm : m ≤ 16) (h : (10 : Int) ^ nd < BB ^ m) : nd < 400 := by
  rcases Nat.lt_or_ge nd 400 with h1 | h1
  · exact h1
  · exfalso
    have e1 := ipow_le (show (1 : Int) ≤ 10 by decide) h1
    have e2 := ipow_le (show (1 : Int) ≤ BB by decide) hm
    have e3 : BB ^ 16 < (10 : Int) ^ 400 := by decide +kernel
    omega
theorem TabS.next {w0 wB w : World} {tb k i : Nat} (h : TabS w0 wB tb k i) (hk : Chg (zRow tb (i * 3) 3) wB w) {a : Option Addr} {m c : Nat} {X : Nat → Int} {nd L : Nat} (hE : DivE w0 w tb i a m c X nd L) : TabS w0 w tb k (i + 1) := by
  refine ⟨h.pb.chg hk, ?_, ?_, h.ge, h.k.trans hk (fun b o hb hz => by have := hz.1; have := h.ge; omega)⟩
  · intro j hj
    by_cases hji : j = i
    · subst hji; exact ⟨a, m, c, X, nd, L, hE⟩
    · obtain ⟨a', m', c', X', nd', L', e⟩ := h.done j (by omega)
      refine ⟨a', m', c', X', nd', L', hk.cell e.c0 ?_, hk.cell e.c1 ?_, hk.cell e.c2 ?_, e.z.chg hk ?_, rd_far e.rd hk ?_, e.wf, e.le, e.nm, e.v, e.n0, e.lo, e.m16, e.l0, e.l1, e.l2, e.fr, e.ne, e.first⟩
      · intro hz; have := hz.2; omega
      · intro hz; have := hz.2; omega
      · intro hz; have := hz.2; omega
      · rintro b o ⟨p, e', _⟩ hz; exact e.ne b p e' hz.1
      · rintro b o i e' _ hz; exact e.ne b o e' hz.1
  · intro j hj hjk
    obtain ⟨z0, z1, z2⟩ := h.zero j (by omega) hjk
    exact ⟨hk.cell z0 (fun hz => by have := hz.2; omega), hk.cell z1 (fun hz => by have := hz.2; omega), hk.cell z2 (fun hz => by have := hz.2; omega)⟩
set_option maxHeartbeats 4000000 in
theorem divisors_many (p m k : Nat) (w : World) (hm : 8 < m) (hk : (k = 1 ∧ m < 18) ∨ (k = 2 ∧ 18 ≤ m ∧ m < 34)) (h9 : w.cell? ⟨9, 0, none⟩ = some (.int .i64 8))
    (h1 : w.cell? ⟨1, 0, none⟩ = some (.int .i64 40)) (h5 : w.cell? ⟨5, 0, none⟩ = some (.int .i64 12)) (h6 : w.cell? ⟨6, 0, none⟩ = some (.int .i64 80)) :
    Calls Tryz.prog 202 #[.pointer (some ⟨p, 0, none⟩), .int .i64 (m : Int), .int .u64 10, .int .i64 19, .int .u64 10000000000000000000] w fun e w' => ∃ tb, e = .returned (.slice (some ⟨tb, 0, none⟩) k k) ∧ TabS w w' tb k k := by
  have d1 : decide ((m : Int) ≤ 8) = false := by simp; omega
  have HG := Lib.hid (And.intro h9 (And.intro h1 (And.intro h5 h6)))
  have hMk := run_make_divs w k (by omega)
  clear h1 h5 h6
  go_enter Tryz.func202, Tryz.ntmps202
  go_upto_block 0 with fail
  go_cut [11, 12] (fun s11 s12 wc => s11 = .int .i64 (k : Int) ∧ wc = w)
  case first =>
    go_wp2_with fail
    go_loopg [11, 12] (k - 1) (fun g s11 s12 wc => (wc = w ∧ True) ∧ ((s11 = .int .i64 1 ∧ s12 = .int .i64 8 ∧ g + 1 = k) ∨ (s11 = .int .i64 2 ∧ s12 = .int .i64 16 ∧ k = 2 ∧ g = 0)))
    case atStart => exact ⟨⟨rfl, trivial⟩, Or.inl ⟨rfl, rfl, by omega⟩⟩
    case round =>
      obtain ⟨⟨rfl, -⟩, ⟨rfl, rfl, hg⟩ | ⟨rfl, rfl, hk2, hg⟩⟩ := hrel
      · rcases hk with ⟨rfl, hm2⟩ | ⟨rfl, hm2, hm3⟩
        · have e1 : decide (8 < (m : Int) / 2) = false := by simp; omega
          go_wp2_with fail
          go_meet
          exact ⟨rfl, rfl⟩
        · have e1 : decide (8 < (m : Int) / 2) = true := by simp; omega
          go_wp2_with fail
          go_roundg 0
          case measure => omega
          case rel => exact ⟨by simp, Or.inr ⟨rfl, rfl, by simp, by simp⟩⟩
      · have e1 : decide (16 < (m : Int) / 2) = false := by simp; omega
        subst hk2
        go_wp2_with fail
        go_meet
        exact ⟨rfl, rfl⟩
  case rest =>
    obtain ⟨rfl, rfl⟩ := hcut
    obtain ⟨wT, hwT⟩ : ∃ wT, wT = wc.alloc (.cells (madeCells #[.slice none 0 0, .int .i64 0, .int .i64 0] (k * 3)) 281) := ⟨_, rfl⟩
    have hT0 : TabS wc wT wc.heap.size k 0 := by
      rw [hwT]
      refine ⟨PB.new _ _ _, fun j hj => by omega, fun j _ hj => ⟨?_, ?_, ?_⟩, Nat.le_refl _, (Chg.refl _ _).alloc _⟩
      · refine cell?_alloc_new wc _ _ _ _ ?_
        simp [madeCells, show j * 3 < k * 3 by omega, show j * 3 % 3 = 0 by omega]
      · refine cell?_alloc_new wc _ _ _ _ ?_
        simp [madeCells, show j * 3 + 1 < k * 3 by omega, show (j * 3 + 1) % 3 = 1 by omega]
      · refine cell?_alloc_new wc _ _ _ _ ?_
        simp [madeCells, show j * 3 + 2 < k * 3 by omega, show (j * 3 + 2) % 3 = 2 by omega]
    have hT : Hid (TabS wc wT wc.heap.size k 0) := hT0
    obtain ⟨k', hk'⟩ : ∃ k', k = k' + 1 := ⟨k - 1, by omega⟩
    have z2 := (hT0.zero k' (by omega) (by omega)).2.2
    have e0 : ((k : Int) - 1) = (k' : Int) := by omega
    have e1 : (0 : Int) ≤ (k' : Int) := by omega
    have e2 : (k' : Int) < (k : Int) := by omega
    clear hT0
    rw [← hwT] at hMk
    have HWT := Lib.hid hwT
    have HK' := Lib.hid hk'
    clear hwT hk'
    go_wp2_with fail
    go_loopg [15] k (fun g s15 wd => ∃ i, i + g = k ∧ ((i = 0 ∧ s15 = .int .i64 0) ∨ (i = 1 ∧ s15 = .int .i64 1) ∨ (i = 2 ∧ s15 = .int .i64 2)) ∧ Hid (TabS wc wd wc.heap.size k i))
    case atStart => exact ⟨0, by omega, Or.inl ⟨rfl, rfl⟩, hT.out⟩
    case round =>
      obtain ⟨wB, hwB⟩ : ∃ x, x = wr := ⟨_, rfl⟩
      subst hwB
      obtain ⟨g0, hg0⟩ : ∃ x, x = gk := ⟨_, rfl⟩
      subst hg0
      obtain ⟨i, hik, hi, HI⟩ := hrel
      rcases hi with ⟨rfl, rfl⟩ | ⟨rfl, rfl⟩ | ⟨rfl, rfl⟩
      · skip
        have htb := HI.out.pb
        obtain ⟨z0, z1, z2⟩ := HI.out.zero 0 (by omega) (by omega)
        simp only [Nat.reduceMul, Nat.reduceAdd, Nat.zero_add] at z0 z1 z2
        have f0 := htb.fz 0
        have f2 := htb.fz 2
        have h9 := HI.out.k.cell HG.out.1 (fun h => h)
        have dk : decide ((0 : Int) < (k : Int)) = true := by simp; omega
        have dk2 : (0 : Int) < (k : Int) := by omega
        have HE := Lib.hid (expWW_any p 10000000000000000000 8 wB ⟨by decide, by decide⟩ ⟨by decide, by decide⟩ (by decide) (by decide) (by decide +kernel) (HI.out.k.cell HG.out.2.1 (fun h => h)) (HI.out.k.cell HG.out.2.2.1 (fun h => h)) (HI.out.k.cell HG.out.2.2.2 (fun h => h)))
        clear htb
        go_wp2_with fail
        refine HE.out.mono ?_
        rintro e w1 ⟨a, n, c, X, rfl, g1, g2, g3, g4, g5, g6, g7, g8⟩
        have hv : val X n = 10 ^ 152 := by rw [g6]; decide +kernel
        have hn8 : n ≤ 8 := norm_le (N := 8) g4 g5 (by rw [hv]; decide +kernel)
        have HFirst := Lib.hid hn8
        have hn16 : n ≤ 16 := by omega
        obtain ⟨nd, hnd⟩ : ∃ nd : Nat, nd = 152 := ⟨_, rfl⟩
        have hndi : (152 : Int) = (nd : Int) := by omega
        have hv : val X n = 10 ^ nd := by rw [hnd]; exact hv
        have hnd0 : 0 < nd := by omega
        have hlo : 152 * (0 + 1) ≤ nd := by omega
        have hn0 : 0 < n := by
          rcases Nat.eq_zero_or_pos n with h | h
          · subst h; have := ten_pos nd; rw [← hv] at this; exact absurd this (by simp [val])
          · exact h
        have k1 : Chg zNone wB w1 := g8.mono (fun _ _ _ h => (no_zone h).elim)
        have hfr : Fresh wB a := by
          rcases g7 with ⟨h, _⟩ | h
          · exact Or.inl h
          · exact Or.inr h
        have HA := Lib.hid (And.intro g1 (And.intro g2 (And.intro g3 (And.intro g4 (And.intro g5 (And.intro hv (And.intro hn0 (And.intro hn16 (And.intro hfr (And.intro k1 (And.intro hnd0 hlo)))))))))))
        have h9 := k1.cell h9 (fun h => h)
        have z0 := k1.cell z0 (fun h => h)
        have z1 := k1.cell z1 (fun h => h)
        have z2 := k1.cell z2 (fun h => h)
        have hpb1 := HI.out.pb.chg k1
        have h99 : wc.heap.size ≠ 9 := by have := lt_of_cell HG.out.1; omega
        have h9s : (w1.setCell ⟨wc.heap.size, 0, none⟩ (.slice a n c)).cell? ⟨9, 0, none⟩ = some (.int .i64 8) := (chg_cell w1 wc.heap.size 0 (.slice a n c)).cell h9 (fun h => h99 h.1.symm)
        have f0 := hpb1.fz 0
        have f2 := hpb1.fz 2
        have Hpb1 := Lib.hid hpb1
        have hs1 := hpb1.lt
        have Hndi := Lib.hid hnd
        obtain ⟨w2, hw2⟩ : ∃ w2, w2 = (w1.setCell ⟨wc.heap.size, 0, none⟩ (.slice a n c)).setCell ⟨wc.heap.size, 2, none⟩ (.int .i64 (nd : Int)) := ⟨_, rfl⟩
        have kS : Chg (zRow wc.heap.size 0 3) w1 w2 := by rw [hw2]; exact ((Chg.refl _ _).setCell _ _ _ (fun _ => ⟨rfl, by omega, by omega⟩)).setCell _ _ _ (fun _ => ⟨rfl, by omega, by omega⟩)
        have y0 : w2.cell? ⟨wc.heap.size, 0, none⟩ = some (.slice a n c) := by rw [hw2, cs_other (by omega)]; exact cs_same z0
        have y2 : w2.cell? ⟨wc.heap.size, 2, none⟩ = some (.int .i64 (nd : Int)) := by rw [hw2]; exact cs_same (by rw [cs_other (by omega)]; exact z2)
        have sa : ∀ b o, a = some ⟨b, o, none⟩ → b ≠ wc.heap.size := fun b o e => fresh_far hfr HI.out.pb.lt e
        have hr2 : Rd w2 a n X := rd_far g3 kS (by rintro b o i e _ hz; exact sa b o e hz.1)
        have hz2' : ZOK w2 a c := g2.chg kS (by rintro b o ⟨p', e, _⟩ hz; exact sa b p' e hz.1)
        have HSt := Lib.hid (set_any none a 0 0 n c X w2 (Or.inl ⟨rfl, rfl⟩) hr2 g1 (by omega))
        have HB := Lib.hid (And.intro hr2 (And.intro hz2' (And.intro kS (And.intro y0 y2))))
        have HW2 := Lib.hid hw2
        have HSa := Lib.hid sa
        clear g1 g2 g3 g4 g5 g6 g7 g8 hv hn0 hfr k1 hnd hn16 hnd0 hlo hpb1 hs1 kS hr2 hz2' sa
        go_upto_region 21 with fail
        rw [← hw2]
        clear hw2 z0 z1 z2 f0 f2
        go_wp2_with fail
        refine HSt.out.mono ?_
        rintro e w3 ⟨la, lc, rfl, g1, g2, g3, g4, g5⟩
        obtain ⟨b1, b2, b3, b4, b5⟩ := HB.out
        obtain ⟨a1, a2, a3, a4, a5, a6, a7, a8, a9, a10, a11, a12⟩ := HA.out
        have k5 : Chg zNone w2 w3 := g5.mono (fun _ _ _ h => (no_zone h).elim)
        obtain ⟨lb, lo, rfl, lW⟩ : ∃ lb lo, la = some ⟨lb, lo, none⟩ ∧ Words w3 lb lo n X := by
          rcases g3 with h | h
          · omega
          · exact h
        have hlb : w2.heap.size ≤ lb := by
          rcases g4 with ⟨h, _⟩ | ⟨b, o, e, hb⟩
          · cases h
          · injection e with e; injection e with e1 _; omega
        have hlr : Room w3 lb lo n := by
          rcases g2 with ⟨h, _⟩ | ⟨b, o, e, _, hr, _⟩
          · cases h
          · injection e with e; injection e with e1 e2; subst e1; subst e2; exact hr.le g1
        have Hlc := Lib.hid g1
        have hss : wB.heap.size ≤ w2.heap.size := Nat.le_trans a10.size b3.size
        have hG : Grow wB w3 wc.heap.size 0 a n c lb lo lc nd X X := by
          refine ⟨k5.cell b4 (fun h => h), k5.cell b5 (fun h => h), b2.chg k5 (fun _ _ _ h => h), a1, rd_far b1 k5 (fun _ _ _ _ _ h => h), a4, a5, a6, a11, a12, a7, a8, a9, lW, hlr, a4, a6, Nat.le_trans hss hlb, ?_, ?_⟩
          · intro b o e
            rcases b2 with ⟨h, _⟩ | ⟨b', o', e', hp, _⟩
            · rw [h] at e; cases e
            · rw [e'] at e; injection e with e; injection e with e1 _; have := hp.lt; omega
          · exact ((a10.mono (Z' := zRow wc.heap.size 0 3) (fun _ _ _ h => h.elim)).trans b3 (fun _ _ _ h => h)).trans k5 (fun _ _ _ h => h.elim)
        have HGr := Lib.hid hG
        have Hk3 := Lib.hid (HI.out.k.trans hG.k (fun b o hb hz => by have := hz.1; omega))
        clear g1 g2 g3 g4 g5 b1 b2 b3 b4 b5 a1 a2 a3 a4 a5 a6 a7 a8 a9 a10 a11 a12 k5 lW hlb hlr hss hG y0 y2
        go_wp2_with fail
        have hnd4 : nd < 400 := ten_bound HGr.out.m16 (by rw [← HGr.out.v]; exact val_lt HGr.out.wf)
        go_loopg [104] (400 - nd) (fun g s104 wd => ∃ a c nd X Y, g + nd = 400 ∧ Hid (Grow wB wd wc.heap.size 0 a n c lb lo lc nd X Y))
        case atStart => exact ⟨a, c, nd, X, X, by omega, HGr.out⟩
        case round => as_aux_lemma =>
          clear HGr Hndi hndi hnd4
          obtain ⟨a, c, nd, X, Y, hg, HQ⟩ := hrel
          have y0 := HQ.out.c0
          have y2 := HQ.out.c2
          simp only [Nat.reduceMul, Nat.reduceAdd, Nat.zero_add] at y0 y2
          have HM := Lib.hid (mulAddVWW_any lb lo lb lo n lc lc Y 10 0 wr (by have := HQ.out.m16; omega) HQ.out.lw HQ.out.lwf HQ.out.lr (Or.inr (Or.inl (Nat.le_refl _))) ⟨by decide, by decide⟩ ⟨by decide, by decide⟩)
          go_wp2_with fail
          refine HM.out.mono ?_
          rintro e w4 ⟨cy, rfl, Z, m1, m2, m3, m4, m5⟩
          have hlbw : wB.heap.size ≤ lb := HQ.out.lf
          have htl : wc.heap.size < wB.heap.size := HI.out.pb.lt
          have y0 := m1.cell y0 (fun hz => by have := hz.1; omega)
          have y2 := m1.cell y2 (fun hz => by have := hz.1; omega)
          have hpb4 := (HI.out.pb.chg HQ.out.k).chg m1
          have f0 := hpb4.fz 0
          have f1 := hpb4.fz 1
          have f2 := hpb4.fz 2
          have hz4 : ZOK w4 a c := HQ.out.z.chg m1 (by rintro b o ⟨p', e, _⟩ hz; exact HQ.out.ln b p' e hz.1)
          have hr4 : Rd w4 a n X := rd_far HQ.out.rd m1 (by rintro b o i e _ hz; exact HQ.out.ln b o e hz.1)
          have sa : ∀ b o, a = some ⟨b, o, none⟩ → b ≠ wc.heap.size := fun b o e => fresh_far HQ.out.fr htl e
          have kB : Chg (zRow wc.heap.size (0 * 3) 3) wB w4 := HQ.out.k.trans m1 (fun b o hb hz => by have := hz.1; omega)
          by_cases hcy : cy = 0
          · have hc0 : (cy == 0) = true := by simp [hcy]
            have hZv : val Z n = 10 ^ (nd + 1) := by
              rw [hcy, HQ.out.lv] at m5
              rw [Int.pow_succ]
              omega
            have hZw : Words w4 lb lo n Z := m2
            have hnd1 : nd + 1 < 400 := ten_bound HQ.out.m16 (by rw [← hZv]; exact val_lt m3)
            have hlr4 : Room w4 lb lo n := hZw.room (HQ.out.lr.free.chg (X := Y) HQ.out.lw m1)
            have HSt2 := Lib.hid (set_any a (some ⟨lb, lo, none⟩) n c n lc Z w4 hz4 (Or.inr ⟨_, _, rfl, m2⟩) Hlc.out (by have := HQ.out.m16; omega))
            have HD := Lib.hid (And.intro m3 (And.intro hZv (And.intro hZw (And.intro hlr4 (And.intro hnd1 (And.intro hpb4 (And.intro kB sa)))))))
            clear m1 m2 m3 m4 m5 hlbw htl hpb4 hz4 hr4 sa kB hZv hZw hnd1 hlr4
            go_wp2_with fail
            refine HSt2.out.mono ?_
            rintro e w5 ⟨a2, c2, rfl, g1, g2, g3, g4, g5⟩
            obtain ⟨m3, hZv, hZw, hlr4, hnd1, hpb4, kB, sa⟩ := HD.out
            have y0 := g5.cell y0 (by rintro ⟨p', e, _⟩; exact sa _ p' e rfl)
            have y2 := g5.cell y2 (by rintro ⟨p', e, _⟩; exact sa _ p' e rfl)
            have hpb5 := hpb4.chg g5
            have f0 := hpb5.fz 0
            have f2 := hpb5.fz 2
            have sa2 : ∀ b o, a2 = some ⟨b, o, none⟩ → b ≠ wc.heap.size := by
              intro b o e
              rcases g4 with ⟨h, _⟩ | ⟨b', o', e', hb⟩
              · exact sa b o (h ▸ e)
              · rw [e'] at e; injection e with e; injection e with e1 _
                have h1 := hpb4.lt
                omega
            have hfr2 : Fresh wB a2 := fresh_home HQ.out.fr g4 kB.size
            have hln2 : ∀ b o, a2 = some ⟨b, o, none⟩ → b ≠ lb := by
              intro b o e
              rcases g4 with ⟨h, _⟩ | ⟨b', o', e', hb⟩
              · exact HQ.out.ln b o (h ▸ e)
              · rw [e'] at e; injection e with e; injection e with e1 _
                have h1 := lt_of_cell (hZw 0 HQ.out.m0)
                omega
            have hZw5 : Words w5 lb lo n Z := hZw.chg g5 (by rintro i hi ⟨p', e, _⟩; exact HQ.out.ln _ p' e rfl)
            have hlr5 : Room w5 lb lo n := hlr4.chg g5 (by rintro i hi ⟨p', e, _⟩; exact HQ.out.ln _ p' e rfl)
            have kB5 : Chg (zRow wc.heap.size (0 * 3) 3) wB w5 := kB.trans g5 (by
              rintro b o hb ⟨p', e, _⟩
              exact absurd rfl (fresh_far HQ.out.fr hb e))
            have HF := Lib.hid (And.intro g1 (And.intro g2 (And.intro g3 (And.intro hfr2 (And.intro hln2 (And.intro hZw5 (And.intro hlr5 (And.intro kB5 sa2))))))))
            have HY := Lib.hid (And.intro y0 y2)
            clear g1 g2 g3 g4 g5 m3 hZv hZw hlr4 hnd1 hpb4 kB sa sa2 hfr2 hln2 hZw5 hlr5 kB5 hpb5
            go_wp2_with fail
            go_roundg (400 - (nd + 1))
            case measure => have := HD.out.2.2.2.2.1; omega
            case rel =>
              obtain ⟨g1, g2, g3, g4, g5, g6, g7, g8, g9⟩ := HF.out
              obtain ⟨m3, hZv, hZw, hlr4, hnd1, hpb4, kB, sa⟩ := HD.out
              have kS : Chg (zRow wc.heap.size 0 3) w5 ((w5.setCell ⟨wc.heap.size, 0, none⟩ (.slice a2 n c2)).setCell ⟨wc.heap.size, 2, none⟩ (.int .i64 ((nd : Int) + 1))) := ((Chg.refl _ _).setCell _ _ _ (fun _ => ⟨rfl, by omega, by omega⟩)).setCell _ _ _ (fun _ => ⟨rfl, by omega, by omega⟩)
              have hge : BB ^ (n - 1) ≤ val Z n := by
                have h1 := norm_ge HQ.out.wf HQ.out.nm HQ.out.m0
                rw [HQ.out.v] at h1
                rw [hZv, Int.pow_succ]
                have := ten_pos nd
                omega
              have hl5 : wc.heap.size ≠ lb := by have := HQ.out.lf; have := HI.out.pb.lt; omega
              refine ⟨a2, c2, nd + 1, Z, Z, by omega, ?_, ?_, g2.chg kS ?_, g1, rd_far g3 kS ?_, m3, norm_of_ge m3 HQ.out.m0 hge, hZv, by omega, by have := HQ.out.low; omega, HQ.out.m0, HQ.out.m16, g4, g6.chg kS ?_, g7.chg kS ?_, m3, hZv, HQ.out.lf, g5, g8.trans kS (fun _ _ _ h => h)⟩
              · show World.cell? _ ⟨wc.heap.size, 0, none⟩ = _
                rw [cs_other (by omega)]; exact cs_same HY.out.1
              · show World.cell? _ ⟨wc.heap.size, 2, none⟩ = _
                rw [cs_same (u := .int .i64 (nd : Int)) (by rw [cs_other (by omega)]; exact HY.out.2)]
                simp
              · rintro b o ⟨p', e, _⟩ hz; exact g9 b p' e hz.1
              · rintro b o i e _ hz; exact g9 b o e hz.1
              · intro i hi hz; exact hl5 hz.1.symm
              · intro i hi hz; exact hl5 hz.1.symm
          · have hc0 : (cy == 0) = false := beq_false_of_ne hcy
            have HBl := Lib.hid (bitLen_any a n c X w4 hr4 HQ.out.wf HQ.out.m0 (by have := HQ.out.m16; omega) (by
              rcases HQ.out.nm with h | h
              · have := HQ.out.m0; omega
              · exact h))
            have y1 : ∃ v, w4.cell? ⟨wc.heap.size, 1, none⟩ = some v := by
              obtain ⟨z0, z1, z2⟩ := HI.out.zero 0 (by omega) (by omega)
              simp only [Nat.reduceMul, Nat.reduceAdd, Nat.zero_add] at z0 z1 z2
              have h := kB.isCell (b := wc.heap.size) (o := 1) (by rw [z1]; rfl)
              cases hh : w4.cell? ⟨wc.heap.size, 1, none⟩ with
              | none => rw [hh] at h; cases h
              | some v => exact ⟨v, rfl⟩
            obtain ⟨v1, y1⟩ := y1
            have HD := Lib.hid (And.intro hpb4 (And.intro hz4 (And.intro hr4 (And.intro sa (And.intro kB (And.intro y0 (And.intro y1 y2)))))))
            clear m1 m2 m3 m4 m5 hlbw htl hpb4 hz4 hr4 sa kB
            go_wp2_with fail
            refine HBl.out.mono ?_
            rintro e w6 ⟨L, rfl, l0, l1, l2, l3, rfl⟩
            rw [HQ.out.v] at l2 l3
            have HL := Lib.hid (And.intro l0 (And.intro l2 l3))
            clear l0 l1 l2 l3
            go_wp2_with fail
            go_roundg (g0 - 1)
            case measure => omega
            case rel =>
              obtain ⟨hpb4, hz4, hr4, sa, kB, y0, y1, y2⟩ := HD.out
              have kS : Chg (zRow wc.heap.size (0 * 3) 3) w6 (w6.setCell ⟨wc.heap.size, 1, none⟩ (.int .i64 (L : Int))) := (Chg.refl _ _).setCell _ _ _ (fun _ => ⟨rfl, by omega, by omega⟩)
              refine ⟨1, by omega, by simp, HI.out.next (kB.trans kS (fun _ _ _ h => h)) (a := a) (m := n) (c := c) (X := X) (nd := nd) (L := L) ⟨?_, ?_, ?_, hz4.chg kS ?_, rd_far hr4 kS ?_, HQ.out.wf, HQ.out.le, HQ.out.nm, HQ.out.v, HQ.out.n0, HQ.out.low, HQ.out.m16, HL.out.1, HL.out.2.1, HL.out.2.2, HQ.out.fr.imp id (fun ⟨b, o, e, h⟩ => ⟨b, o, e, Nat.le_trans HI.out.k.size h⟩), sa, fun _ => HFirst.out⟩⟩
              · show World.cell? _ ⟨wc.heap.size, 0, none⟩ = _
                rw [cs_other (by omega)]; exact y0
              · exact cs_same y1
              · show World.cell? _ ⟨wc.heap.size, 2, none⟩ = _
                rw [cs_other (by omega)]; exact y2
              · rintro b o ⟨p', e, _⟩ hz; exact sa b p' e hz.1
              · rintro b o i e _ hz; exact sa b o e hz.1
      · by_cases hk2 : k = 1
        · have dk : decide ((1 : Int) < (k : Int)) = false := by simp; omega
          go_wp2_with fail
          go_ret
          exact ⟨wc.heap.size, rfl, by have h := HI.out; rw [hk2] at h ⊢; exact h⟩
        · skip
          have htb := HI.out.pb
          obtain ⟨z0, z1, z2⟩ := HI.out.zero 1 (by omega) (by omega)
          simp only [Nat.reduceMul, Nat.reduceAdd, Nat.zero_add] at z0 z1 z2
          have f0 := htb.fz 3
          have f2 := htb.fz 5
          have h9 := HI.out.k.cell HG.out.1 (fun h => h)
          have dk : decide ((1 : Int) < (k : Int)) = true := by simp; omega
          have dk2 : (1 : Int) < (k : Int) := by omega
          obtain ⟨a0, m0, c0, X0, nd0, L0, E0⟩ := HI.out.done 0 (by omega)
          have HE0 := Lib.hid E0
          have hz0 := E0.c0
          have hz2 := E0.c2
          simp only [Nat.reduceMul, Nat.reduceAdd, Nat.zero_add, Nat.zero_mul] at hz0 hz2
          have hf := E0.first rfl
          have HE := Lib.hid (sqr_any none a0 0 0 m0 c0 X0 (.pointer (some ⟨p, 0, none⟩)) wB (Or.inl ⟨rfl, rfl⟩) ⟨E0.rd, E0.wf, E0.le, by omega, E0.z.aok⟩ (Or.inr disj_none) (by omega) (HI.out.k.cell HG.out.2.2.1 (fun h => h)) (HI.out.k.cell HG.out.2.2.2 (fun h => h)))
          have Hf := Lib.hid hf
          clear htb E0 hf
          go_wp2_with fail
          refine HE.out.mono ?_
          rintro e w1 ⟨a, n, c, X, rfl, g1, g2, g3, g4, g5, g6, g7, g8⟩
          have hv : val X n = 10 ^ (nd0 + nd0) := by rw [g6, HE0.out.v, ← Int.pow_add]
          have hlt8 : (10 : Int) ^ nd0 < BB ^ 8 := by
            rw [← HE0.out.v]
            have e1 := val_lt HE0.out.wf
            have e2 := ipow_le (show (1 : Int) ≤ BB by decide) Hf.out
            omega
          have hn16 : n ≤ 16 := norm_le (N := 16) g4 g5 (by
            rw [hv, Int.pow_add]
            have h0 : (0 : Int) < 10 ^ nd0 := ten_pos nd0
            have := Int.mul_lt_mul hlt8 (Int.le_of_lt hlt8) h0 (Int.le_of_lt (Int.pow_pos (show (0 : Int) < BB by decide)))
            rw [← Int.pow_add BB] at this
            exact this)
          obtain ⟨nd, hnd⟩ : ∃ nd : Nat, nd = nd0 + nd0 := ⟨_, rfl⟩
          have hndb : nd < 400 := ten_bound hn16 (by rw [hnd, ← hv]; exact val_lt g4)
          have hndi : 2 * (nd0 : Int) = (nd : Int) := by omega
          have hndw : wrap64 (nd : Int) = (nd : Int) := by unfold wrap64; omega
          have hv : val X n = 10 ^ nd := by rw [hnd]; exact hv
          have hnd0 : 0 < nd := by have := HE0.out.n0; omega
          have hlo : 152 * (1 + 1) ≤ nd := by have := HE0.out.lo; omega
          have hz2 := (show Chg zNone wB w1 from g8.mono (fun _ _ _ h => (no_zone h).elim)).cell hz2 (fun h => h)
          have hz2s : (w1.setCell ⟨wc.heap.size, 3, none⟩ (.slice a n c)).cell? ⟨wc.heap.size, 2, none⟩ = some (.int .i64 (nd0 : Int)) := by rw [cs_other (by omega)]; exact hz2
          clear hlt8 hndb
          have hn0 : 0 < n := by
            rcases Nat.eq_zero_or_pos n with h | h
            · subst h; have := ten_pos nd; rw [← hv] at this; exact absurd this (by simp [val])
            · exact h
          have k1 : Chg zNone wB w1 := g8.mono (fun _ _ _ h => (no_zone h).elim)
          have hfr : Fresh wB a := by
            rcases g7 with ⟨h, _⟩ | h
            · exact Or.inl h
            · exact Or.inr h
          have HA := Lib.hid (And.intro g1 (And.intro g2 (And.intro g3 (And.intro g4 (And.intro g5 (And.intro hv (And.intro hn0 (And.intro hn16 (And.intro hfr (And.intro k1 (And.intro hnd0 hlo)))))))))))
          have h9 := k1.cell h9 (fun h => h)
          have z0 := k1.cell z0 (fun h => h)
          have z1 := k1.cell z1 (fun h => h)
          have z2 := k1.cell z2 (fun h => h)
          have hpb1 := HI.out.pb.chg k1
          have h99 : wc.heap.size ≠ 9 := by have := lt_of_cell HG.out.1; omega
          have h9s : (w1.setCell ⟨wc.heap.size, 3, none⟩ (.slice a n c)).cell? ⟨9, 0, none⟩ = some (.int .i64 8) := (chg_cell w1 wc.heap.size 3 (.slice a n c)).cell h9 (fun h => h99 h.1.symm)
          have f0 := hpb1.fz 3
          have f2 := hpb1.fz 5
          have Hpb1 := Lib.hid hpb1
          have hs1 := hpb1.lt
          have Hndi := Lib.hid hnd
          obtain ⟨w2, hw2⟩ : ∃ w2, w2 = (w1.setCell ⟨wc.heap.size, 3, none⟩ (.slice a n c)).setCell ⟨wc.heap.size, 5, none⟩ (.int .i64 (nd : Int)) := ⟨_, rfl⟩
          have kS : Chg (zRow wc.heap.size 3 3) w1 w2 := by rw [hw2]; exact ((Chg.refl _ _).setCell _ _ _ (fun _ => ⟨rfl, by omega, by omega⟩)).setCell _ _ _ (fun _ => ⟨rfl, by omega, by omega⟩)
          have y0 : w2.cell? ⟨wc.heap.size, 3, none⟩ = some (.slice a n c) := by rw [hw2, cs_other (by omega)]; exact cs_same z0
          have y2 : w2.cell? ⟨wc.heap.size, 5, none⟩ = some (.int .i64 (nd : Int)) := by rw [hw2]; exact cs_same (by rw [cs_other (by omega)]; exact z2)
          have sa : ∀ b o, a = some ⟨b, o, none⟩ → b ≠ wc.heap.size := fun b o e => fresh_far hfr HI.out.pb.lt e
          have hr2 : Rd w2 a n X := rd_far g3 kS (by rintro b o i e _ hz; exact sa b o e hz.1)
          have hz2' : ZOK w2 a c := g2.chg kS (by rintro b o ⟨p', e, _⟩ hz; exact sa b p' e hz.1)
          have HSt := Lib.hid (set_any none a 0 0 n c X w2 (Or.inl ⟨rfl, rfl⟩) hr2 g1 (by omega))
          have HB := Lib.hid (And.intro hr2 (And.intro hz2' (And.intro kS (And.intro y0 y2))))
          have HW2 := Lib.hid hw2
          have HSa := Lib.hid sa
          clear g1 g2 g3 g4 g5 g6 g7 g8 hv hn0 hfr k1 hnd hn16 hnd0 hlo hpb1 hs1 kS hr2 hz2' sa
          go_upto_region 21 with fail
          rw [← hw2]
          clear hw2 z0 z1 z2 f0 f2
          go_wp2_with fail
          refine HSt.out.mono ?_
          rintro e w3 ⟨la, lc, rfl, g1, g2, g3, g4, g5⟩
          obtain ⟨b1, b2, b3, b4, b5⟩ := HB.out
          obtain ⟨a1, a2, a3, a4, a5, a6, a7, a8, a9, a10, a11, a12⟩ := HA.out
          have k5 : Chg zNone w2 w3 := g5.mono (fun _ _ _ h => (no_zone h).elim)
          obtain ⟨lb, lo, rfl, lW⟩ : ∃ lb lo, la = some ⟨lb, lo, none⟩ ∧ Words w3 lb lo n X := by
            rcases g3 with h | h
            · omega
            · exact h
          have hlb : w2.heap.size ≤ lb := by
            rcases g4 with ⟨h, _⟩ | ⟨b, o, e, hb⟩
            · cases h
            · injection e with e; injection e with e1 _; omega
          have hlr : Room w3 lb lo n := by
            rcases g2 with ⟨h, _⟩ | ⟨b, o, e, _, hr, _⟩
            · cases h
            · injection e with e; injection e with e1 e2; subst e1; subst e2; exact hr.le g1
          have Hlc := Lib.hid g1
          have hss : wB.heap.size ≤ w2.heap.size := Nat.le_trans a10.size b3.size
          have hG : Grow wB w3 wc.heap.size 1 a n c lb lo lc nd X X := by
            refine ⟨k5.cell b4 (fun h => h), k5.cell b5 (fun h => h), b2.chg k5 (fun _ _ _ h => h), a1, rd_far b1 k5 (fun _ _ _ _ _ h => h), a4, a5, a6, a11, a12, a7, a8, a9, lW, hlr, a4, a6, Nat.le_trans hss hlb, ?_, ?_⟩
            · intro b o e
              rcases b2 with ⟨h, _⟩ | ⟨b', o', e', hp, _⟩
              · rw [h] at e; cases e
              · rw [e'] at e; injection e with e; injection e with e1 _; have := hp.lt; omega
            · exact ((a10.mono (Z' := zRow wc.heap.size 3 3) (fun _ _ _ h => h.elim)).trans b3 (fun _ _ _ h => h)).trans k5 (fun _ _ _ h => h.elim)
          have HGr := Lib.hid hG
          have Hk3 := Lib.hid (HI.out.k.trans hG.k (fun b o hb hz => by have := hz.1; omega))
          clear g1 g2 g3 g4 g5 b1 b2 b3 b4 b5 a1 a2 a3 a4 a5 a6 a7 a8 a9 a10 a11 a12 k5 lW hlb hlr hss hG y0 y2
          go_wp2_with fail
          have hnd4 : nd < 400 := ten_bound HGr.out.m16 (by rw [← HGr.out.v]; exact val_lt HGr.out.wf)
          go_loopg [104] (400 - nd) (fun g s104 wd => ∃ a c nd X Y, g + nd = 400 ∧ Hid (Grow wB wd wc.heap.size 1 a n c lb lo lc nd X Y))
          case atStart => exact ⟨a, c, nd, X, X, by omega, HGr.out⟩
          case round => as_aux_lemma =>
            clear HGr Hndi hndi hnd4
            obtain ⟨a, c, nd, X, Y, hg, HQ⟩ := hrel
            have y0 := HQ.out.c0
            have y2 := HQ.out.c2
            simp only [Nat.reduceMul, Nat.reduceAdd, Nat.zero_add] at y0 y2
            have HM := Lib.hid (mulAddVWW_any lb lo lb lo n lc lc Y 10 0 wr (by have := HQ.out.m16; omega) HQ.out.lw HQ.out.lwf HQ.out.lr (Or.inr (Or.inl (Nat.le_refl _))) ⟨by decide, by decide⟩ ⟨by decide, by decide⟩)
            go_wp2_with fail
            refine HM.out.mono ?_
            rintro e w4 ⟨cy, rfl, Z, m1, m2, m3, m4, m5⟩
            have hlbw : wB.heap.size ≤ lb := HQ.out.lf
            have htl : wc.heap.size < wB.heap.size := HI.out.pb.lt
            have y0 := m1.cell y0 (fun hz => by have := hz.1; omega)
            have y2 := m1.cell y2 (fun hz => by have := hz.1; omega)
            have hpb4 := (HI.out.pb.chg HQ.out.k).chg m1
            have f0 := hpb4.fz 3
            have f1 := hpb4.fz 4
            have f2 := hpb4.fz 5
            have hz4 : ZOK w4 a c := HQ.out.z.chg m1 (by rintro b o ⟨p', e, _⟩ hz; exact HQ.out.ln b p' e hz.1)
            have hr4 : Rd w4 a n X := rd_far HQ.out.rd m1 (by rintro b o i e _ hz; exact HQ.out.ln b o e hz.1)
            have sa : ∀ b o, a = some ⟨b, o, none⟩ → b ≠ wc.heap.size := fun b o e => fresh_far HQ.out.fr htl e
            have kB : Chg (zRow wc.heap.size (1 * 3) 3) wB w4 := HQ.out.k.trans m1 (fun b o hb hz => by have := hz.1; omega)
            by_cases hcy : cy = 0
            · have hc0 : (cy == 0) = true := by simp [hcy]
              have hZv : val Z n = 10 ^ (nd + 1) := by
                rw [hcy, HQ.out.lv] at m5
                rw [Int.pow_succ]
                omega
              have hZw : Words w4 lb lo n Z := m2
              have hnd1 : nd + 1 < 400 := ten_bound HQ.out.m16 (by rw [← hZv]; exact val_lt m3)
              have hlr4 : Room w4 lb lo n := hZw.room (HQ.out.lr.free.chg (X := Y) HQ.out.lw m1)
              have HSt2 := Lib.hid (set_any a (some ⟨lb, lo, none⟩) n c n lc Z w4 hz4 (Or.inr ⟨_, _, rfl, m2⟩) Hlc.out (by have := HQ.out.m16; omega))
              have HD := Lib.hid (And.intro m3 (And.intro hZv (And.intro hZw (And.intro hlr4 (And.intro hnd1 (And.intro hpb4 (And.intro kB sa)))))))
              clear m1 m2 m3 m4 m5 hlbw htl hpb4 hz4 hr4 sa kB hZv hZw hnd1 hlr4
              go_wp2_with fail
              refine HSt2.out.mono ?_
              rintro e w5 ⟨a2, c2, rfl, g1, g2, g3, g4, g5⟩
              obtain ⟨m3, hZv, hZw, hlr4, hnd1, hpb4, kB, sa⟩ := HD.out
              have y0 := g5.cell y0 (by rintro ⟨p', e, _⟩; exact sa _ p' e rfl)
              have y2 := g5.cell y2 (by rintro ⟨p', e, _⟩; exact sa _ p' e rfl)
              have hpb5 := hpb4.chg g5
              have f0 := hpb5.fz 3
              have f2 := hpb5.fz 5
              have sa2 : ∀ b o, a2 = some ⟨b, o, none⟩ → b ≠ wc.heap.size := by
                intro b o e
                rcases g4 with ⟨h, _⟩ | ⟨b', o', e', hb⟩
                · exact sa b o (h ▸ e)
                · rw [e'] at e; injection e with e; injection e with e1 _
                  have h1 := hpb4.lt
                  omega
              have hfr2 : Fresh wB a2 := fresh_home HQ.out.fr g4 kB.size
              have hln2 : ∀ b o, a2 = some ⟨b, o, none⟩ → b ≠ lb := by
                intro b o e
                rcases g4 with ⟨h, _⟩ | ⟨b', o', e', hb⟩
                · exact HQ.out.ln b o (h ▸ e)
                · rw [e'] at e; injection e with e; injection e with e1 _
                  have h1 := lt_of_cell (hZw 0 HQ.out.m0)
                  omega
              have hZw5 : Words w5 lb lo n Z := hZw.chg g5 (by rintro i hi ⟨p', e, _⟩; exact HQ.out.ln _ p' e rfl)
              have hlr5 : Room w5 lb lo n := hlr4.chg g5 (by rintro i hi ⟨p', e, _⟩; exact HQ.out.ln _ p' e rfl)
              have kB5 : Chg (zRow wc.heap.size (1 * 3) 3) wB w5 := kB.trans g5 (by
                rintro b o hb ⟨p', e, _⟩
                exact absurd rfl (fresh_far HQ.out.fr hb e))
              have HF := Lib.hid (And.intro g1 (And.intro g2 (And.intro g3 (And.intro hfr2 (And.intro hln2 (And.intro hZw5 (And.intro hlr5 (And.intro kB5 sa2))))))))
              have HY := Lib.hid (And.intro y0 y2)
              clear g1 g2 g3 g4 g5 m3 hZv hZw hlr4 hnd1 hpb4 kB sa sa2 hfr2 hln2 hZw5 hlr5 kB5 hpb5
              go_wp2_with fail
              go_roundg (400 - (nd + 1))
              case measure => have := HD.out.2.2.2.2.1; omega
              case rel =>
                obtain ⟨g1, g2, g3, g4, g5, g6, g7, g8, g9⟩ := HF.out
                obtain ⟨m3, hZv, hZw, hlr4, hnd1, hpb4, kB, sa⟩ := HD.out
                have kS : Chg (zRow wc.heap.size 3 3) w5 ((w5.setCell ⟨wc.heap.size, 3, none⟩ (.slice a2 n c2)).setCell ⟨wc.heap.size, 5, none⟩ (.int .i64 ((nd : Int) + 1))) := ((Chg.refl _ _).setCell _ _ _ (fun _ => ⟨rfl, by omega, by omega⟩)).setCell _ _ _ (fun _ => ⟨rfl, by omega, by omega⟩)
                have hge : BB ^ (n - 1) ≤ val Z n := by
                  have h1 := norm_ge HQ.out.wf HQ.out.nm HQ.out.m0
                  rw [HQ.out.v] at h1
                  rw [hZv, Int.pow_succ]
                  have := ten_pos nd
                  omega
                have hl5 : wc.heap.size ≠ lb := by have := HQ.out.lf; have := HI.out.pb.lt; omega
                refine ⟨a2, c2, nd + 1, Z, Z, by omega, ?_, ?_, g2.chg kS ?_, g1, rd_far g3 kS ?_, m3, norm_of_ge m3 HQ.out.m0 hge, hZv, by omega, by have := HQ.out.low; omega, HQ.out.m0, HQ.out.m16, g4, g6.chg kS ?_, g7.chg kS ?_, m3, hZv, HQ.out.lf, g5, g8.trans kS (fun _ _ _ h => h)⟩
                · show World.cell? _ ⟨wc.heap.size, 3, none⟩ = _
                  rw [cs_other (by omega)]; exact cs_same HY.out.1
                · show World.cell? _ ⟨wc.heap.size, 5, none⟩ = _
                  rw [cs_same (u := .int .i64 (nd : Int)) (by rw [cs_other (by omega)]; exact HY.out.2)]
                  simp
                · rintro b o ⟨p', e, _⟩ hz; exact g9 b p' e hz.1
                · rintro b o i e _ hz; exact g9 b o e hz.1
                · intro i hi hz; exact hl5 hz.1.symm
                · intro i hi hz; exact hl5 hz.1.symm
            · have hc0 : (cy == 0) = false := beq_false_of_ne hcy
              have HBl := Lib.hid (bitLen_any a n c X w4 hr4 HQ.out.wf HQ.out.m0 (by have := HQ.out.m16; omega) (by
                rcases HQ.out.nm with h | h
                · have := HQ.out.m0; omega
                · exact h))
              have y1 : ∃ v, w4.cell? ⟨wc.heap.size, 4, none⟩ = some v := by
                obtain ⟨z0, z1, z2⟩ := HI.out.zero 1 (by omega) (by omega)
                simp only [Nat.reduceMul, Nat.reduceAdd, Nat.zero_add] at z0 z1 z2
                have h := kB.isCell (b := wc.heap.size) (o := 4) (by rw [z1]; rfl)
                cases hh : w4.cell? ⟨wc.heap.size, 4, none⟩ with
                | none => rw [hh] at h; cases h
                | some v => exact ⟨v, rfl⟩
              obtain ⟨v1, y1⟩ := y1
              have HD := Lib.hid (And.intro hpb4 (And.intro hz4 (And.intro hr4 (And.intro sa (And.intro kB (And.intro y0 (And.intro y1 y2)))))))
              clear m1 m2 m3 m4 m5 hlbw htl hpb4 hz4 hr4 sa kB
              go_wp2_with fail
              refine HBl.out.mono ?_
              rintro e w6 ⟨L, rfl, l0, l1, l2, l3, rfl⟩
              rw [HQ.out.v] at l2 l3
              have HL := Lib.hid (And.intro l0 (And.intro l2 l3))
              clear l0 l1 l2 l3
              go_wp2_with fail
              go_roundg (g0 - 1)
              case measure => omega
              case rel =>
                obtain ⟨hpb4, hz4, hr4, sa, kB, y0, y1, y2⟩ := HD.out
                have kS : Chg (zRow wc.heap.size (1 * 3) 3) w6 (w6.setCell ⟨wc.heap.size, 4, none⟩ (.int .i64 (L : Int))) := (Chg.refl _ _).setCell _ _ _ (fun _ => ⟨rfl, by omega, by omega⟩)
                refine ⟨2, by omega, by simp, HI.out.next (kB.trans kS (fun _ _ _ h => h)) (a := a) (m := n) (c := c) (X := X) (nd := nd) (L := L) ⟨?_, ?_, ?_, hz4.chg kS ?_, rd_far hr4 kS ?_, HQ.out.wf, HQ.out.le, HQ.out.nm, HQ.out.v, HQ.out.n0, HQ.out.low, HQ.out.m16, HL.out.1, HL.out.2.1, HL.out.2.2, HQ.out.fr.imp id (fun ⟨b, o, e, h⟩ => ⟨b, o, e, Nat.le_trans HI.out.k.size h⟩), sa, fun h => absurd h (by omega)⟩⟩
                · show World.cell? _ ⟨wc.heap.size, 3, none⟩ = _
                  rw [cs_other (by omega)]; exact y0
                · exact cs_same y1
                · show World.cell? _ ⟨wc.heap.size, 5, none⟩ = _
                  rw [cs_other (by omega)]; exact y2
                · rintro b o ⟨p', e, _⟩ hz; exact sa b p' e hz.1
                · rintro b o i e _ hz; exact sa b o e hz.1
      · have hk2 : k = 2 := by omega
        have dk : decide ((2 : Int) < (k : Int)) = false := by simp; omega
        go_wp2_with fail
        go_ret
        exact ⟨wc.heap.size, rfl, by have h := HI.out; rw [hk2] at h ⊢; exact h⟩
end Go.Proofs.YtmgfajamanakcaaGreatDoor
