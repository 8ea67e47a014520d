/- Part of the proof of FnParse: what the functions that it reaches do, as contracts. Conditions: those that each theorem names. -/
import Derived.Test.YtmgfajamanakcaaGreatDoorD27
import Derived.Test.YtmgfajamanakcaaGreatDoorD28
import Derived.Test.YtmgfajamanakcaaGreatDoorD15
import Derived.Test.YtmgfajamanakcaaGreatDoorD16
namespace Go.Proofs.YtmgfajamanakcaaGreatDoor
set_option linter.unusedVariables false
set_option linter.unusedSimpArgs false
open Go.RowKit
set_option maxRecDepth 100000
theorem Stk.lt {w : World} {p : Nat} {d : Option SD} (h : Stk w p d) : ∀ b o, zStk p d b o → b < w.heap.size := by
  intro b o hz
  cases d with
  | none => rw [hz.1]; exact lt_of_cell h.1
  | some s =>
    obtain ⟨⟨h1, _⟩, ⟨h3, _⟩, _, h6, _, _⟩ := h
    rcases hz with hz | hz | ⟨po, e, h8, h9⟩
    · rw [hz.1]; exact lt_of_cell h1
    · rw [hz.1]; exact lt_of_cell h3
    · rcases h6 with ⟨e2, _⟩ | ⟨b2, o2, e2, hp, _⟩
      · rw [e2] at e; cases e
      · rw [e2] at e; injection e with e; injection e with e3 _; rw [← e3]; exact hp.lt
theorem zStk_p {p : Nat} {d : Option SD} : zStk p d p 0 := by
  cases d with
  | none => exact ⟨rfl, by omega, by omega⟩
  | some s => exact Or.inl ⟨rfl, by omega, by omega⟩
theorem zStk_q {p : Nat} {s : SD} : zStk p (some s) s.q 0 := Or.inr (Or.inl ⟨rfl, by omega, by omega⟩)
def SepB (p : Nat) (d : Option SD) (b : Nat) : Prop := b ≠ p ∧ ∀ s, d = some s → b ≠ s.q ∧ ∀ b' o, s.a = some ⟨b', o, none⟩ → b ≠ b'
theorem SepB.z {p : Nat} {d : Option SD} {b : Nat} (h : SepB p d b) : ∀ o, ¬ zStk p d b o := by
  intro o hh
  cases d with
  | none => exact h.1 hh.1
  | some s =>
    rcases hh with hh | hh | ⟨po, e, _⟩
    · exact h.1 hh.1
    · exact (h.2 s rfl).1 hh.1
    · exact (h.2 s rfl).2 b po e rfl
theorem SepB.from {w : World} {p : Nat} {d d' : Option SD} {b : Nat} (h : SepB p d b) (k : StkFrom w d d') (hb : b < w.heap.size) : SepB p d' b := by
  refine ⟨h.1, fun s' e => ?_⟩
  subst e
  cases d with
  | none =>
    refine ⟨by have := k.1; omega, fun b' o e2 => ?_⟩
    rcases k.2 with h2 | ⟨b3, o3, h2, h3⟩
    · rw [h2] at e2; cases e2
    · rw [h2] at e2; injection e2 with e2; injection e2 with e4 _; omega
  | some s =>
    obtain ⟨h1, h2⟩ := h.2 s rfl
    refine ⟨by rw [k.1]; exact h1, fun b' o e2 => ?_⟩
    rcases k.2.2 with ⟨e3, _⟩ | h4 | ⟨b3, o3, h4, h3⟩
    · rw [e3] at e2; exact h2 b' o e2
    · rw [h4] at e2; cases e2
    · rw [h4] at e2; injection e2 with e2; injection e2 with e4 _; omega
theorem Stk.sep_new {w : World} {p : Nat} {d : Option SD} {b : Nat} (h : Stk w p d) (hb : w.heap.size ≤ b) : SepB p d b := by
  cases d with
  | none => exact ⟨by have := lt_of_cell h.1; omega, fun s e => by cases e⟩
  | some s =>
    obtain ⟨⟨h1, _⟩, ⟨h3, _⟩, _, h6, _, _⟩ := h
    refine ⟨by have := lt_of_cell h1; omega, fun s' e => ?_⟩
    injection e with e; subst e
    exact ⟨by have := lt_of_cell h3; omega, fun b' o e => by have := h6.lt e; omega⟩
def SepE (p : Nat) (d : Option SD) (e : Ending) : Prop := ∀ x y b o n c, e = .returned (.tuple #[x, y]) → (x = .slice (some ⟨b, o, none⟩) n c ∨ y = .slice (some ⟨b, o, none⟩) n c) → SepB p d b
theorem SepE.of {p : Nat} {d : Option SD} {qa ra : Option Addr} {qn qc rn rc : Nat} (h1 : ∀ b o, qa = some ⟨b, o, none⟩ → SepB p d b) (h2 : ∀ b o, ra = some ⟨b, o, none⟩ → SepB p d b) : SepE p d (.returned (.tuple #[.slice qa qn qc, .slice ra rn rc])) := by
  intro x y b o n c e h
  injection e with e
  injection e with e
  have e1 := congrArg (fun a => a[0]?) e
  have e2 := congrArg (fun a => a[1]?) e
  simp at e1 e2
  rcases h with h | h
  · rw [h] at e1; injection e1 with e1 _ _; exact h1 b o e1
  · rw [h] at e2; injection e2 with e2 _ _; exact h2 b o e2
structure DLin (w : World) (az : Option Addr) (zc : Nat) (a2 : Option Addr) (c2 : Nat) (ax : Option Addr) (xn xc : Nat) (av : Option Addr) (n cv p : Nat) (d : Option SD) (X V : Nat → Int) : Prop where
  z : ZOK w az zc
  z2 : ZOK w a2 c2
  x : NatIn w ax xn xc X
  v : NatIn w av n cv V
  vt : V (n - 1) ≠ 0
  n2 : 2 ≤ n
  nx : n ≤ xn
  xs : xn < 4294967296
  s : Stk w p d
  sl : stkL d < 34359738368
  k4 : w.cell? ⟨4, 0, none⟩ = some (.int .i64 40)
  zz : ∀ b o b' o', az = some ⟨b, o, none⟩ → a2 = some ⟨b', o', none⟩ → b ≠ b'
  zS : ∀ b o, az = some ⟨b, o, none⟩ → SepB p d b
  z2S : ∀ b o, a2 = some ⟨b, o, none⟩ → SepB p d b
  xS : ∀ b o i, ax = some ⟨b, o, none⟩ → i < xn → ¬ zStk p d b (o + i)
  vS : ∀ b o i, av = some ⟨b, o, none⟩ → i < n → ¬ zStk p d b (o + i)
  x2 : Disj a2 c2 ax xn
  v2 : Disj a2 c2 av n
  k4s : ¬ zStk p d 4 0
  k42 : ¬ zAddr a2 c2 4 0
theorem DLin.zs {w : World} {az : Option Addr} {zc : Nat} {a2 : Option Addr} {c2 : Nat} {ax : Option Addr} {xn xc : Nat} {av : Option Addr} {n cv p : Nat} {d : Option SD} {X V : Nat → Int} (h : DLin w az zc a2 c2 ax xn xc av n cv p d X V) : ∀ b o, az = some ⟨b, o, none⟩ → ∀ o', ¬ zStk p d b o' := fun b o e => (h.zS b o e).z
theorem DLin.z2s {w : World} {az : Option Addr} {zc : Nat} {a2 : Option Addr} {c2 : Nat} {ax : Option Addr} {xn xc : Nat} {av : Option Addr} {n cv p : Nat} {d : Option SD} {X V : Nat → Int} (h : DLin w az zc a2 c2 ax xn xc av n cv p d X V) : ∀ b o, a2 = some ⟨b, o, none⟩ → ∀ o', ¬ zStk p d b o' := fun b o e => (h.z2S b o e).z
structure DLa (w w2 : World) (az : Option Addr) (zc : Nat) (ax : Option Addr) (xn : Nat) (av : Option Addr) (n p : Nat) (d d1 : Option SD) (X V : Nat → Int) (a2 : Option Addr) (c2 bv ov bu ou cu : Nat) : Prop where
  uS : SepB p d1 bu
  uv : bu ≠ bv
  us : ∀ o, ¬ zStk p d1 bu o
  zu : ∀ b o, az = some ⟨b, o, none⟩ → b ≠ bu
  zv : ∀ b o, az = some ⟨b, o, none⟩ → b ≠ bv
  hv : Room w2 bv ov n
  hu : Room w2 bu ou (xn + 1)
  pv : PB w2 bv
  pu : PB w2 bu
  z : ZOK w2 az zc
  rx : Rd w2 ax xn X
  rv : Rd w2 av n V
  xv : ∀ b o i, ax = some ⟨b, o, none⟩ → i < xn → ¬ zRow bv ov n b (o + i)
  xu : ∀ b o, ax = some ⟨b, o, none⟩ → b ≠ bu ∨ o + xn ≤ ou ∨ ou + (xn + 1) ≤ o
  vv : ∀ b o, av = some ⟨b, o, none⟩ → b ≠ bv ∨ o + n ≤ ov ∨ ov + n ≤ o
  s : Stk w2 p d1
  k4 : w2.cell? ⟨4, 0, none⟩ = some (.int .i64 40)
  k4v : ¬ zRow bv ov n 4 0
  k4u : ¬ zRow bu ou (xn + 1) 4 0
  home : Home w a2 c2 (some ⟨bu, ou, none⟩) cu
  zk : ZOK w2 (some ⟨bu, ou, none⟩) cu
  vold : ∀ i, i < n → bv < w.heap.size → zStk p d bv (ov + i)
  chg : Chg (zStk p d) w w2
theorem dl_a {w w1 w2 : World} {az a2 ax av : Option Addr} {zc c2 xn xc n cv p bv ov c1 bu ou cu : Nat} {d d1 : Option SD} {X V : Nat → Int} (h : DLin w az zc a2 c2 ax xn xc av n cv p d X V)
    (g1 : n ≤ c1) (g2 : Stk w1 p d1) (g3 : StkFrom w d d1) (g5 : ZOK w1 (some ⟨bv, ov, none⟩) c1) (g9 : ∀ i, i < c1 → bv < w.heap.size → zStk p d bv (ov + i)) (g10 : Chg (zStk p d) w w1)
    (m1 : xn + 1 ≤ cu) (m2 : ZOK w2 (some ⟨bu, ou, none⟩) cu) (m3 : Home w1 a2 c2 (some ⟨bu, ou, none⟩) cu) (m4 : Chg zNone w1 w2) : DLa w w2 az zc ax xn av n p d d1 X V a2 c2 bv ov bu ou cu := by
  have hsz := g10.size
  have h2n := h.n2
  have hk : Chg (zStk p d) w w2 := g10.trans m4 (fun _ _ _ h => h.elim)
  have hv0 : bv < w1.heap.size := by
    rcases g5 with ⟨e, _⟩ | ⟨b, o, e, hp, _⟩
    · cases e
    · injection e with e; injection e with e1 _; rw [e1]; exact hp.lt
  have zlt : ∀ {a : Option Addr} {c : Nat} {b o : Nat}, ZOK w a c → a = some ⟨b, o, none⟩ → b < w.heap.size := by
    intro a c b o hz e
    rcases hz with ⟨e2, _⟩ | ⟨b2, o2, e2, hp, _⟩
    · rw [e2] at e; cases e
    · rw [e2] at e; injection e with e; injection e with e3 _; rw [← e3]; exact hp.lt
  have nzu : ∀ b o, a2 = some ⟨b, o, none⟩ → b ≠ bv := by
    intro b o e hb
    have hl := zlt h.z2 e
    exact h.z2s b o e _ (by have := g9 0 (by omega) (by omega); rwa [← hb] at this)
  have hu_of : (a2 = some ⟨bu, ou, none⟩ ∧ c2 = cu) ∨ w1.heap.size ≤ bu := by
    rcases m3 with ⟨e, e2⟩ | ⟨b, o, e, hb⟩
    · exact Or.inl ⟨e.symm, e2.symm⟩
    · injection e with e; injection e with e1 _; exact Or.inr (by omega)
  have huv : bu ≠ bv := by
    rcases hu_of with ⟨e, _⟩ | e
    · exact nzu _ _ e
    · omega
  have hroomv : Room w2 bv ov n := by
    rcases g5 with ⟨e, _⟩ | ⟨b, o, e, hp, hr, _⟩
    · cases e
    · injection e with e; injection e with e1 e2; subst e1; subst e2
      exact (hr.le g1).chg m4 (fun _ _ h => h)
  have hpv : PB w2 bv := by
    rcases g5 with ⟨e, _⟩ | ⟨b, o, e, hp, hr, _⟩
    · cases e
    · injection e with e; injection e with e1 e2; subst e1
      exact hp.chg m4
  have hroomu : Room w2 bu ou (xn + 1) ∧ PB w2 bu := by
    rcases m2 with ⟨e, _⟩ | ⟨b, o, e, hp, hr, _⟩
    · cases e
    · injection e with e; injection e with e1 e2; subst e1; subst e2
      exact ⟨hr.le m1, hp⟩
  have huS : SepB p d1 bu := by
    rcases hu_of with ⟨e, _⟩ | e
    · exact (h.z2S bu ou e).from g3 (zlt h.z2 e)
    · exact g2.sep_new e
  refine ⟨huS, huv, ?_, ?_, ?_, hroomv, hroomu.1, hpv, hroomu.2, ?_, ?_, ?_, ?_, ?_, ?_, g2.chg m4 (fun h => h) (fun s _ => ⟨fun h => h, fun _ _ _ h => h.elim⟩), hk.cell h.k4 h.k4s, ?_, ?_, ?_, m2, fun i hi hb => g9 i (by omega) hb, hk⟩
  · intro o hh
    rcases hu_of with ⟨e, _⟩ | e
    · exact h.z2s bu ou e o (g3.zone _ _ (zlt h.z2 e) hh)
    · have := g2.lt _ _ hh; omega
  · intro b o e hb
    rcases hu_of with ⟨e2, _⟩ | e2
    · exact h.zz b o bu ou e e2 hb
    · have := zlt h.z e; omega
  · intro b o e hb
    have hl := zlt h.z e
    exact h.zs b o e _ (by have := g9 0 (by omega) (by omega); rwa [← hb] at this)
  · refine h.z.chg hk ?_
    rintro b o ⟨po, e, _⟩ hh
    exact h.zs b po e o hh
  · rcases h.x.rd with hh | ⟨b, o, e, hw⟩
    · exact Or.inl hh
    · exact Or.inr ⟨b, o, e, hw.chg hk (fun i hi => h.xS b o i e hi)⟩
  · rcases h.v.rd with hh | ⟨b, o, e, hw⟩
    · exact Or.inl hh
    · exact Or.inr ⟨b, o, e, hw.chg hk (fun i hi => h.vS b o i e hi)⟩
  · rintro b o i e hi ⟨rfl, h1, h2⟩
    obtain ⟨b3, o3, e3, hw⟩ := h.x.words (by have := h.nx; omega)
    rw [e3] at e; injection e with e; injection e with e4 e5; subst e4; subst e5
    have hl := lt_of_cell (hw 0 (by have := h.nx; omega))
    have := g9 (o3 + i - ov) (by omega) hl
    rw [show ov + (o3 + i - ov) = o3 + i by omega] at this
    exact h.xS _ _ i e3 hi this
  · intro b o e
    obtain ⟨b3, o3, e3, hw⟩ := h.x.words (by have := h.nx; omega)
    rw [e3] at e; injection e with e; injection e with e4 e5; subst e4; subst e5
    have hl := lt_of_cell (hw 0 (by have := h.nx; omega))
    rcases hu_of with ⟨e2, e6⟩ | e2
    · by_cases hb : b3 = bu
      · refine Or.inr ?_
        by_cases h1 : o3 + xn ≤ ou
        · exact Or.inl h1
        · by_cases h2 : ou + (xn + 1) ≤ o3
          · exact Or.inr h2
          · exfalso
            subst hb
            by_cases h3 : ou ≤ o3
            · exact h.x2 b3 o3 0 e3 (by have := h.nx; omega) ⟨ou, e2, by omega, by omega⟩
            · exact h.x2 b3 o3 (ou - o3) e3 (by omega) ⟨ou, e2, by omega, by omega⟩
      · exact Or.inl hb
    · exact Or.inl (by omega)
  · intro b o e
    obtain ⟨b3, o3, e3, hw⟩ := h.v.words (by omega)
    rw [e3] at e; injection e with e; injection e with e4 e5; subst e4; subst e5
    have hl := lt_of_cell (hw 0 (by omega))
    by_cases hb : b3 = bv
    · refine Or.inr ?_
      by_cases h1 : o3 + n ≤ ov
      · exact Or.inl h1
      · by_cases h2 : ov + n ≤ o3
        · exact Or.inr h2
        · exfalso
          subst hb
          by_cases h3 : ov ≤ o3
          · have := g9 (o3 - ov) (by omega) hl
            rw [show ov + (o3 - ov) = o3 + 0 by omega] at this
            exact h.vS b3 o3 0 e3 (by omega) this
          · have := g9 0 (by omega) hl
            rw [show ov + 0 = o3 + (ov - o3) by omega] at this
            exact h.vS b3 o3 (ov - o3) e3 (by omega) this
    · exact Or.inl hb
  · rintro ⟨rfl, h1, h2⟩
    have hl := lt_of_cell h.k4
    have := g9 (0 - ov) (by omega) hl
    rw [show ov + (0 - ov) = 0 by omega] at this
    exact h.k4s this
  · rintro ⟨rfl, h1, h2⟩
    have hl := lt_of_cell h.k4
    rcases hu_of with ⟨e2, e6⟩ | e2
    · exact h.k42 ⟨ou, e2, by omega, by omega⟩
    · omega
  · rcases hu_of with ⟨e2, e6⟩ | e2
    · exact Or.inl ⟨e2.symm, e6.symm⟩
    · exact Or.inr ⟨_, _, rfl, by omega⟩
def zUV (bv ov n bu ou m : Nat) : Zone := fun b o => zRow bv ov n b o ∨ zRow bu ou m b o
structure DLb (w w5 : World) (az : Option Addr) (zc xn n p : Nat) (d d1 : Option SD) (a2 : Option Addr) (c2 bv ov bu ou cu : Nat) (U V' : Nat → Int) : Prop where
  uS : SepB p d1 bu
  uv : bu ≠ bv
  us : ∀ o, ¬ zStk p d1 bu o
  zu : ∀ b o, az = some ⟨b, o, none⟩ → b ≠ bu
  zv : ∀ b o, az = some ⟨b, o, none⟩ → b ≠ bv
  z : ZOK w5 az zc
  s : Stk w5 p d1
  k4 : w5.cell? ⟨4, 0, none⟩ = some (.int .i64 40)
  hU : Words w5 bu ou (xn + 1) U
  fU : Free w5 bu ou (xn + 1)
  hV : Words w5 bv ov n V'
  pu : PB w5 bu
  home : Home w a2 c2 (some ⟨bu, ou, none⟩) cu
  zk : ZOK w5 (some ⟨bu, ou, none⟩) cu
  sv : bv ≠ p ∧ ∀ s, d1 = some s → bv ≠ s.q
  vs : ∀ i, i < n → ¬ zStk p d1 bv (ov + i)
  chg : Chg (fun b o => zStk p d b o ∨ zAddr a2 c2 b o) w w5
theorem dl_b {w w2 w5 : World} {az a2 ax av : Option Addr} {zc c2 xn n p bv ov bu ou cu : Nat} {d d1 : Option SD} {X V U V' : Nat → Int} (h : DLa w w2 az zc ax xn av n p d d1 X V a2 c2 bv ov bu ou cu) (g6 : bv ≠ p) (g7 : ∀ s, d1 = some s → bv ≠ s.q) (g8 : ∀ i, i < n → ¬ zStk p d1 bv (ov + i)) (m1 : xn + 1 ≤ cu)
    (k : Chg (zUV bv ov n bu ou (xn + 1)) w2 w5) (hU : Words w5 bu ou (xn + 1) U) (hV : Words w5 bv ov n V') : DLb w w5 az zc xn n p d d1 a2 c2 bv ov bu ou cu U V' := by
  refine ⟨h.uS, h.uv, h.us, h.zu, h.zv, ?_, ?_, ?_, hU, ?_, hV, h.pu.chg k, h.home, ?_, ⟨g6, g7⟩, g8, ?_⟩
  · refine h.z.chg k ?_
    rintro b o ⟨po, e, _⟩ (hh | hh)
    · exact h.zv b po e hh.1
    · exact h.zu b po e hh.1
  · refine h.s.chg k ?_ (fun s e => ⟨?_, ?_⟩)
    · rintro (hh | hh)
      · exact g6 hh.1.symm
      · exact h.us 0 (by rw [← hh.1]; exact zStk_p)
    · rintro (hh | hh)
      · exact g7 s e hh.1.symm
      · exact h.us 0 (by rw [← hh.1, e]; exact zStk_q)
    · rintro b o _ (⟨rfl, h1, h2⟩ | ⟨rfl, h1, h2⟩)
      · have hy := hV (o - ov) (by omega)
        rw [show ov + (o - ov) = o by omega] at hy
        exact ⟨_, hy⟩
      · have hy := hU (o - ou) (by omega)
        rw [show ou + (o - ou) = o by omega] at hy
        exact ⟨_, hy⟩
  · exact k.cell h.k4 (fun hh => hh.elim h.k4v h.k4u)
  · intro i hi
    obtain ⟨⟨x, hx⟩, hf⟩ := h.hu i hi
    rw [k.frozen hx]; exact hf
  · refine h.zk.ints k ?_
    rintro b o ⟨po, e, h1, h2⟩ (hh | hh)
    · injection e with e; injection e with e1 _; exact absurd (e1.trans hh.1) h.uv
    · obtain ⟨rfl, h3, h4⟩ := hh
      have hy := hU (o - ou) (by omega)
      rw [show ou + (o - ou) = o by omega] at hy
      exact ⟨_, hy⟩
  · refine (h.chg.mono (fun _ _ _ h => Or.inl h)).trans k ?_
    rintro b o hb (⟨rfl, h1, h2⟩ | ⟨rfl, h1, h2⟩)
    · have := h.vold (o - ov) (by omega) hb
      rw [show ov + (o - ov) = o by omega] at this
      exact Or.inl this
    · rcases h.home with ⟨e, e2⟩ | ⟨b2, o2, e, hb2⟩
      · exact Or.inr ⟨ou, e.symm, by omega, by omega⟩
      · injection e with e; injection e with e1 _; omega
structure DLq (w w6 : World) (az : Option Addr) (zc xn n p : Nat) (d d1 : Option SD) (a2 : Option Addr) (c2 bv ov bu ou cu bq oq cq : Nat) (U V' : Nat → Int) : Prop where
  b : DLb w w6 az zc xn n p d d1 a2 c2 bv ov bu ou cu U V'
  q : ZOK w6 (some ⟨bq, oq, none⟩) cq
  qS : SepB p d1 bq
  qu : bq ≠ bu
  qv : bq ≠ bv
  qs : ∀ o, ¬ zStk p d1 bq o
  home : Home w az zc (some ⟨bq, oq, none⟩) cq
theorem DLb.chg0 {w w5 w6 : World} {az : Option Addr} {zc xn n p : Nat} {d d1 : Option SD} {a2 : Option Addr} {c2 bv ov bu ou cu : Nat} {U V' : Nat → Int} (h : DLb w w5 az zc xn n p d d1 a2 c2 bv ov bu ou cu U V') (k : Chg zNone w5 w6) : DLb w w6 az zc xn n p d d1 a2 c2 bv ov bu ou cu U V' :=
  ⟨h.uS, h.uv, h.us, h.zu, h.zv, h.z.chg k (fun _ _ _ h => h), h.s.chg k (fun h => h) (fun s _ => ⟨fun h => h, fun _ _ _ h => h.elim⟩), k.cell h.k4 (fun h => h), h.hU.chg k (fun _ _ h => h), h.fU.chg h.hU k, h.hV.chg k (fun _ _ h => h), h.pu.chg k, h.home, h.zk.chg k (fun _ _ _ h => h), h.sv, h.vs, h.chg.trans k (fun _ _ _ h => h.elim)⟩
theorem dl_q {w w5 w6 : World} {az : Option Addr} {zc xn n p : Nat} {d d1 : Option SD} {a2 : Option Addr} {c2 bv ov bu ou cu bq oq cq : Nat} {U V' : Nat → Int} (h : DLb w w5 az zc xn n p d d1 a2 c2 bv ov bu ou cu U V') (hz : ZOK w az zc) (hn : 0 < n) (zS : ∀ b o, az = some ⟨b, o, none⟩ → SepB p d b) (hs : StkFrom w d d1)
    (q1 : ZOK w6 (some ⟨bq, oq, none⟩) cq) (q2 : Home w5 az zc (some ⟨bq, oq, none⟩) cq) (k : Chg zNone w5 w6) : DLq w w6 az zc xn n p d d1 a2 c2 bv ov bu ou cu bq oq cq U V' := by
  have hsz := h.chg.size
  have ql : az = some ⟨bq, oq, none⟩ ∧ zc = cq ∨ w5.heap.size ≤ bq := by
    rcases q2 with ⟨e, e2⟩ | ⟨b, o, e, hb⟩
    · exact Or.inl ⟨e.symm, e2.symm⟩
    · injection e with e; injection e with e1 _; exact Or.inr (by omega)
  have zlt : ∀ {b o : Nat}, az = some ⟨b, o, none⟩ → b < w.heap.size := by
    intro b o e
    rcases hz with ⟨e2, _⟩ | ⟨b2, o2, e2, hp, _⟩
    · rw [e2] at e; cases e
    · rw [e2] at e; injection e with e; injection e with e3 _; rw [← e3]; exact hp.lt
  have lu := h.pu.lt
  have lv := lt_of_cell (h.hV 0 hn)
  have zs : ∀ b o, az = some ⟨b, o, none⟩ → ∀ o', ¬ zStk p d b o' := fun b o e => (zS b o e).z
  refine ⟨h.chg0 k, q1, ?_, ?_, ?_, ?_, ?_⟩
  · rcases ql with ⟨e, _⟩ | e
    · exact (zS _ _ e).from hs (zlt e)
    · exact h.s.sep_new e
  · rcases ql with ⟨e, _⟩ | e
    · exact h.zu _ _ e
    · omega
  · rcases ql with ⟨e, _⟩ | e
    · exact h.zv _ _ e
    · omega
  · intro o hh
    rcases ql with ⟨e, _⟩ | e
    · exact zs _ _ e o (hs.zone _ _ (zlt e) hh)
    · have := h.s.lt _ _ hh; omega
  · rcases ql with ⟨e, e2⟩ | e
    · exact Or.inl ⟨e.symm, e2.symm⟩
    · exact Or.inr ⟨_, _, rfl, by omega⟩
def zDL (az : Option Addr) (zc : Nat) (a2 : Option Addr) (c2 p : Nat) (d : Option SD) : Zone := fun b o => zTwo az zc a2 c2 b o ∨ zStk p d b o
def DLRes (w : World) (az : Option Addr) (zc : Nat) (a2 : Option Addr) (c2 p : Nat) (d : Option SD) (u v : Int) (e : Ending) (w' : World) : Prop :=
  ∃ d', Stk w' p d' ∧ StkFrom w d d' ∧ stkL d' = stkL d ∧ DivRes w az zc a2 c2 u v (zDL az zc a2 c2 p d) e w' ∧ SepE p d' e
theorem dl_end {w w6 w7 w8 w9 : World} {az : Option Addr} {zc xn n p : Nat} {d d1 : Option SD} {a2 : Option Addr} {c2 bv ov bu ou cu bq oq cq mq iq ir : Nat} {U V' Q R : Nat → Int} {d2 : Option SD} {x v : Int} (h : DLq w w6 az zc xn n p d d1 a2 c2 bv ov bu ou cu bq oq cq U V') (hs : StkFrom w d d1) (hz : ZOK w az zc) (hmn : mq + n = xn + 1) (hmq : mq ≤ cq) (hcu : xn + 1 ≤ cu)
    (b1 : Words w7 bq oq mq Q) (b2 : WF Q mq) (b7 : Stk w7 p d2) (b8 : StkFrom w6 d1 d2) (b10 : Chg (zDB bq oq mq bu ou (mq + n) p d1) w6 w7) (r1 : Chg (zRow bu ou (xn + 1)) w7 w8) (r2 : Words w8 bu ou (xn + 1) R) (r3 : WF R (xn + 1)) (q1 : iq ≤ mq) (q2 : Norm Q iq) (q3 : val Q iq = x / v) (t1 : ir ≤ xn + 1) (t2 : Norm R ir) (t3 : val R ir = x % v)
    (rest : RestPost w8 p d2 (stkL d) w9) :
    DLRes w az zc a2 c2 p d x v (.returned (.tuple #[.slice (some ⟨bq, oq, none⟩) iq cq, .slice (some ⟨bu, ou, none⟩) ir cu])) w9 := by
  obtain ⟨d3, s1, rfl, s2⟩ := rest
  have us2 : ∀ o, ¬ zStk p d2 bu o := fun o hh => h.b.us o (b8.zone _ _ h.b.pu.lt hh)
  have lq : bq < w6.heap.size := by
    rcases h.q with ⟨e, _⟩ | ⟨b, o, e, hp, _⟩
    · cases e
    · injection e with e; injection e with e1 _; rw [e1]; exact hp.lt
  have qs2 : ∀ o, ¬ zStk p d2 bq o := fun o hh => h.qs o (b8.zone _ _ lq hh)
  have kz : Chg (zStk p d2) w8 w9 := by
    refine s2.mono (fun b o _ hh => ?_)
    cases d2 with
    | none => exact hh.elim
    | some s => exact Or.inr (Or.inl hh)
  have zq7 : ZOK w7 (some ⟨bq, oq, none⟩) cq := by
    refine h.q.ints b10 ?_
    rintro b o ⟨po, e, h1, h2⟩ hh
    injection e with e; injection e with e1 e2; subst e1; subst e2
    rcases hh with hh | hh | hh
    · obtain ⟨_, h3, h4⟩ := hh
      have hy := b1 (o - oq) (by omega)
      rw [show oq + (o - oq) = o by omega] at hy
      exact ⟨_, hy⟩
    · exact absurd hh.1 h.qu
    · exact absurd hh (h.qs o)
  have zq9 : ZOK w9 (some ⟨bq, oq, none⟩) cq := by
    refine (zq7.chg r1 ?_).chg kz ?_
    · rintro b o ⟨po, e, h1, h2⟩ hh
      injection e with e; injection e with e1 e2; subst e1
      exact h.qu hh.1
    · rintro b o ⟨po, e, h1, h2⟩ hh
      injection e with e; injection e with e1 e2; subst e1
      exact qs2 o hh
  have zu8 : ZOK w8 (some ⟨bu, ou, none⟩) cu := by
    refine h.b.zk.ints (b10.trans r1 (Z := fun b o => zDB bq oq mq bu ou (mq + n) p d1 b o) (fun b o _ hh => Or.inr (Or.inl (by rw [hmn]; exact hh)))) ?_
    rintro b o ⟨po, e, h1, h2⟩ hh
    injection e with e; injection e with e1 e2; subst e1; subst e2
    rcases hh with hh | hh | hh
    · exact absurd hh.1.symm h.qu
    · obtain ⟨_, h3, h4⟩ := hh
      have hy := r2 (o - ou) (by omega)
      rw [show ou + (o - ou) = o by omega] at hy
      exact ⟨_, hy⟩
    · exact absurd hh (h.b.us o)
  have zu9 : ZOK w9 (some ⟨bu, ou, none⟩) cu := by
    refine zu8.chg kz ?_
    rintro b o ⟨po, e, h1, h2⟩ hh
    injection e with e; injection e with e1 e2; subst e1
    exact us2 o hh
  have f1 : StkFrom w d d2 := hs.trans b8 h.b.chg.size
  obtain ⟨e1, e2⟩ := f1.reset
  have zst : ∀ b o, b < w.heap.size → zStk p d1 b o → zStk p d b o := fun b o hb hh => hs.zone b o hb hh
  have k7 : Chg (zDL az zc a2 c2 p d) w w7 := by
    refine (h.b.chg.mono (fun b o _ hh => ?_)).trans b10 (fun b o hb hh => ?_)
    · rcases hh with hh | hh
      · exact Or.inr hh
      · exact Or.inl (Or.inr hh)
    · rcases hh with hh | hh | hh
      · obtain ⟨rfl, h3, h4⟩ := hh
        exact Or.inl (Or.inl (h.home.zone _ _ hb ⟨oq, rfl, h3, by omega⟩))
      · obtain ⟨rfl, h3, h4⟩ := hh
        exact Or.inl (Or.inr (h.b.home.zone _ _ hb ⟨ou, rfl, h3, by omega⟩))
      · exact Or.inr (zst b o hb hh)
  have k8 : Chg (zDL az zc a2 c2 p d) w w8 := k7.trans r1 (fun b o hb hh => by
    obtain ⟨rfl, h3, h4⟩ := hh
    exact Or.inl (Or.inr (h.b.home.zone _ _ hb ⟨ou, rfl, h3, by omega⟩)))
  have k9 : Chg (zDL az zc a2 c2 p d) w w9 := k8.trans kz (fun b o hb hh => Or.inr (f1.zone b o hb hh))
  have sR : ∀ b, SepB p d2 b → SepB p (d2.map fun s => { s with L := stkL d }) b := by
    intro b hh
    refine ⟨hh.1, fun s e => ?_⟩
    cases d2 with
    | none => cases e
    | some t2 => injection e with e; subst e; exact hh.2 t2 rfl
  refine ⟨_, s1, e1, e2, ⟨some ⟨bq, oq, none⟩, iq, cq, Q, some ⟨bu, ou, none⟩, ir, cu, R, rfl, ⟨by omega, zq9, Or.inr ⟨bq, oq, rfl, ?_⟩, b2.le q1, q2, q3, h.home⟩, ⟨by omega, zu9, Or.inr ⟨bu, ou, rfl, ?_⟩, r3.le t1, t2, t3, h.b.home⟩, k9, fun b o b' o' e e' => ?_⟩, SepE.of (fun b o e => ?_) (fun b o e => ?_)⟩
  · exact ((b1.le q1).chg r1 (fun i hi hh => h.qu hh.1)).chg kz (fun i hi => qs2 _)
  · exact (r2.le t1).chg kz (fun i hi => us2 _)
  · injection e with e; injection e with e3 _; injection e' with e'; injection e' with e4 _; rw [← e3, ← e4]; exact h.qu
  · injection e with e; injection e with e3 _; rw [← e3]; exact sR _ (h.qS.from b8 lq)
  · injection e with e; injection e with e3 _; rw [← e3]; exact sR _ (h.b.uS.from b8 h.b.pu.lt)
end Go.Proofs.YtmgfajamanakcaaGreatDoor
