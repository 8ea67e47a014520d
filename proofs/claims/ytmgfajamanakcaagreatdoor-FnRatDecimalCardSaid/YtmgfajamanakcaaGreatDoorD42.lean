/- Part of the proof of FnParse: what the functions that it reaches do, as contracts. Conditions: those that each theorem names. -/
import Derived.Test.YtmgfajamanakcaaGreatDoorD34
import Derived.Test.YtmgfajamanakcaaGreatDoorD41
import Derived.Test.YtmgfajamanakcaaGreatDoorD10
import Derived.Test.YtmgfajamanakcaaGreatDoorD30
namespace Go.Proofs.YtmgfajamanakcaaGreatDoor
set_option linter.unusedVariables false
set_option linter.unusedSimpArgs false
open Go Go.RowKit
set_option maxRecDepth 100000
def Diff (a a' : Option Addr) : Prop := ∀ b o b' o', a = some ⟨b, o, none⟩ → a' = some ⟨b', o', none⟩ → b ≠ b'
def zGe (s : Nat) : Zone := fun b _ => s ≤ b
def zBlk (a : Option Addr) : Zone := fun b _ => ∃ o, a = some ⟨b, o, none⟩
def HomeB (w : World) (a a' : Option Addr) : Prop := ∀ b o, a' = some ⟨b, o, none⟩ → (∃ o', a = some ⟨b, o', none⟩) ∨ w.heap.size ≤ b
theorem Diff.symm {a a' : Option Addr} (h : Diff a a') : Diff a' a := fun b o b' o' e e' he => h b' o' b o e' e he.symm
theorem Diff.none {a : Option Addr} : Diff none a := fun b o b' o' e => by cases e
theorem Home.homeB {w : World} {az a : Option Addr} {zc c : Nat} (h : Home w az zc a c) : HomeB w az a := by
  rintro b o e
  rcases h with ⟨h, _⟩ | ⟨b', o', h, hb⟩
  · exact Or.inl ⟨o, h ▸ e⟩
  · rw [h] at e; injection e with e; injection e with e1 _; exact Or.inr (by omega)
theorem HomeB.diff {w : World} {a a' x : Option Addr} (h : HomeB w a a') (hd : Diff a x) (hx : ∀ b o, x = some ⟨b, o, none⟩ → b < w.heap.size) : Diff a' x := by
  rintro b o b' o' e e' rfl
  rcases h b o e with ⟨o2, e2⟩ | hb
  · exact hd b o2 b o' e2 e' rfl
  · have := hx b o' e'; omega
theorem HomeB.new {w : World} {a x : Option Addr} (h : HomeB w none a) (hx : ∀ b o, x = some ⟨b, o, none⟩ → b < w.heap.size) : Diff a x := h.diff Diff.none hx
structure NmA (s : Nat) (W : World) (p : Nat) (d : Option SD) (a : Option Addr) (n c : Nat) (V : Int) : Prop where
  le : n ≤ c
  z : ZOK W a c
  ex : ∃ X, Rd W a n X ∧ WF X n ∧ Norm X n ∧ val X n = V
  new : ∀ b o, a = some ⟨b, o, none⟩ → s ≤ b
  sep : ∀ b o, a = some ⟨b, o, none⟩ → SepB p d b
theorem NmA.lt {s : Nat} {W : World} {p : Nat} {d : Option SD} {a : Option Addr} {n c : Nat} {V : Int} (h : NmA s W p d a n c V) : ∀ b o, a = some ⟨b, o, none⟩ → b < W.heap.size := fun b o e => h.z.lt e
theorem NmA.chg {Z : Zone} {s : Nat} {W W' : World} {p : Nat} {d : Option SD} {a : Option Addr} {n c : Nat} {V : Int} (h : NmA s W p d a n c V) (k : Chg Z W W') (hz : ∀ b o, a = some ⟨b, o, none⟩ → ∀ o', ¬ Z b o') : NmA s W' p d a n c V := by
  obtain ⟨h1, h2, ⟨X, x1, x2, x3, x4⟩, h4, h5⟩ := h
  exact ⟨h1, h2.chg k (fun b o ⟨q, e, _⟩ => hz b q e o), ⟨X, rd_far x1 k (fun b o i e _ => hz b o e _), x2, x3, x4⟩, h4, h5⟩
theorem NmA.grow {s : Nat} {W w w' : World} {p : Nat} {d d' : Option SD} {a : Option Addr} {n c : Nat} {V : Int} (h : NmA s W p d a n c V) (k : StkFrom w d d') (hl : ∀ b o, a = some ⟨b, o, none⟩ → b < w.heap.size) : NmA s W p d' a n c V :=
  ⟨h.le, h.z, h.ex, h.new, fun b o e => (h.sep b o e).from k (hl b o e)⟩
theorem NmA.len {s : Nat} {W : World} {p : Nat} {d : Option SD} {a : Option Addr} {n c N : Nat} {V : Int} (h : NmA s W p d a n c V) (hV : V < BB ^ N) : n ≤ N := by
  obtain ⟨X, x1, x2, x3, x4⟩ := h.ex
  exact norm_le x2 x3 (by rw [x4]; exact hV)
theorem NmA.nonneg {s : Nat} {W : World} {p : Nat} {d : Option SD} {a : Option Addr} {n c : Nat} {V : Int} (h : NmA s W p d a n c V) : 0 ≤ V := by
  obtain ⟨X, x1, x2, x3, x4⟩ := h.ex
  rw [← x4]; exact val_nonneg x2
theorem NmA.nat {s : Nat} {W : World} {p : Nat} {d : Option SD} {a : Option Addr} {n c N : Nat} {V : Int} (h : NmA s W p d a n c V) (hV : V < BB ^ N) (hN : N < 1000) : ∃ X, NatIn W a n c X ∧ Norm X n ∧ val X n = V := by
  have hn := h.len hV
  obtain ⟨X, x1, x2, x3, x4⟩ := h.ex
  exact ⟨X, ⟨x1, x2, h.le, by omega, h.z.aok⟩, x3, x4⟩
structure Fst (w0 W : World) (p : Nat) (d : Option SD) : Prop where
  st : Stk W p d
  sl : stkL d = 0
  old : ∀ b, b < w0.heap.size → SepB p d b
  k : Chg (zGe w0.heap.size) w0 W
theorem Fst.new {w0 : World} {t : TypeId} : Fst w0 (w0.alloc (.cells #[.pointer none] t)) w0.heap.size none :=
  ⟨⟨cell?_alloc_new w0 _ t 0 _ rfl, frozen?_alloc_new w0 _ t 0⟩, rfl, fun b hb => ⟨by omega, fun s e => (by cases e)⟩, (Chg.refl _ _).alloc _⟩
theorem Fst.size {w0 W : World} {p : Nat} {d : Option SD} (h : Fst w0 W p d) : w0.heap.size ≤ W.heap.size := h.k.size
theorem Fst.zStk {w0 W : World} {p : Nat} {d : Option SD} (h : Fst w0 W p d) {b o : Nat} (hz : zStk p d b o) : w0.heap.size ≤ b := by
  rcases Nat.lt_or_ge b w0.heap.size with hb | hb
  · exact absurd hz ((h.old b hb).z o)
  · exact hb
theorem Fst.step {Z : Zone} {w0 W W' : World} {p : Nat} {d d' : Option SD} (h : Fst w0 W p d) (k : Chg Z W W') (hZ : ∀ b o, Z b o → w0.heap.size ≤ b) (hs : Stk W' p d') (hf : StkFrom W d d') (hl : stkL d' = stkL d) : Fst w0 W' p d' :=
  ⟨hs, hl.trans h.sl, fun b hb => (h.old b hb).from hf (Nat.lt_of_lt_of_le hb h.size), h.k.trans k (fun b o _ hz => hZ b o hz)⟩
theorem Fst.same {Z : Zone} {w0 W W' : World} {p : Nat} {d : Option SD} (h : Fst w0 W p d) (k : Chg Z W W') (hZ : ∀ b o, Z b o → w0.heap.size ≤ b ∧ SepB p d b) : Fst w0 W' p d :=
  ⟨h.st.apart k (fun b o hz => (hZ b o hz).2), h.sl, h.old, h.k.trans k (fun b o _ hz => (hZ b o hz).1)⟩
theorem Fst.far {w0 W W' : World} {p : Nat} {d : Option SD} (h : Fst w0 W p d) (k : Chg zNone W W') : Fst w0 W' p d := h.same k (fun _ _ h => h.elim)
def NmP (w0 w : World) (p : Nat) (d : Option SD) (az : Option Addr) (V : Int) (e : Ending) (w' : World) : Prop :=
  ∃ a n c, e = .returned (.slice a n c) ∧ Fst w0 w' p d ∧ NmA w0.heap.size w' p d a n c V ∧ HomeB w az a ∧ Chg (zBlk az) w w'
theorem cmp_cases (x y : Int) : (x < y ∧ cmpV x y = -1) ∨ (x = y ∧ cmpV x y = 0) ∨ (y < x ∧ cmpV x y = 1) := by
  rcases Int.lt_trichotomy x y with h | h | h
  · exact Or.inl ⟨h, cmpV_lt h⟩
  · exact Or.inr (Or.inl ⟨h, cmpV_eq h⟩)
  · exact Or.inr (Or.inr ⟨h, cmpV_gt h⟩)
theorem zAddr_blk {a : Option Addr} {c b o : Nat} (h : zAddr a c b o) : zBlk a b o := by
  obtain ⟨q, e, _⟩ := h
  exact ⟨q, e⟩
theorem nm_of_res {w0 w w' : World} {p : Nat} {d : Option SD} {az : Option Addr} {zc : Nat} {V : Int} {e : Ending} (hF : Fst w0 w p d) (hzn : ∀ b o, az = some ⟨b, o, none⟩ → w0.heap.size ≤ b ∧ SepB p d b) (h : NatRes w az zc V e w') : NmP w0 w p d az V e w' := by
  obtain ⟨a, n, c, X, rfl, h1, h2, h3, h4, h5, h6, h7, h8⟩ := h
  have hs := hF.size
  refine ⟨a, n, c, rfl, hF.same h8 (fun b o ⟨q, e, _⟩ => hzn b q e), ⟨h1, h2, ⟨X, h3, h4, h5, h6⟩, fun b o e => ?_, fun b o e => ?_⟩, h7.homeB, h8.mono (fun _ _ _ h => zAddr_blk h)⟩
  · rcases h7.homeB b o e with ⟨o', e'⟩ | hb
    · exact (hzn b o' e').1
    · omega
  · rcases h7.homeB b o e with ⟨o', e'⟩ | hb
    · exact (hzn b o' e').2
    · exact hF.st.sep_new hb
theorem diff_disj {az ax : Option Addr} {zc xn : Nat} (h : Diff az ax) : Disj az zc ax xn := by
  rintro b o i e _ ⟨q, e', _⟩
  exact h b q b o e' e rfl
theorem nm_mul {w0 w : World} {p : Nat} {d : Option SD} {xa ya : Option Addr} {xn xc yn yc : Nat} {V U : Int} (N M : Nat) (stk : Value) (hF : Fst w0 w p d) (hx : NmA w0.heap.size w p d xa xn xc V) (hy : NmA w0.heap.size w p d ya yn yc U) (hd : Diff xa ya) (hV : V < BB ^ N) (hU : U < BB ^ M) (hN : N < 40) (hM : M < 40) (hg : Glob w) :
    Calls Tryz.prog 106 #[.slice xa xn xc, stk, .slice xa xn xc, .slice ya yn yc] w (NmP w0 w p d xa (V * U)) := by
  obtain ⟨X, x1, x2, x3⟩ := hx.nat hV (by omega)
  obtain ⟨Y, y1, y2, y3⟩ := hy.nat hU (by omega)
  have hn := hx.len hV
  rw [← x3, ← y3]
  exact (mul_any xa xa ya xn xc xn xc yn yc X Y stk w hx.z x1 y1 (Or.inl ⟨rfl, rfl⟩) (Or.inr (diff_disj hd)) (Or.inl (by omega)) hg.c1).mono (fun e w' h => nm_of_res hF (fun b o e => ⟨hx.new b o e, hx.sep b o e⟩) h)
theorem nm_add {w0 w : World} {p : Nat} {d : Option SD} {xa ya : Option Addr} {xn xc yn yc : Nat} {V U : Int} (N M : Nat) (az : Option Addr) (zl zc : Nat) (hF : Fst w0 w p d) (hz : ZOK w az zc) (hzn : ∀ b o, az = some ⟨b, o, none⟩ → w0.heap.size ≤ b ∧ SepB p d b) (hx : NmA w0.heap.size w p d xa xn xc V) (hy : NmA w0.heap.size w p d ya yn yc U) (hax : xa = az ∨ Diff az xa) (hay : ya = az ∨ Diff az ya) (hV : V < BB ^ N) (hU : U < BB ^ M) (hN : N < 40) (hM : M < 40) :
    Calls Tryz.prog 107 #[.slice az zl zc, .slice xa xn xc, .slice ya yn yc] w (NmP w0 w p d az (V + U)) := by
  obtain ⟨X, x1, x2, x3⟩ := hx.nat hV (by omega)
  obtain ⟨Y, y1, y2, y3⟩ := hy.nat hU (by omega)
  rw [← x3, ← y3]
  exact (add_any az xa ya zl zc xn xc yn yc X Y w hz x1 y1 x2 y2 (hax.imp id (fun h => diff_disj h)) (hay.imp id (fun h => diff_disj h))).mono (fun e w' h => nm_of_res hF hzn h)
theorem nm_sub {w0 w : World} {p : Nat} {d : Option SD} {xa ya : Option Addr} {xn xc yn yc : Nat} {V U : Int} (N M : Nat) (hF : Fst w0 w p d) (hx : NmA w0.heap.size w p d xa xn xc V) (hy : NmA w0.heap.size w p d ya yn yc U) (hV : V < BB ^ N) (hU : U < BB ^ M) (hN : N < 40) (hM : M < 40) (hge : U ≤ V) :
    Calls Tryz.prog 109 #[.slice none 0 0, .slice xa xn xc, .slice ya yn yc] w (NmP w0 w p d none (V - U)) := by
  obtain ⟨X, x1, x2, x3⟩ := hx.nat hV (by omega)
  obtain ⟨Y, y1, y2, y3⟩ := hy.nat hU (by omega)
  rw [← x3, ← y3]
  exact (sub_any none xa ya 0 0 xn xc yn yc X Y w (Or.inl ⟨rfl, rfl⟩) x1 y1 x2 (Or.inr disj_none) (Or.inr disj_none) y2 (by rw [x3, y3]; exact hge)).mono (fun e w' h => nm_of_res hF (fun b o e => (by cases e)) h)
theorem nm_cmp {w0 w : World} {p : Nat} {d : Option SD} {xa ya : Option Addr} {xn xc yn yc : Nat} {V U : Int} (M : Nat) (hx : ∃ X, NatIn w xa xn xc X ∧ Norm X xn ∧ val X xn = V) (hy : NmA w0.heap.size w p d ya yn yc U) (hU : U < BB ^ M) (hM : M < 40) :
    Calls Tryz.prog 108 #[.slice xa xn xc, .slice ya yn yc] w (CmpPost w V U) := by
  obtain ⟨X, x1, x2, x3⟩ := hx
  obtain ⟨Y, y1, y2, y3⟩ := hy.nat hU (by omega)
  rw [← x3, ← y3]
  exact cmp_any xa ya xn xc yn yc X Y w x1 y1 x2 y2
structure OldN (s : Nat) (w : World) (a : Option Addr) (n c : Nat) (V : Int) : Prop where
  ex : ∃ X, NatIn w a n c X ∧ Norm X n ∧ val X n = V
  old : ∀ b o, a = some ⟨b, o, none⟩ → b < s
theorem OldN.chg {s : Nat} {w w' : World} {a : Option Addr} {n c : Nat} {V : Int} (h : OldN s w a n c V) (k : Chg (zGe s) w w') : OldN s w' a n c V := by
  obtain ⟨⟨X, x1, x2, x3⟩, ho⟩ := h
  exact ⟨⟨X, ⟨rd_far x1.rd k (fun b o i e _ hh => by have := ho b o e; have : s ≤ b := hh; omega), x1.wf, x1.le, x1.small, x1.aok.chg k⟩, x2, x3⟩, ho⟩
def DivN (w0 w : World) (p : Nat) (d : Option SD) (az : Option Addr) (u v : Int) (e : Ending) (w' : World) : Prop :=
  ∃ d' qa qn qc ra rn rc, e = .returned (.tuple #[.slice qa qn qc, .slice ra rn rc]) ∧ Fst w0 w' p d' ∧ StkFrom w d d' ∧ NmA w0.heap.size w' p d' qa qn qc (u / v) ∧ NmA w0.heap.size w' p d' ra rn rc (u % v) ∧ Diff qa ra ∧ HomeB w az qa ∧ HomeB w none ra ∧ Chg (fun b o => zBlk az b o ∨ zStk p d b o) w w'
theorem nm_div {w0 w : World} {p : Nat} {d : Option SD} {az xa ya : Option Addr} {zl zc xn xc yn yc : Nat} {V U : Int} (hF : Fst w0 w p d) (hz : ZOK w az zc) (hzn : ∀ b o, az = some ⟨b, o, none⟩ → w0.heap.size ≤ b ∧ SepB p d b)
    (hx : ∃ X, NatIn w xa xn xc X ∧ Norm X xn ∧ val X xn = V) (hxS : ∀ b o, xa = some ⟨b, o, none⟩ → SepB p d b) (hax : xa = az ∨ Diff az xa) (hxn : xn < 1000) (hy : OldN w0.heap.size w ya yn yc U) (hU : 0 < U) (hyn : yn < 40) (h4 : 4 < w0.heap.size) (hg : Glob w) :
    Calls Tryz.prog 102 #[.slice az zl zc, .pointer (some ⟨p, 0, none⟩), .slice none 0 0, .slice xa xn xc, .slice ya yn yc] w (DivN w0 w p d az V U) := by
  obtain ⟨X, x1, x2, x3⟩ := hx
  obtain ⟨⟨Y, y1, y2, y3⟩, yo⟩ := hy
  have hs := hF.size
  have hyn0 : 0 < yn := by
    rcases Nat.eq_zero_or_pos yn with h | h
    · subst h; rw [← y3] at hU; exact absurd hU (by show ¬ (0 : Int) < 0; omega)
    · exact h
  have hvt : Y (yn - 1) ≠ 0 := by
    rcases y2 with h | h
    · omega
    · exact h
  rw [← x3, ← y3]
  refine (div_any az none xa ya zl zc 0 0 xn xc yn yc p d X Y w ⟨hz, Or.inl ⟨rfl, rfl⟩, x1, y1, x2, hvt, hyn0, by omega, hF.st, by rw [hF.sl]; omega, hg.c4, fun b o b' o' _ e => (by cases e), fun b o e => (hzn b o e).2, fun b o e => (by cases e), fun b o i e _ => (hxS b o e).z _, fun b o i e _ => (hF.old b (yo b o e)).z _, disj_none, disj_none, hax.imp id (fun h => diff_disj h), (hF.old 4 h4).z 0, fun ⟨q, e, _⟩ => (by cases e)⟩ hyn).mono ?_
  rintro e w' ⟨d', t1, t2, t3, ⟨qa, qn, qc, Q, ra, rn, rc, R, rfl, ⟨a1, a2, a3, a4, a5, a6, a7⟩, ⟨b1, b2, b3, b4, b5, b6, b7⟩, c1, c2⟩, t5⟩
  have hc : Chg (fun b o => zBlk az b o ∨ zStk p d b o) w w' := c1.mono (by
    rintro b o _ ((h | ⟨q, e, _⟩) | h)
    · exact Or.inl (zAddr_blk h)
    · cases e
    · exact Or.inr h)
  refine ⟨d', qa, qn, qc, ra, rn, rc, rfl, hF.step hc ?_ t1 t2 t3, t2, ⟨a1, a2, ⟨Q, a3, a4, a5, a6⟩, fun b o e => ?_, fun b o e => t5 _ _ b o qn qc rfl (Or.inl (by rw [e]))⟩, ⟨b1, b2, ⟨R, b3, b4, b5, b6⟩, fun b o e => ?_, fun b o e => t5 _ _ b o rn rc rfl (Or.inr (by rw [e]))⟩, c2, a7.homeB, b7.homeB, hc⟩
  · rintro b o (⟨q, e⟩ | h)
    · exact (hzn b q e).1
    · exact hF.zStk h
  · rcases a7.homeB b o e with ⟨o', e'⟩ | hb
    · exact (hzn b o' e').1
    · omega
  · rcases b7.homeB b o e with ⟨o', e'⟩ | hb
    · cases e'
    · omega
theorem Glob.chg {Z : Zone} {w w' : World} (h : Glob w) (k : Chg Z w w') (hz : ∀ b o, b < 10 → ¬ Z b o) : Glob w' :=
  ⟨k.cell h.c9 (hz _ _ (by omega)), k.cell h.c4 (hz _ _ (by omega)), k.cell h.c1 (hz _ _ (by omega)), k.cell h.c5 (hz _ _ (by omega)), k.cell h.c6 (hz _ _ (by omega))⟩
def UtoaP (w : World) (V : Int) (e : Ending) (w' : World) : Prop :=
  ∃ a n c B, e = .returned (.slice a n c) ∧ BNew w w' a n c B ∧ TextW B n false V ∧ Chg zNone w w'
theorem utoa_any (xa : Option Addr) (xn xc : Nat) (V : Int) (w : World) (hx : ∃ X, NatIn w xa xn xc X ∧ Norm X xn ∧ val X xn = V) (hn22 : xn < 22) (hg : Glob w) :
    Calls Tryz.prog 110 #[.slice xa xn xc, .int .i64 10] w (UtoaP w V) := by
  obtain ⟨X, x1, x2, x3⟩ := hx
  have HI := Lib.hid (itoa_all false xa xn xc X V w x1 x2 x3 hn22 hg)
  clear x1 x2 x3 hg
  go_enter Tryz.func110, Tryz.ntmps110
  go_wp2_with fail
  refine HI.out.mono ?_
  rintro e w1 ⟨a, n, c, B, rfl, t1, t2, t3⟩
  have HT := Lib.hid (And.intro t1 (And.intro t2 t3))
  clear t1 t2 t3
  go_wp2
  go_ret
  exact ⟨a, n, c, B, rfl, HT.out.1, by simpa using HT.out.2.1, HT.out.2.2⟩
theorem natTen_any (w : World) : Calls Tryz.prog 105 #[] w fun e w' => e = .returned (.slice (some ⟨w.heap.size, 0, none⟩) 1 1) ∧ w' = w.alloc (.cells #[.int .u64 10] 153) := by
  go_enter Tryz.func105, Tryz.ntmps105
  go_wp2
  go_ret
  exact ⟨rfl, rfl⟩
theorem nm_word {w0 w : World} {p : Nat} {d : Option SD} (x : Int) (t : Nat) (hx : U64 x) (hx0 : x ≠ 0) (hF : Fst w0 w p d) : NmA w0.heap.size (w.alloc (.cells #[.int .u64 x] t)) p d (some ⟨w.heap.size, 0, none⟩) 1 1 x := by
  have hc : (w.alloc (.cells #[.int .u64 x] t)).cell? ⟨w.heap.size, 0, none⟩ = some (.int .u64 x) := cell?_alloc_new w #[.int .u64 x] t 0 (.int .u64 x) rfl
  have hW : Words (w.alloc (.cells #[.int .u64 x] t)) w.heap.size 0 1 (fun _ => x) := fun i hi => by
    obtain rfl : i = 0 := by omega
    exact hc
  have hs := hF.size
  refine ⟨Nat.le_refl _, Or.inr ⟨_, _, rfl, PB.new w _ _, fun i hi => ⟨⟨x, ?_⟩, frozen?_alloc_new w _ t _⟩, by omega⟩, ⟨fun _ => x, Or.inr ⟨_, _, rfl, hW⟩, fun i _ => hx, Or.inr hx0, by simp [val]⟩, fun b o e => ?_, fun b o e => ?_⟩
  · obtain rfl : i = 0 := by omega
    exact hc
  · injection e with e; injection e with e1 _; omega
  · injection e with e; injection e with e1 _; rw [← e1]; exact hF.st.sep_new (Nat.le_refl _)
theorem new_diff {w : World} {a : Option Addr} {o : Nat} (h : ∀ b o, a = some ⟨b, o, none⟩ → b < w.heap.size) : Diff a (some ⟨w.heap.size, o, none⟩) := by
  intro b o1 b' o' e e'
  have := h b o1 e
  injection e' with e'; injection e' with e1 _; omega
theorem NmA.far {s : Nat} {W W' : World} {p : Nat} {d : Option SD} {a : Option Addr} {n c : Nat} {V : Int} (h : NmA s W p d a n c V) (k : Chg zNone W W') : NmA s W' p d a n c V := h.chg k (fun _ _ _ _ h => h)
theorem NmA.apart {s : Nat} {W W' : World} {p : Nat} {d : Option SD} {a x : Option Addr} {n c : Nat} {V : Int} (h : NmA s W p d a n c V) (k : Chg (zBlk x) W W') (hd : Diff a x) : NmA s W' p d a n c V := by
  refine h.chg k ?_
  rintro b o e o' ⟨o2, e2⟩
  exact hd b o b o2 e e2 rfl
theorem NmA.zn {s : Nat} {W : World} {p : Nat} {d : Option SD} {a : Option Addr} {n c : Nat} {V : Int} (h : NmA s W p d a n c V) : ∀ b o, a = some ⟨b, o, none⟩ → s ≤ b ∧ SepB p d b := fun b o e => ⟨h.new b o e, h.sep b o e⟩
theorem NmA.div {w0 W W' : World} {p : Nat} {d d' : Option SD} {a x : Option Addr} {n c : Nat} {V : Int} (h : NmA w0.heap.size W p d a n c V) (k : Chg (fun b o => zBlk x b o ∨ zStk p d b o) W W') (hd : Diff a x) (hf : StkFrom W d d') : NmA w0.heap.size W' p d' a n c V := by
  refine NmA.grow (w := W) (w' := W') (h.chg k ?_) hf h.lt
  rintro b o e o' (⟨o2, e2⟩ | hz)
  · exact hd b o b o2 e e2 rfl
  · exact (h.sep b o e).z o' hz
structure Buf (s : Nat) (W : World) (a : Option Addr) (n c : Nat) (B : Nat → Int) : Prop where
  le : n ≤ c
  z : BZOK W a c
  rd : BRd W a n B
  new : ∀ b o, a = some ⟨b, o, none⟩ → s ≤ b
theorem Buf.nil (s : Nat) (W : World) : Buf s W none 0 0 (fun _ => 0) := ⟨Nat.le_refl _, Or.inl ⟨rfl, rfl⟩, Or.inl rfl, fun b o e => by cases e⟩
theorem Buf.chg {Z : Zone} {s : Nat} {W W' : World} {a : Option Addr} {n c : Nat} {B : Nat → Int} (h : Buf s W a n c B) (k : Chg Z W W') (hz : ∀ b o, a = some ⟨b, o, none⟩ → ∀ o', ¬ Z b o') : Buf s W' a n c B := by
  obtain ⟨h1, h2, h3, h4⟩ := h
  refine ⟨h1, h2.chg k (fun b o ⟨q, e, _⟩ => hz b q e o), ?_, h4⟩
  rcases h3 with h0 | ⟨b, o, e, hw⟩
  · exact Or.inl h0
  · exact Or.inr ⟨b, o, e, hw.chg k (fun i hi => hz b o e _)⟩
theorem Buf.congr {s : Nat} {W : World} {a : Option Addr} {n c : Nat} {B B' : Nat → Int} (h : Buf s W a n c B) (e : ∀ i, i < n → B' i = B i) : Buf s W a n c B' := by
  obtain ⟨h1, h2, h3, h4⟩ := h
  refine ⟨h1, h2, ?_, h4⟩
  rcases h3 with h0 | ⟨b, o, e', hw⟩
  · exact Or.inl h0
  · exact Or.inr ⟨b, o, e', fun i hi => by rw [e i hi]; exact hw i hi⟩
theorem Buf.one {s : Nat} {W : World} {a : Option Addr} {n c : Nat} {B : Nat → Int} (h : Buf s W a n c B) (x : Int) :
    BZOK (W.alloc (.cells #[.int .u8 x] 5)) a c ∧ BRd (W.alloc (.cells #[.int .u8 x] 5)) a n B ∧ (W.alloc (.cells #[.int .u8 x] 5)).cell? ⟨W.heap.size, 0, none⟩ = some (.int .u8 x) := by
  have k : Chg zNone W (W.alloc (.cells #[.int .u8 x] 5)) := (Chg.refl _ _).alloc _
  have := h.chg k (fun _ _ _ _ h => h)
  exact ⟨this.z, this.rd, cell?_alloc_new W #[.int .u8 x] 5 0 (.int .u8 x) rfl⟩
theorem Buf.snoc {s : Nat} {W w2 : World} {a a2 : Option Addr} {n c c2 : Nat} {B : Nat → Int} {x : Int} (h : Buf s W a n c B) (hs : s ≤ W.heap.size) (h2 : BAppRes (W.alloc (.cells #[.int .u8 x] 5)) a n c B x a2 c2 w2) : Buf s w2 a2 (n + 1) c2 (upd B n x) ∧ Chg (zBlk a) W w2 ∧ HomeB W a a2 := by
  obtain ⟨g1, g2, g3, g4, g5⟩ := h2
  have hsz : (W.alloc (.cells #[.int .u8 x] 5)).heap.size = W.heap.size + 1 := by show (Array.push _ _).size = _; simp
  have hh : HomeB W a a2 := by
    rintro b o e
    rcases g4.homeB b o e with h | h
    · exact Or.inl h
    · exact Or.inr (by omega)
  refine ⟨⟨g1, g2, g3, fun b o e => ?_⟩, ((Chg.refl _ _).alloc _).trans g5 (fun b o _ hz => zAddr_blk hz), hh⟩
  rcases hh b o e with ⟨o', e'⟩ | hb
  · exact h.new b o' e'
  · omega
theorem Buf.app {s : Nat} {W w2 : World} {a a2 : Option Addr} {n c m c2 : Nat} {B Y : Nat → Int} (h : Buf s W a n c B) (hs : s ≤ W.heap.size) (h2 : BAppAll W a n c B m Y a2 c2 w2) : Buf s w2 a2 (n + m) c2 (cat B n Y) ∧ Chg (zBlk a) W w2 ∧ HomeB W a a2 := by
  obtain ⟨g1, g2, g3, g4, g5⟩ := h2
  refine ⟨⟨g1, g2, g3, fun b o e => ?_⟩, g5.mono (fun b o _ hz => zAddr_blk hz), g4.homeB⟩
  rcases g4.homeB b o e with ⟨o', e'⟩ | hb
  · exact h.new b o' e'
  · omega
theorem HomeB.sep {w : World} {p : Nat} {d : Option SD} {a a' : Option Addr} (h : HomeB w a a') (ha : ∀ b o, a = some ⟨b, o, none⟩ → SepB p d b) (hst : Stk w p d) : ∀ b o, a' = some ⟨b, o, none⟩ → SepB p d b := by
  intro b o e
  rcases h b o e with ⟨o', e'⟩ | hb
  · exact ha b o' e'
  · exact hst.sep_new hb
theorem Buf.lt {s : Nat} {W : World} {a : Option Addr} {n c : Nat} {B : Nat → Int} (h : Buf s W a n c B) : ∀ b o, a = some ⟨b, o, none⟩ → b < W.heap.size := by
  intro b o e
  rcases h.z with ⟨e2, _⟩ | ⟨b2, o2, e2, hp, _⟩
  · rw [e2] at e; cases e
  · rw [e2] at e; injection e with e; injection e with e3 _; rw [← e3]; exact hp.lt
theorem Buf.far {s : Nat} {W W' : World} {a : Option Addr} {n c : Nat} {B : Nat → Int} (h : Buf s W a n c B) (k : Chg zNone W W') : Buf s W' a n c B := h.chg k (fun _ _ _ _ h => h)
end Go.Proofs.YtmgfajamanakcaaGreatDoor
