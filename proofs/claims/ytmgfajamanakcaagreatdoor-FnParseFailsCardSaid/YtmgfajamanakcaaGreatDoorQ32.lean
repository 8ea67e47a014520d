/-
  Float.Mul of two finite Floats, or of an infinite one: walked; x is z itself. Conditions: as FNum says; no zero meets an infinity.
-/
import Derived.Test.YtmgfajamanakcaaGreatDoorQ25
import Derived.BigRegion
namespace Go.Proofs.YtmgfajamanakcaaGreatDoor
set_option linter.unusedSimpArgs false
open Go.RowKit
set_option maxRecDepth 100000
set_option linter.unusedVariables false
theorem FNum.setNg {w : World} {b : Nat} {v : FV} {X : Nat → Int} (h : FNum w b v X) (x : Bool) : FNum (w.setCell ⟨b, 4, none⟩ (.bool x)) b { v with ng := x } X := by
  refine ⟨h.c.setNg x, h.zset 4 _, h.ap, h.p, h.md, h.fm, h.ex, ?_⟩
  intro hf
  obtain ⟨g1, g2, g3, g4, g5, g6⟩ := h.fin hf
  refine ⟨g1, g2, g3, ?_, g5, g6⟩
  rcases g4 with hh | ⟨b', o, e', hw⟩
  · exact Or.inl hh
  · exact Or.inr ⟨b', o, e', hw.chg (chg_cell _ _ _ _) (fun i hi hh => h.ap b' o e' hh.1)⟩
set_option maxHeartbeats 4000000 in
theorem Mul_fin (zb yb p : Nat) (v vy : FV) (X Y : Nat → Int) (w : World) (h : FNum w zb v X) (hy : FNum w yb vy Y) (hf : v.fm = 1) (hfy : vy.fm = 1) (hp : v.p = (p : Int)) (hne : zb ≠ yb) (hsep : ∀ b o, zF zb v b o → ¬ zF yb vy b o) (hn : v.n < 12) (hny : vy.n < 12)
    (hK : w.cell? ⟨1, 0, none⟩ = some (.int .i64 40)) (hK1 : zb ≠ 1) :
    Calls Tryz.prog 176 #[.pointer (some ⟨zb, 0, none⟩), .pointer (some ⟨zb, 0, none⟩), .pointer (some ⟨yb, 0, none⟩)] w fun e w' => e = .returned (.pointer (some ⟨zb, 0, none⟩)) ∧ ∃ v' Z, MulAll w zb p { v with ng := v.ng != vy.ng } (val X v.n) (val Y vy.n) v.n vy.n (v.e + vy.e) w' v' Z := by
  have H := Lib.hid (And.intro h (And.intro hy (And.intro hf (And.intro hfy (And.intro hsep (And.intro hK hK1))))))
  obtain ⟨P, md, ac, fm, ng, a, n, c, e0⟩ := v
  obtain ⟨Py, mdy, acy, fmy, ngy, ay, ny, cy, ey⟩ := vy
  have hpp := h.p
  simp only at hf hfy hp hn hny hpp
  subst hf
  subst hfy
  subst hp
  obtain ⟨c0, c1, c2, c3, c4, c5, c6, cb⟩ := h.c
  obtain ⟨y0, y1, y2, y3, y4, y5, y6, yb'⟩ := hy.c
  have f4 := cb.fz 4
  simp only at c0 c1 c2 c3 c4 c5 c6 y0 y1 y2 y3 y4 y5 y6
  have d0 : ((p : Int) == 0) = false := by simp; omega
  clear h hy hsep hK hK1 cb yb'
  go_enter Tryz.func176, Tryz.ntmps176
  go_wp2_with fail
  go_cut [6] (fun s6 wc => s6 = .pointer none ∧ Hid (FNum wc zb ⟨(p : Int), md, ac, 1, ng != ngy, a, n, c, e0⟩ X ∧ FNum wc yb ⟨Py, mdy, acy, 1, ngy, ay, ny, cy, ey⟩ Y ∧ Chg (zRow zb 0 7) w wc))
  case first => as_aux_lemma =>
    refine wp_region_noPanic ?_
    go_still_tail 12, (by kernel_rfl)
    go_wp2
    refine NoPanic.normal ?_
    go_wp2
    go_meet
    have kd : Chg zNone w w.drew := (Chg.refl _ _).drew
    have k4 := chg_cell w.drew zb 4 (.bool (ng != ngy))
    refine ⟨rfl, (H.out.1.chg kd (fun _ _ _ h => h)).setNg _, (H.out.2.1.chg kd (fun _ _ _ h => h)).chg k4 (fun b' o hh hz => H.out.2.2.2.2.1 b' o (Or.inl ⟨hz.1, by omega, by have := hz.2.2; omega⟩) hh), (kd.mono (fun _ _ _ h => h.elim)).trans k4 (fun b' o _ hh => ⟨hh.1, by omega, by have := hh.2.2; omega⟩)⟩
  case rest => as_aux_lemma =>
    obtain ⟨rfl, HC⟩ := hcut
    have HU := Lib.hid (umul_other zb yb p ⟨(p : Int), md, ac, 1, ng != ngy, a, n, c, e0⟩ ⟨Py, mdy, acy, 1, ngy, ay, ny, cy, ey⟩ X Y wc HC.out.1 HC.out.2.1 rfl rfl rfl hne H.out.2.2.2.2.1 hn hny (HC.out.2.2.cell H.out.2.2.2.2.2.1 (fun hh => H.out.2.2.2.2.2.2 hh.1.symm)))
    clear c0 c1 c2 c3 c4 c5 c6 y0 y1 y2 y3 y4 y5 y6 f4
    obtain ⟨c0, c1, c2, c3, c4, c5, c6, cb⟩ := HC.out.1.c
    obtain ⟨y0, y1, y2, y3, y4, y5, y6, yb'⟩ := HC.out.2.1.c
    simp only at c0 c1 c2 c3 c4 c5 c6 y0 y1 y2 y3 y4 y5 y6
    clear cb yb'
    go_wp2_with fail
    refine HU.out.mono ?_
    rintro e w2 ⟨rfl, hu⟩
    have Hu := Lib.hid hu
    clear hu
    go_wp2
    go_ret
    refine ⟨rfl, ?_⟩
    have hx := H.out.1.fin rfl
    have hy := H.out.2.1.fin rfl
    simp only at hx hy
    obtain ⟨x1, x2⟩ := val_ge_top hx.2.2.2.2.1 hx.1 hx.2.2.2.2.2
    obtain ⟨y1, y2⟩ := val_ge_top hy.2.2.2.2.1 hy.1 hy.2.2.2.2.2
    obtain ⟨v', Z, g⟩ := umul_res (na := n) (nb := ny) Hu.out (by omega) hx.1 hy.1 x1 x2 y1 y2
    exact ⟨v', Z, ⟨g.new.base rfl rfl (Or.inl ⟨rfl, rfl⟩) (HC.out.2.2.mono (fun _ _ _ h => Or.inl h)), g.ng, g.len, g.fms, g.val⟩⟩
end Go.Proofs.YtmgfajamanakcaaGreatDoor
