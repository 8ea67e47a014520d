/- Part of the proof of FnParse: what the functions that it reaches do, as contracts. Conditions: those that each theorem names. -/
import Derived.Test.YtmgfajamanakcaaGreatDoorR23
namespace Go.Proofs.YtmgfajamanakcaaGreatDoor
set_option linter.unusedVariables false
set_option linter.unusedSimpArgs false
open Go.RowKit
set_option maxRecDepth 100000
set_option maxHeartbeats 4000000 in
theorem Mul_self (zb p : Nat) (v : FV) (X : Nat → Int) (w : World) (h : FNum w zb v X) (hf : v.fm = 1) (hp : v.p = (p : Int)) (hn : v.n < 12)
    (hK5 : w.cell? ⟨5, 0, none⟩ = some (.int .i64 12)) (hK6 : w.cell? ⟨6, 0, none⟩ = some (.int .i64 80)) (h5 : zb ≠ 5) (h6 : zb ≠ 6) :
    Calls Tryz.prog 176 #[.pointer (some ⟨zb, 0, none⟩), .pointer (some ⟨zb, 0, none⟩), .pointer (some ⟨zb, 0, none⟩)] w fun e w' => e = .returned (.pointer (some ⟨zb, 0, none⟩)) ∧ ∃ v' Z, MulAll w zb p { v with ng := false } (val X v.n) (val X v.n) v.n v.n (v.e + v.e) w' v' Z := by
  have H := Lib.hid (And.intro h (And.intro hf (And.intro hK5 (And.intro hK6 (And.intro h5 h6))))); obtain ⟨P, md, ac, fm, ng, a, n, c, e0⟩ := v; have hpp := h.p; simp only at hf hp hn hpp; subst hf; subst hp; obtain ⟨c0, c1, c2, c3, c4, c5, c6, cb⟩ := h.c; have f4 := cb.fz 4; simp only at c0 c1 c2 c3 c4 c5 c6; have d0 : ((p : Int) == 0) = false := by simp; omega
  clear h hK5 hK6 cb h5 h6
  go_enter Tryz.func176, Tryz.ntmps176
  go_wp2_with fail; go_cut [6] (fun s6 wc => s6 = .pointer none ∧ Hid (FNum wc zb ⟨(p : Int), md, ac, 1, false, a, n, c, e0⟩ X ∧ Chg (zRow zb 0 7) w wc))
  case first => as_aux_lemma =>
    refine wp_region_noPanic ?_
    go_still_tail 12, (by kernel_rfl)
    go_wp2; refine NoPanic.normal ?_; go_wp2; go_meet; have kd : Chg zNone w w.drew := (Chg.refl _ _).drew; have k4 := chg_cell w.drew zb 4 (.bool false); have hc := (H.out.1.chg kd (fun _ _ _ h => h)).setNg false
    first
      | exact ⟨rfl, hc, (kd.mono (fun _ _ _ h => h.elim)).trans k4 (fun b' o _ hh => ⟨hh.1, by omega, by have := hh.2.2; omega⟩)⟩
      | (have e : (ng != ng) = false := by cases ng <;> rfl
         rw [← e] at hc k4 ⊢
         exact ⟨rfl, hc, (kd.mono (fun _ _ _ h => h.elim)).trans k4 (fun b' o _ hh => ⟨hh.1, by omega, by have := hh.2.2; omega⟩)⟩)
  case rest => as_aux_lemma =>
    obtain ⟨rfl, HC⟩ := hcut; have HU := Lib.hid (umul_self zb p ⟨(p : Int), md, ac, 1, false, a, n, c, e0⟩ X wc HC.out.1 rfl rfl hn (HC.out.2.cell H.out.2.2.1 (fun hh => H.out.2.2.2.2.1 hh.1.symm)) (HC.out.2.cell H.out.2.2.2.1 (fun hh => H.out.2.2.2.2.2 hh.1.symm))); clear c0 c1 c2 c3 c4 c5 c6 f4; obtain ⟨c0, c1, c2, c3, c4, c5, c6, cb⟩ := HC.out.1.c; simp only at c0 c1 c2 c3 c4 c5 c6; clear cb; go_wp2_with fail; refine HU.out.mono ?_; rintro e w2 ⟨rfl, hu⟩; have Hu := Lib.hid hu; clear hu; go_wp2; go_ret; refine ⟨rfl, ?_⟩; have hx := H.out.1.fin rfl; simp only at hx; obtain ⟨x1, x2⟩ := val_ge_top hx.2.2.2.2.1 hx.1 hx.2.2.2.2.2; obtain ⟨v', Z, g⟩ := umul_res (na := n) (nb := n) Hu.out (by omega) hx.1 hx.1 x1 x2 x1 x2; exact ⟨v', Z, ⟨g.new.base rfl rfl (Or.inl ⟨rfl, rfl⟩) (HC.out.2.mono (fun _ _ _ h => Or.inl h)), g.ng, g.len, g.fms, g.val⟩⟩
theorem FNum.setFm {w : World} {b : Nat} {v : FV} {X : Nat → Int} (h : FNum w b v X) (x : Int) (hx : x = 0 ∨ x = 2) : FNum (w.setCell ⟨b, 3, none⟩ (.int .u8 x)) b { v with fm := x } X :=
  ⟨h.c.setFm x, h.zset 3 _, h.ap, h.p, h.md, by simp only; omega, h.ex, fun e => by simp only at e; omega⟩
set_option maxHeartbeats 4000000 in
theorem Mul_inf12 (zb yb p : Nat) (v vy : FV) (X Y : Nat → Int) (w : World) (h : FNum w zb v X) (hy : FNum w yb vy Y) (hf : v.fm = 1) (hfy : vy.fm = 2) (hp : v.p = (p : Int)) (hne : zb ≠ yb) (hsep : ∀ b o, zF zb v b o → ¬ zF yb vy b o) :
    Calls Tryz.prog 176 #[.pointer (some ⟨zb, 0, none⟩), .pointer (some ⟨zb, 0, none⟩), .pointer (some ⟨yb, 0, none⟩)] w fun e w' => e = .returned (.pointer (some ⟨zb, 0, none⟩)) ∧ FNum w' zb { v with ng := v.ng != vy.ng, ac := 0, fm := 2 } X ∧ Chg (zRow zb 0 7) w w' := by
  have H := Lib.hid (And.intro h (And.intro hy hsep)); obtain ⟨P, md, ac, fm, ng, a, n, c, e0⟩ := v; obtain ⟨Py, mdy, acy, fmy, ngy, ay, ny, cy, ey⟩ := vy; have hpp := h.p; simp only at hf hfy hp hpp; subst hf; subst hfy; subst hp; obtain ⟨c0, c1, c2, c3, c4, c5, c6, cb⟩ := h.c; obtain ⟨y0, y1, y2, y3, y4, y5, y6, yb'⟩ := hy.c; have f4 := cb.fz 4; simp only at c0 c1 c2 c3 c4 c5 c6 y0 y1 y2 y3 y4 y5 y6; have d0 : ((p : Int) == 0) = false := by simp; omega
  clear h hy hsep cb yb'
  go_enter Tryz.func176, Tryz.ntmps176
  go_wp2_with fail; go_cut [6] (fun s6 wc => s6 = .pointer none ∧ Hid (FNum wc zb ⟨(p : Int), md, ac, 1, ng != ngy, a, n, c, e0⟩ X ∧ FNum wc yb ⟨Py, mdy, acy, 2, ngy, ay, ny, cy, ey⟩ Y ∧ Chg (zRow zb 0 7) w wc))
  case first => as_aux_lemma =>
    refine wp_region_noPanic ?_
    go_still_tail 12, (by kernel_rfl)
    go_wp2; refine NoPanic.normal ?_; go_wp2; go_meet; have kd : Chg zNone w w.drew := (Chg.refl _ _).drew; have k4 := chg_cell w.drew zb 4 (.bool (ng != ngy)); refine ⟨rfl, (H.out.1.chg kd (fun _ _ _ h => h)).setNg _, (H.out.2.1.chg kd (fun _ _ _ h => h)).chg k4 (fun b' o hh hz => H.out.2.2 b' o (Or.inl ⟨hz.1, by omega, by have := hz.2.2; omega⟩) hh), (kd.mono (fun _ _ _ h => h.elim)).trans k4 (fun b' o _ hh => ⟨hh.1, by omega, by have := hh.2.2; omega⟩)⟩
  case rest => as_aux_lemma =>
    obtain ⟨rfl, HC⟩ := hcut; clear c0 c1 c2 c3 c4 c5 c6 y0 y1 y2 y3 y4 y5 y6 f4; obtain ⟨c0, c1, c2, c3, c4, c5, c6, cb⟩ := HC.out.1.c; obtain ⟨y0, y1, y2, y3, y4, y5, y6, yb'⟩ := HC.out.2.1.c; have f2 := cb.fz 2; have f3 := cb.fz 3; simp only at c0 c1 c2 c3 c4 c5 c6 y0 y1 y2 y3 y4 y5 y6; clear cb yb'; go_wp2; go_ret; exact ⟨rfl, (HC.out.1.acc 0).setFm 2 (Or.inr rfl), (HC.out.2.2.setCell _ _ _ (fun _ => ⟨rfl, by omega, by omega⟩)).setCell _ _ _ (fun _ => ⟨rfl, by omega, by omega⟩)⟩
set_option maxHeartbeats 4000000 in
theorem Mul_inf21 (zb yb p : Nat) (v vy : FV) (X Y : Nat → Int) (w : World) (h : FNum w zb v X) (hy : FNum w yb vy Y) (hf : v.fm = 2) (hfy : vy.fm = 1) (hp : v.p = (p : Int)) (hne : zb ≠ yb) (hsep : ∀ b o, zF zb v b o → ¬ zF yb vy b o) :
    Calls Tryz.prog 176 #[.pointer (some ⟨zb, 0, none⟩), .pointer (some ⟨zb, 0, none⟩), .pointer (some ⟨yb, 0, none⟩)] w fun e w' => e = .returned (.pointer (some ⟨zb, 0, none⟩)) ∧ FNum w' zb { v with ng := v.ng != vy.ng, ac := 0, fm := 2 } X ∧ Chg (zRow zb 0 7) w w' := by
  have H := Lib.hid (And.intro h (And.intro hy hsep)); obtain ⟨P, md, ac, fm, ng, a, n, c, e0⟩ := v; obtain ⟨Py, mdy, acy, fmy, ngy, ay, ny, cy, ey⟩ := vy; have hpp := h.p; simp only at hf hfy hp hpp; subst hf; subst hfy; subst hp; obtain ⟨c0, c1, c2, c3, c4, c5, c6, cb⟩ := h.c; obtain ⟨y0, y1, y2, y3, y4, y5, y6, yb'⟩ := hy.c; have f4 := cb.fz 4; simp only at c0 c1 c2 c3 c4 c5 c6 y0 y1 y2 y3 y4 y5 y6; have d0 : ((p : Int) == 0) = false := by simp; omega
  clear h hy hsep cb yb'
  go_enter Tryz.func176, Tryz.ntmps176
  go_wp2_with fail; go_cut [6] (fun s6 wc => s6 = .pointer none ∧ Hid (FNum wc zb ⟨(p : Int), md, ac, 2, ng != ngy, a, n, c, e0⟩ X ∧ FNum wc yb ⟨Py, mdy, acy, 1, ngy, ay, ny, cy, ey⟩ Y ∧ Chg (zRow zb 0 7) w wc))
  case first => as_aux_lemma =>
    refine wp_region_noPanic ?_
    go_still_tail 12, (by kernel_rfl)
    go_wp2; refine NoPanic.normal ?_; go_wp2; go_meet; have kd : Chg zNone w w.drew := (Chg.refl _ _).drew; have k4 := chg_cell w.drew zb 4 (.bool (ng != ngy)); refine ⟨rfl, (H.out.1.chg kd (fun _ _ _ h => h)).setNg _, (H.out.2.1.chg kd (fun _ _ _ h => h)).chg k4 (fun b' o hh hz => H.out.2.2 b' o (Or.inl ⟨hz.1, by omega, by have := hz.2.2; omega⟩) hh), (kd.mono (fun _ _ _ h => h.elim)).trans k4 (fun b' o _ hh => ⟨hh.1, by omega, by have := hh.2.2; omega⟩)⟩
  case rest => as_aux_lemma =>
    obtain ⟨rfl, HC⟩ := hcut; clear c0 c1 c2 c3 c4 c5 c6 y0 y1 y2 y3 y4 y5 y6 f4; obtain ⟨c0, c1, c2, c3, c4, c5, c6, cb⟩ := HC.out.1.c; obtain ⟨y0, y1, y2, y3, y4, y5, y6, yb'⟩ := HC.out.2.1.c; have f2 := cb.fz 2; have f3 := cb.fz 3; simp only at c0 c1 c2 c3 c4 c5 c6 y0 y1 y2 y3 y4 y5 y6; clear cb yb'; go_wp2; go_ret; exact ⟨rfl, (HC.out.1.acc 0).setFm 2 (Or.inr rfl), (HC.out.2.2.setCell _ _ _ (fun _ => ⟨rfl, by omega, by omega⟩)).setCell _ _ _ (fun _ => ⟨rfl, by omega, by omega⟩)⟩
set_option maxHeartbeats 4000000 in
theorem Mul_inf22 (zb yb p : Nat) (v vy : FV) (X Y : Nat → Int) (w : World) (h : FNum w zb v X) (hy : FNum w yb vy Y) (hf : v.fm = 2) (hfy : vy.fm = 2) (hp : v.p = (p : Int)) (hne : zb ≠ yb) (hsep : ∀ b o, zF zb v b o → ¬ zF yb vy b o) :
    Calls Tryz.prog 176 #[.pointer (some ⟨zb, 0, none⟩), .pointer (some ⟨zb, 0, none⟩), .pointer (some ⟨yb, 0, none⟩)] w fun e w' => e = .returned (.pointer (some ⟨zb, 0, none⟩)) ∧ FNum w' zb { v with ng := v.ng != vy.ng, ac := 0, fm := 2 } X ∧ Chg (zRow zb 0 7) w w' := by
  have H := Lib.hid (And.intro h (And.intro hy hsep)); obtain ⟨P, md, ac, fm, ng, a, n, c, e0⟩ := v; obtain ⟨Py, mdy, acy, fmy, ngy, ay, ny, cy, ey⟩ := vy; have hpp := h.p; simp only at hf hfy hp hpp; subst hf; subst hfy; subst hp; obtain ⟨c0, c1, c2, c3, c4, c5, c6, cb⟩ := h.c; obtain ⟨y0, y1, y2, y3, y4, y5, y6, yb'⟩ := hy.c; have f4 := cb.fz 4; simp only at c0 c1 c2 c3 c4 c5 c6 y0 y1 y2 y3 y4 y5 y6; have d0 : ((p : Int) == 0) = false := by simp; omega
  clear h hy hsep cb yb'
  go_enter Tryz.func176, Tryz.ntmps176
  go_wp2_with fail; go_cut [6] (fun s6 wc => s6 = .pointer none ∧ Hid (FNum wc zb ⟨(p : Int), md, ac, 2, ng != ngy, a, n, c, e0⟩ X ∧ FNum wc yb ⟨Py, mdy, acy, 2, ngy, ay, ny, cy, ey⟩ Y ∧ Chg (zRow zb 0 7) w wc))
  case first => as_aux_lemma =>
    refine wp_region_noPanic ?_
    go_still_tail 12, (by kernel_rfl)
    go_wp2; refine NoPanic.normal ?_; go_wp2; go_meet; have kd : Chg zNone w w.drew := (Chg.refl _ _).drew; have k4 := chg_cell w.drew zb 4 (.bool (ng != ngy)); refine ⟨rfl, (H.out.1.chg kd (fun _ _ _ h => h)).setNg _, (H.out.2.1.chg kd (fun _ _ _ h => h)).chg k4 (fun b' o hh hz => H.out.2.2 b' o (Or.inl ⟨hz.1, by omega, by have := hz.2.2; omega⟩) hh), (kd.mono (fun _ _ _ h => h.elim)).trans k4 (fun b' o _ hh => ⟨hh.1, by omega, by have := hh.2.2; omega⟩)⟩
  case rest => as_aux_lemma =>
    obtain ⟨rfl, HC⟩ := hcut; clear c0 c1 c2 c3 c4 c5 c6 y0 y1 y2 y3 y4 y5 y6 f4; obtain ⟨c0, c1, c2, c3, c4, c5, c6, cb⟩ := HC.out.1.c; obtain ⟨y0, y1, y2, y3, y4, y5, y6, yb'⟩ := HC.out.2.1.c; have f2 := cb.fz 2; have f3 := cb.fz 3; simp only at c0 c1 c2 c3 c4 c5 c6 y0 y1 y2 y3 y4 y5 y6; clear cb yb'; go_wp2; go_ret; exact ⟨rfl, (HC.out.1.acc 0).setFm 2 (Or.inr rfl), (HC.out.2.2.setCell _ _ _ (fun _ => ⟨rfl, by omega, by omega⟩)).setCell _ _ _ (fun _ => ⟨rfl, by omega, by omega⟩)⟩
set_option maxHeartbeats 4000000 in
theorem Mul_inf_self (zb p : Nat) (v : FV) (X : Nat → Int) (w : World) (h : FNum w zb v X) (hf : v.fm = 2) (hp : v.p = (p : Int)) :
    Calls Tryz.prog 176 #[.pointer (some ⟨zb, 0, none⟩), .pointer (some ⟨zb, 0, none⟩), .pointer (some ⟨zb, 0, none⟩)] w fun e w' => e = .returned (.pointer (some ⟨zb, 0, none⟩)) ∧ FNum w' zb { v with ng := false, ac := 0, fm := 2 } X ∧ Chg (zRow zb 0 7) w w' := by
  have H := Lib.hid h; obtain ⟨P, md, ac, fm, ng, a, n, c, e0⟩ := v; have hpp := h.p; simp only at hf hp hpp; subst hf; subst hp; obtain ⟨c0, c1, c2, c3, c4, c5, c6, cb⟩ := h.c; have f4 := cb.fz 4; simp only at c0 c1 c2 c3 c4 c5 c6; have d0 : ((p : Int) == 0) = false := by simp; omega
  clear h cb
  go_enter Tryz.func176, Tryz.ntmps176
  go_wp2_with fail; go_cut [6] (fun s6 wc => s6 = .pointer none ∧ Hid (FNum wc zb ⟨(p : Int), md, ac, 2, false, a, n, c, e0⟩ X ∧ Chg (zRow zb 0 7) w wc))
  case first => as_aux_lemma =>
    refine wp_region_noPanic ?_
    go_still_tail 12, (by kernel_rfl)
    go_wp2; refine NoPanic.normal ?_; go_wp2; go_meet; have kd : Chg zNone w w.drew := (Chg.refl _ _).drew; have k4 := chg_cell w.drew zb 4 (.bool false); have hc := (H.out.chg kd (fun _ _ _ h => h)).setNg false
    first
      | exact ⟨rfl, hc, (kd.mono (fun _ _ _ h => h.elim)).trans k4 (fun b' o _ hh => ⟨hh.1, by omega, by have := hh.2.2; omega⟩)⟩
      | (have e : (ng != ng) = false := by cases ng <;> rfl
         rw [← e] at hc k4 ⊢
         exact ⟨rfl, hc, (kd.mono (fun _ _ _ h => h.elim)).trans k4 (fun b' o _ hh => ⟨hh.1, by omega, by have := hh.2.2; omega⟩)⟩)
  case rest => as_aux_lemma =>
    obtain ⟨rfl, HC⟩ := hcut; clear c0 c1 c2 c3 c4 c5 c6 f4; obtain ⟨c0, c1, c2, c3, c4, c5, c6, cb⟩ := HC.out.1.c; have f2 := cb.fz 2; have f3 := cb.fz 3; simp only at c0 c1 c2 c3 c4 c5 c6; clear cb; go_wp2; go_ret; exact ⟨rfl, (HC.out.1.acc 0).setFm 2 (Or.inr rfl), (HC.out.2.setCell _ _ _ (fun _ => ⟨rfl, by omega, by omega⟩)).setCell _ _ _ (fun _ => ⟨rfl, by omega, by omega⟩)⟩
end Go.Proofs.YtmgfajamanakcaaGreatDoor
