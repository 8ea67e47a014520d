/- Part of the proof of FnParse: what the functions that it reaches do, as contracts. Conditions: those that each theorem names. -/
import Derived.Test.YtmgfajamanakcaaGreatDoorR23
import Derived.Test.YtmgfajamanakcaaGreatDoorR24
namespace Go.Proofs.YtmgfajamanakcaaGreatDoor
set_option linter.unusedVariables false
set_option linter.unusedSimpArgs false
open Go.RowKit
set_option maxRecDepth 100000
set_option maxHeartbeats 4000000 in
theorem Quo_fin (zb yb p : Nat) (v vy : FV) (X Y : Nat → Int) (w : World) (h : FNum w zb v X) (hy : FNum w yb vy Y) (hf : v.fm = 1) (hfy : vy.fm = 1) (hp : v.p = (p : Int)) (hne : zb ≠ yb) (hsep : ∀ b o, zF zb v b o → ¬ zF yb vy b o) (hn : v.n < 1000) (hny : vy.n < 40)
    (hK : w.cell? ⟨4, 0, none⟩ = some (.int .i64 40)) (hK1 : zb ≠ 4) :
    Calls Tryz.prog 89 #[.pointer (some ⟨zb, 0, none⟩), .pointer (some ⟨zb, 0, none⟩), .pointer (some ⟨yb, 0, none⟩)] w fun e w' => e = .returned (.pointer (some ⟨zb, 0, none⟩)) ∧ ∃ v' Z, QuoAll w zb p { v with ng := v.ng != vy.ng } (val X v.n) (val Y vy.n) v.n vy.n (v.e - vy.e) w' v' Z := by
  have H := Lib.hid (And.intro h (And.intro hy (And.intro hf (And.intro hfy (And.intro hsep (And.intro hK hK1))))))
  obtain ⟨P, md, ac, fm, ng, a, n, c, e0⟩ := v
  obtain ⟨Py, mdy, acy, fmy, ngy, ay, ny, cy, ey⟩ := vy
  have hpp := h.p
  simp only at hf hfy hp hn hny hpp
  subst hf
  subst hfy
  subst hp
  obtain ⟨c0, c1, c2, c3, c4, c5, c6, cb⟩ := h.c
  obtain ⟨y0, y1, y2, y3, y4, y5, y6, yb'⟩ := hy.c
  have f4 := cb.fz 4
  simp only at c0 c1 c2 c3 c4 c5 c6 y0 y1 y2 y3 y4 y5 y6
  have d0 : ((p : Int) == 0) = false := by simp; omega
  clear h hy hsep hK hK1 cb yb'
  go_enter Tryz.func89, Tryz.ntmps89
  go_wp2_with fail
  go_cut [6] (fun s6 wc => s6 = .pointer none ∧ Hid (FNum wc zb ⟨(p : Int), md, ac, 1, ng != ngy, a, n, c, e0⟩ X ∧ FNum wc yb ⟨Py, mdy, acy, 1, ngy, ay, ny, cy, ey⟩ Y ∧ Chg (zRow zb 0 7) w wc))
  case first => as_aux_lemma =>
    refine wp_region_noPanic ?_
    go_still_tail 12, (by kernel_rfl)
    go_wp2
    refine NoPanic.normal ?_
    go_wp2
    go_meet
    have kd : Chg zNone w w.drew := (Chg.refl _ _).drew
    have k4 := chg_cell w.drew zb 4 (.bool (ng != ngy))
    refine ⟨rfl, (H.out.1.chg kd (fun _ _ _ h => h)).setNg _, (H.out.2.1.chg kd (fun _ _ _ h => h)).chg k4 (fun b' o hh hz => H.out.2.2.2.2.1 b' o (Or.inl ⟨hz.1, by omega, by have := hz.2.2; omega⟩) hh), (kd.mono (fun _ _ _ h => h.elim)).trans k4 (fun b' o _ hh => ⟨hh.1, by omega, by have := hh.2.2; omega⟩)⟩
  case rest => as_aux_lemma =>
    obtain ⟨rfl, HC⟩ := hcut
    have HU := Lib.hid (uquo_any zb yb p ⟨(p : Int), md, ac, 1, ng != ngy, a, n, c, e0⟩ ⟨Py, mdy, acy, 1, ngy, ay, ny, cy, ey⟩ X Y wc HC.out.1 HC.out.2.1 rfl rfl rfl hne H.out.2.2.2.2.1 hn hny (HC.out.2.2.cell H.out.2.2.2.2.2.1 (fun hh => H.out.2.2.2.2.2.2 hh.1.symm)))
    clear c0 c1 c2 c3 c4 c5 c6 y0 y1 y2 y3 y4 y5 y6 f4
    obtain ⟨c0, c1, c2, c3, c4, c5, c6, cb⟩ := HC.out.1.c
    obtain ⟨y0, y1, y2, y3, y4, y5, y6, yb'⟩ := HC.out.2.1.c
    simp only at c0 c1 c2 c3 c4 c5 c6 y0 y1 y2 y3 y4 y5 y6
    clear cb yb'
    go_wp2_with fail
    refine HU.out.mono ?_
    rintro e w2 ⟨rfl, hu⟩
    have Hu := Lib.hid hu
    clear hu
    go_wp2
    go_ret
    obtain ⟨v', Z, g⟩ := Hu.out
    exact ⟨rfl, v', Z, ⟨g.new.base rfl rfl (Or.inl ⟨rfl, rfl⟩) (HC.out.2.2.mono (fun _ _ _ h => Or.inl h)), g.ng, g.len, g.val⟩⟩
set_option maxHeartbeats 4000000 in
theorem Quo_inf (zb yb p : Nat) (v vy : FV) (X Y : Nat → Int) (w : World) (h : FNum w zb v X) (hy : FNum w yb vy Y) (hf : v.fm = 1) (hfy : vy.fm = 2) (hp : v.p = (p : Int)) (hne : zb ≠ yb) (hsep : ∀ b o, zF zb v b o → ¬ zF yb vy b o) :
    Calls Tryz.prog 89 #[.pointer (some ⟨zb, 0, none⟩), .pointer (some ⟨zb, 0, none⟩), .pointer (some ⟨yb, 0, none⟩)] w fun e w' => e = .returned (.pointer (some ⟨zb, 0, none⟩)) ∧ FNum w' zb { v with ng := v.ng != vy.ng, ac := 0, fm := 0 } X ∧ Chg (zRow zb 0 7) w w' := by
  have H := Lib.hid (And.intro h (And.intro hy hsep))
  obtain ⟨P, md, ac, fm, ng, a, n, c, e0⟩ := v
  obtain ⟨Py, mdy, acy, fmy, ngy, ay, ny, cy, ey⟩ := vy
  have hpp := h.p
  simp only at hf hfy hp hpp
  subst hf
  subst hfy
  subst hp
  obtain ⟨c0, c1, c2, c3, c4, c5, c6, cb⟩ := h.c
  obtain ⟨y0, y1, y2, y3, y4, y5, y6, yb'⟩ := hy.c
  have f4 := cb.fz 4
  simp only at c0 c1 c2 c3 c4 c5 c6 y0 y1 y2 y3 y4 y5 y6
  have d0 : ((p : Int) == 0) = false := by simp; omega
  clear h hy hsep cb yb'
  go_enter Tryz.func89, Tryz.ntmps89
  go_wp2_with fail
  go_cut [6] (fun s6 wc => s6 = .pointer none ∧ Hid (FNum wc zb ⟨(p : Int), md, ac, 1, ng != ngy, a, n, c, e0⟩ X ∧ FNum wc yb ⟨Py, mdy, acy, 2, ngy, ay, ny, cy, ey⟩ Y ∧ Chg (zRow zb 0 7) w wc))
  case first => as_aux_lemma =>
    refine wp_region_noPanic ?_
    go_still_tail 12, (by kernel_rfl)
    go_wp2
    refine NoPanic.normal ?_
    go_wp2
    go_meet
    have kd : Chg zNone w w.drew := (Chg.refl _ _).drew
    have k4 := chg_cell w.drew zb 4 (.bool (ng != ngy))
    refine ⟨rfl, (H.out.1.chg kd (fun _ _ _ h => h)).setNg _, (H.out.2.1.chg kd (fun _ _ _ h => h)).chg k4 (fun b' o hh hz => H.out.2.2 b' o (Or.inl ⟨hz.1, by omega, by have := hz.2.2; omega⟩) hh), (kd.mono (fun _ _ _ h => h.elim)).trans k4 (fun b' o _ hh => ⟨hh.1, by omega, by have := hh.2.2; omega⟩)⟩
  case rest => as_aux_lemma =>
    obtain ⟨rfl, HC⟩ := hcut
    clear c0 c1 c2 c3 c4 c5 c6 y0 y1 y2 y3 y4 y5 y6 f4
    obtain ⟨c0, c1, c2, c3, c4, c5, c6, cb⟩ := HC.out.1.c
    obtain ⟨y0, y1, y2, y3, y4, y5, y6, yb'⟩ := HC.out.2.1.c
    have f2 := cb.fz 2
    have f3 := cb.fz 3
    simp only at c0 c1 c2 c3 c4 c5 c6 y0 y1 y2 y3 y4 y5 y6
    clear cb yb'
    go_wp2
    go_ret
    exact ⟨rfl, (HC.out.1.acc 0).setFm 0 (Or.inl rfl), (HC.out.2.2.setCell _ _ _ (fun _ => ⟨rfl, by omega, by omega⟩)).setCell _ _ _ (fun _ => ⟨rfl, by omega, by omega⟩)⟩
def SetU (w : World) (b : Nat) (v : FV) (x : Int) (w' : World) : Prop :=
  ∃ v' Z, FNew w b v w' v' Z ∧ v'.ng = false ∧ v'.ac = 0 ∧ v'.fm = 1 ∧ v'.n = 1 ∧ val Z 1 = x * 2 ^ nlzOf x ∧ v'.e = 64 - (nlzOf x : Int) ∧ nlzOf x < 64
set_option maxHeartbeats 4000000 in
theorem setBits64_any (zb : Nat) (v : FV) (X : Nat → Int) (x : Int) (w : World) (h : FNum w zb v X) (hp : 64 ≤ v.p) (hx0 : x ≠ 0) (hx : U64 x) :
    Calls Tryz.prog 253 #[.pointer (some ⟨zb, 0, none⟩), .bool false, .int .u64 x] w fun e w' => e = .returned (.pointer (some ⟨zb, 0, none⟩)) ∧ SetU w zb v x w' := by
  have hsp := nlz_spec (x := x) (by have := hx.1; omega) hx.2
  have hpp := h.p
  have H := Lib.hid (And.intro h (And.intro hsp hx))
  obtain ⟨P, md, ac, fm, ng, a, n, c, e0⟩ := v
  simp only at hp hpp
  obtain ⟨c0, c1, c2, c3, c4, c5, c6, cb⟩ := h.c
  have f2 := cb.fz 2
  have f3 := cb.fz 3
  have f4 := cb.fz 4
  have f5 := cb.fz 5
  have f6 := cb.fz 6
  simp only at c0 c1 c2 c3 c4 c5 c6
  have d0 : (P == 0) = false := by simp; omega
  have d1 : (x == 0) = false := by simp [hx0]
  have d2 : decide (P < 64) = false := by simp; omega
  obtain ⟨s, hs⟩ : ∃ s, nlzOf x = s := ⟨_, rfl⟩
  have hs64 : s < 64 := by rw [← hs]; exact hsp.1
  have HL := Lib.hid (fun W => lz64_any x W hx)
  rw [hs] at HL
  have w1 : IntKind.u64.wrap (s : Int) = (s : Int) := by rw [wrap_u64]; omega
  obtain ⟨xs, hxs⟩ : ∃ y, x * 2 ^ s = y := ⟨_, rfl⟩
  have hxsw : U64 xs := by rw [← hxs, ← hs]; exact ⟨by have := hsp.2.1; omega, hsp.2.2⟩
  have w2 : IntKind.u64.wrap xs = xs := by rw [wrap_u64]; have := hxsw.1; have := hxsw.2; omega
  have w3 : IntKind.i32.wrap (64 - (s : Int)) = 64 - (s : Int) := IntWalk.i32_in _ (by omega)
  have h4 := ((h.acc 0).setNg false)
  obtain ⟨W1, hW1⟩ : ∃ W1, W1 = ((w.setCell ⟨zb, 2, none⟩ (.int .i8 0)).setCell ⟨zb, 4, none⟩ (.bool false)).setCell ⟨zb, 3, none⟩ (.int .u8 1) := ⟨_, rfl⟩
  have k1 : Chg (zRow zb 0 7) w W1 := by rw [hW1]; exact (((Chg.refl _ _).setCell _ _ _ (fun _ => ⟨rfl, by omega, by omega⟩)).setCell _ _ _ (fun _ => ⟨rfl, by omega, by omega⟩)).setCell _ _ _ (fun _ => ⟨rfl, by omega, by omega⟩)
  have hc1 : FltC W1 zb ⟨P, md, 0, 1, false, a, n, c, e0⟩ := by rw [hW1]; exact h4.c.setFm 1
  have hz1 : ZOK W1 a c := h.z.chg k1 (by rintro b' o ⟨po, e, _⟩ hh; exact h.ap b' po e hh.1)
  have HU := Lib.hid (setUint64_any a n c xs W1 hz1 hxsw)
  rw [hW1] at HU
  have HC := Lib.hid (And.intro k1 (And.intro hc1 (And.intro hz1 (And.intro hs hxs))))
  have HW1 := Lib.hid hW1
  clear h hx hsp hx0 cb hs h4 k1 hc1 hz1 hxsw hW1
  go_enter Tryz.func253, Tryz.ntmps253
  go_wp2_with fail
  refine (HL.out _).mono ?_
  rintro e w2' ⟨rfl, rfl⟩
  go_wp2_with fail
  rw [← HW1.out]
  rw [← HW1.out] at HU
  refine HU.out.mono ?_
  rintro e w4 ⟨a', n', c', Z, rfl, h1, h2, h3, h4, h5, h6, h7, h8⟩
  obtain ⟨k1, hc1, hz1, hs, hxs⟩ := HC.out
  have hap := (H.out.1).ap
  simp only at hap
  have ha' : ∀ b' o, a' = some ⟨b', o, none⟩ → b' ≠ zb := by
    intro b' o e
    rcases h7 with ⟨g, _⟩ | ⟨b2, o2, g, hb⟩
    · exact hap b' o (g.symm.trans e)
    · rw [g] at e; injection e with e; injection e with e1 _
      have := hc1.lt; omega
  have hc4 := hc1.chg h8 (fun o ho hh => by obtain ⟨po, e, _⟩ := hh; exact hap _ _ e rfl)
  have hxs2 := (H.out.2.1)
  rw [hs, hxs] at hxs2
  have hn1 : n' = 1 := by
    rcases Nat.lt_or_ge 1 n' with hh | hh
    · exfalso
      have := val_mono_len h4 h5 (by omega) (show val Z n' < BB ^ 1 by rw [h6]; unfold BB; simp; omega)
      omega
    · rcases Nat.eq_zero_or_pos n' with e | e
      · rw [e] at h6; simp only [val] at h6; omega
      · omega
  subst hn1
  have HQ := Lib.hid (And.intro h1 (And.intro h2 (And.intro h3 (And.intro h4 (And.intro h5 (And.intro h6 (And.intro h7 (And.intro h8 (And.intro ha' (And.intro hc4 (And.intro hxs2 k1)))))))))))
  have hs' := Lib.hid (And.intro hs hxs)
  have Hap := Lib.hid hap
  clear c0 c1 c2 c3 c4 c5 c6 f2 f3 f4 f5 f6 h1 h2 h3 h4 h5 h6 h7 h8 ha' hxs2 k1 hs hxs hc1 hz1 hap HC HU HL
  obtain ⟨c0, c1, c2, c3, c4, c5, c6, cb⟩ := hc4
  have f5 := cb.fz 5
  have f6 := cb.fz 6
  simp only at c0 c1 c2 c3 c4 c5 c6
  clear cb
  go_wp2
  go_ret
  obtain ⟨h1, h2, h3, h4, h5, h6, h7, h8, ha', hc4, hxs2, k1⟩ := HQ.out
  obtain ⟨hs, hxs⟩ := hs'.out
  have k5 := chg_cell w4 zb 5 (.slice a' 1 c')
  have k6 := chg_cell (w4.setCell ⟨zb, 5, none⟩ (.slice a' 1 c')) zb 6 (.int .i32 (64 - (s : Int)))
  have kk : Chg (zRow zb 0 7) w4 ((w4.setCell ⟨zb, 5, none⟩ (.slice a' 1 c')).setCell ⟨zb, 6, none⟩ (.int .i32 (64 - (s : Int)))) :=
    (k5.mono (fun b' o _ hh => ⟨hh.1, by omega, by have := hh.2.2; omega⟩)).trans k6 (fun b' o _ hh => ⟨hh.1, by omega, by have := hh.2.2; omega⟩)
  have hfar : ∀ b' o, zAddr a' c' b' o → ¬ zRow zb 0 7 b' o := by
    rintro b' o ⟨po, e, _⟩ hh
    exact ha' b' po e hh.1
  have hZ0 : Z 0 = xs := by rw [← h6, val_one]
  refine ⟨rfl, ⟨P, md, 0, 1, false, a', 1, c', 64 - (s : Int)⟩, Z, ⟨⟨(hc4.setMt a' 1 c').setEx _, h2.chg kk hfar, ha', hpp, H.out.1.md, Or.inr (Or.inl rfl), by simp only; omega, fun _ => ⟨by simp, h1, by simp, ?_, h4, by simp only [Nat.sub_self]; omega⟩⟩, rfl, rfl, home_le h7 k1.size, ?_⟩, rfl, rfl, rfl, rfl, ?_, by rw [hs], by rw [hs]; exact hs64⟩
  · rcases h3 with hh | ⟨b', o, e, hw⟩
    · exact Or.inl hh
    · exact Or.inr ⟨b', o, e, hw.chg kk (fun i hi => hfar _ _ ⟨o, e, by omega, by omega⟩)⟩
  · exact ((k1.mono (fun _ _ _ h => Or.inl h)).trans h8 (fun _ _ _ h => Or.inr h)).trans kk (fun _ _ _ h => Or.inl h)
  · rw [h6, hs]; exact hxs.symm
theorem SetUint64_any (zb : Nat) (v : FV) (X : Nat → Int) (x : Int) (w : World) (h : FNum w zb v X) (hp : 64 ≤ v.p) (hx0 : x ≠ 0) (hx : U64 x) :
    Calls Tryz.prog 226 #[.pointer (some ⟨zb, 0, none⟩), .int .u64 x] w fun e w' => e = .returned (.pointer (some ⟨zb, 0, none⟩)) ∧ SetU w zb v x w' := by
  have HC := Lib.hid (setBits64_any zb v X x w h hp hx0 hx)
  clear h hp hx0 hx
  go_enter Tryz.func226, Tryz.ntmps226
  go_wp2_with fail
  refine HC.out.mono ?_
  rintro e w1 ⟨rfl, h1⟩
  have H := Lib.hid h1
  clear h1
  go_wp2
  go_ret
  exact ⟨rfl, H.out⟩
def Big (v : FV) (p : Nat) : Prop := v.p = (p : Int) ∧ (v.fm = 2 ∨ (v.fm = 1 ∧ 1 ≤ v.e ∧ 64 * v.n ≤ p + 63))
theorem fnew_of {w w' : World} {b : Nat} {v v' : FV} {X : Nat → Int} (h : FNum w' b v' X) (hp : v'.p = v.p) (hm : v'.md = v.md) (ha : v'.a = v.a) (hc : v'.c = v.c) (k : Chg (zRow b 0 7) w w') : FNew w b v w' v' X :=
  ⟨h, hp, hm, Or.inl ⟨ha, hc⟩, k.mono (fun _ _ _ h => Or.inl h)⟩
theorem Mul_big (zb yb p py : Nat) (v vy : FV) (X Y : Nat → Int) (w : World) (h : FNum w zb v X) (hy : FNum w yb vy Y) (hb : Big v p) (hby : Big vy py) (hp : p ≤ 640) (hpy : py ≤ 640) (hne : zb ≠ yb) (hsep : ∀ b o, zF zb v b o → ¬ zF yb vy b o)
    (hK : w.cell? ⟨1, 0, none⟩ = some (.int .i64 40)) (hK1 : zb ≠ 1) :
    Calls Tryz.prog 176 #[.pointer (some ⟨zb, 0, none⟩), .pointer (some ⟨zb, 0, none⟩), .pointer (some ⟨yb, 0, none⟩)] w fun e w' => e = .returned (.pointer (some ⟨zb, 0, none⟩)) ∧ ∃ v' Z, FNew w zb v w' v' Z ∧ Big v' p := by
  obtain ⟨p1, c1⟩ := hb
  obtain ⟨p2, c2⟩ := hby
  rcases c1 with c1 | ⟨c1, e1, n1⟩
  · rcases c2 with c2 | ⟨c2, e2, n2⟩
    · refine (Mul_inf22 zb yb p v vy X Y w h hy c1 c2 p1 hne hsep).mono ?_
      rintro e w' ⟨rfl, g1, g2⟩
      exact ⟨rfl, _, X, fnew_of g1 rfl rfl rfl rfl g2, p1, Or.inl rfl⟩
    · refine (Mul_inf21 zb yb p v vy X Y w h hy c1 c2 p1 hne hsep).mono ?_
      rintro e w' ⟨rfl, g1, g2⟩
      exact ⟨rfl, _, X, fnew_of g1 rfl rfl rfl rfl g2, p1, Or.inl rfl⟩
  · rcases c2 with c2 | ⟨c2, e2, n2⟩
    · refine (Mul_inf12 zb yb p v vy X Y w h hy c1 c2 p1 hne hsep).mono ?_
      rintro e w' ⟨rfl, g1, g2⟩
      exact ⟨rfl, _, X, fnew_of g1 rfl rfl rfl rfl g2, p1, Or.inl rfl⟩
    · refine (Mul_fin zb yb p v vy X Y w h hy c1 c2 p1 hne hsep (by omega) (by omega) hK hK1).mono ?_
      rintro e w' ⟨rfl, v', Z, g⟩
      have hx1 := h.ex
      have hx2 := hy.ex
      refine ⟨rfl, v', Z, ⟨g.new.num, g.new.p, g.new.md, g.new.home, g.new.chg⟩, g.new.p.trans p1, ?_⟩
      rcases g.fms (by omega) with k | ⟨k1, k2, _⟩
      · exact Or.inl k
      · exact Or.inr ⟨k1, by omega, g.len k1⟩
theorem Mul_big_self (zb p : Nat) (v : FV) (X : Nat → Int) (w : World) (h : FNum w zb v X) (hb : Big v p) (hp : p ≤ 640)
    (hK5 : w.cell? ⟨5, 0, none⟩ = some (.int .i64 12)) (hK6 : w.cell? ⟨6, 0, none⟩ = some (.int .i64 80)) (h5 : zb ≠ 5) (h6 : zb ≠ 6) :
    Calls Tryz.prog 176 #[.pointer (some ⟨zb, 0, none⟩), .pointer (some ⟨zb, 0, none⟩), .pointer (some ⟨zb, 0, none⟩)] w fun e w' => e = .returned (.pointer (some ⟨zb, 0, none⟩)) ∧ ∃ v' Z, FNew w zb v w' v' Z ∧ Big v' p := by
  obtain ⟨p1, c1⟩ := hb
  rcases c1 with c1 | ⟨c1, e1, n1⟩
  · refine (Mul_inf_self zb p v X w h c1 p1).mono ?_
    rintro e w' ⟨rfl, g1, g2⟩
    exact ⟨rfl, _, X, fnew_of g1 rfl rfl rfl rfl g2, p1, Or.inl rfl⟩
  · refine (Mul_self zb p v X w h c1 p1 (by omega) hK5 hK6 h5 h6).mono ?_
    rintro e w' ⟨rfl, v', Z, g⟩
    have hx1 := h.ex
    refine ⟨rfl, v', Z, ⟨g.new.num, g.new.p, g.new.md, g.new.home, g.new.chg⟩, g.new.p.trans p1, ?_⟩
    rcases g.fms (by omega) with k | ⟨k1, k2, _⟩
    · exact Or.inl k
    · exact Or.inr ⟨k1, by omega, g.len k1⟩
end Go.Proofs.YtmgfajamanakcaaGreatDoor
