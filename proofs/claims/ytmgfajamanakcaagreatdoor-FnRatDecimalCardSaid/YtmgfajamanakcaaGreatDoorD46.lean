/- Part of the proof of FnParse: what the functions that it reaches do, as contracts. Conditions: those that each theorem names. -/
import Derived.Test.YtmgfajamanakcaaGreatDoorD45
namespace Go.Proofs.YtmgfajamanakcaaGreatDoor
set_option linter.unusedVariables false
set_option linter.unusedSimpArgs false
open Go Go.RowKit Si
set_option maxRecDepth 100000
structure C3 (w : World) (p : Nat) (v0 v1 v2 : Value) : Prop where
  c0 : w.cell? ⟨p, 0, none⟩ = some v0
  c1 : w.cell? ⟨p, 1, none⟩ = some v1
  c2 : w.cell? ⟨p, 2, none⟩ = some v2
  pb : PB w p
theorem C3.chg {Z : Zone} {w w' : World} {p : Nat} {v0 v1 v2 : Value} (h : C3 w p v0 v1 v2) (k : Chg Z w w') (hz : ∀ o, ¬ Z p o) : C3 w' p v0 v1 v2 :=
  ⟨k.cell h.c0 (hz _), k.cell h.c1 (hz _), k.cell h.c2 (hz _), h.pb.chg k⟩
theorem newC3 (w : World) (v0 v1 v2 : Value) (ty : TypeId) : C3 (w.alloc (.cells #[v0, v1, v2] ty)) w.heap.size v0 v1 v2 :=
  ⟨cell?_alloc_new w _ _ 0 _ rfl, cell?_alloc_new w _ _ 1 _ rfl, cell?_alloc_new w _ _ 2 _ rfl, PB.new w _ _⟩
theorem C3.three {w : World} {p : Nat} {u0 u1 u2 : Value} (h : C3 w p u0 u1 u2) (v0 v1 v2 : Value) :
    C3 (((w.setCell ⟨p, 0, none⟩ v0).setCell ⟨p, 1, none⟩ v1).setCell ⟨p, 2, none⟩ v2) p v0 v1 v2 := by
  obtain ⟨h0, h1, h2, hp⟩ := h
  refine ⟨?_, ?_, ?_, hp.chg (Si.dy_row w p _ _ _)⟩
  · rw [cs_other (by omega), cs_other (by omega)]; exact cs_same (u := u0) h0
  · rw [cs_other (by omega)]; exact cs_same (u := u1) (by rw [cs_other (by omega)]; exact h1)
  · exact cs_same (u := u2) (by rw [cs_other (by omega), cs_other (by omega)]; exact h2)
theorem fresh_row {wA : World} {a : Option Addr} {c p : Nat} (hf : Fresh wA a) (hp : p < wA.heap.size) : ∀ b o, zAddr a c b o → ¬ zRow p 0 3 b o := by
  rintro b o ⟨po, e, _⟩ hh
  rcases hf with h1 | ⟨b2, o2, e2, hb⟩
  · rw [h1] at e; cases e
  · rw [e2] at e
    injection e with e
    injection e with e3 _
    have := hh.1
    omega
theorem far_row {w wc wf : World} {p : Nat} (k : Chg zNone w wc) (k2 : Chg (zRow p 0 3) wc wf) (hp : w.heap.size ≤ p) : Chg zNone w wf := k.trans k2 (fun b o h1 h2 => by have := h2.1; omega)
structure SW3 (wc : World) (p : Nat) (w : World) : Prop where
  k : Chg (zRow p 0 3) wc w
  c : ∃ v0 v1 v2, C3 w p v0 v1 v2
theorem SW3.far {wc w w' : World} {p : Nat} (h : SW3 wc p w) (k : Chg zNone w w') : SW3 wc p w' := ⟨h.k.trans k (fun _ _ _ h => False.elim h), by obtain ⟨v0, v1, v2, hc⟩ := h.c; exact ⟨v0, v1, v2, hc.chg k (fun _ h => h)⟩⟩
theorem SW3.store {wc w : World} {p : Nat} {u0 u1 u2 : Value} (h : SW3 wc p w) (hc : C3 w p u0 u1 u2) (v0 v1 v2 : Value) : SW3 wc p (((w.setCell ⟨p, 0, none⟩ v0).setCell ⟨p, 1, none⟩ v1).setCell ⟨p, 2, none⟩ v2) := ⟨h.k.trans (Si.dy_row w p v0 v1 v2) (fun _ _ _ h => h), v0, v1, v2, hc.three v0 v1 v2⟩
theorem res52 {tmps : Array Value} {w : World} {p : Nat} {ng r : Bool} {a b : Option Addr} {n c m d : Nat} (h : C3 w p (.bool ng) (.slice a n c) (.slice b m d)) (ht : tmps.getD 2 undef = .pointer (some ⟨p, 0, none⟩)) (h5 : tmps.getD 3 undef = .bool r) :
    (results Tryz.f52 tmps).run Tryz.prog w = .ok (.tuple #[ratV ng a n c b m d, .bool r]) w := by
  obtain ⟨h0, h1, h2, hp⟩ := h
  have ht' : tmps[2]?.getD undef = .pointer (some ⟨p, 0, none⟩) := by simpa using ht
  have h5'' : tmps[3]?.getD undef = .bool r := by simpa using h5
  simp [results, Tryz.results52, go_sem, ht', h5'', h0, h1, h2, ratV]
def OfFracP (w : World) (xn : Bool) (U : Nat → Int) (un : Nat) (D : Nat → Int) (dn : Nat) (e : Ending) (w' : World) : Prop :=
  ∃ a n c b m d r, e = .returned (.tuple #[ratV xn a n c b m d, .bool r]) ∧ (r = true ↔ ((xn = (xn && decide (val U un ≠ 0)) ∧ Norm U un) ∧ Norm D dn ∧ ((Int.gcd (val U un) (val D dn) : Nat) : Int) = 1)) ∧
    n ≤ 4 * un ∧ Si.NatV w' a n c (val U un) ∧ Fresh w a ∧ m ≤ 4 * dn ∧ Si.NatV w' b m d (val D dn) ∧ Fresh w b ∧ Chg zNone w w'
set_option maxHeartbeats 4000000 in
theorem offraction_any (xn : Bool) (ua : Option Addr) (un uc : Nat) (U : Nat → Int) (da : Option Addr) (dn dc : Nat) (D : Nat → Int) (w : World)
    (hu : Rd w ua un U) (hU : WF U un) (hun : un < 1024) (hd : Rd w da dn D) (hD : WF D dn) (hdn : dn < 1024) :
    Calls Tryz.prog 52 #[fracV xn ua un uc da dn dc] w (OfFracP w xn U un D dn) := by
  obtain ⟨wA, hwA⟩ : ∃ wA, wA = (w.alloc (.cells #[.bool xn, .slice ua un uc, .slice da dn dc] 31)).alloc (.cells #[.bool false, .slice none 0 0, .slice none 0 0] 45) := ⟨_, rfl⟩
  have kA : Chg zNone w wA := by rw [hwA]; exact ((Chg.refl _ _).alloc _).alloc _
  have hF : ∀ i v, (#[Value.bool xn, .slice ua un uc, .slice da dn dc])[i]? = some v → wA.cell? ⟨w.heap.size, i, none⟩ = some v := fun i v h => by
    rw [hwA]; exact ((Chg.refl zNone _).alloc _).cell (three_cells w _ _ _ 31 i v h) (fun h => h)
  have hN : wA.heap.size = w.heap.size + 1 + 1 := by rw [hwA]; show ((w.heap.push _).push _).size = _; simp
  have HN := Lib.hid hN
  have HN2 : Hid (((w.alloc (.cells #[.bool xn, .slice ua un uc, .slice da dn dc] 31)).alloc (.cells #[.bool false, .slice none 0 0, .slice none 0 0] 45)).drew.heap.size = w.heap.size + 1 + 1) := by rw [← hwA]; exact hN
  have HF := Lib.hid (And.intro hF (And.intro kA (And.intro hu (And.intro hU (And.intro hd hD)))))
  have HOf1 : Hid (∀ W, Chg zNone wA W → Calls Tryz.prog 39 #[.slice ua un uc] W (OfP W (val U un) un)) := fun W k => of_any ua un uc U W (rd_far hu (kA.trans k (fun _ _ _ h => h)) (fun _ _ _ _ _ h => h)) hU (by omega)
  have HOf2 : Hid (∀ W, Chg zNone wA W → Calls Tryz.prog 39 #[.slice da dn dc] W (OfP W (val D dn) dn)) := fun W k => of_any da dn dc D W (rd_far hd (kA.trans k (fun _ _ _ h => h)) (fun _ _ _ _ _ h => h)) hD (by omega)
  have hS : Chg zNone wA ((w.alloc (.cells #[.bool xn, .slice ua un uc, .slice da dn dc] 31)).alloc (.cells #[.bool false, .slice none 0 0, .slice none 0 0] 45)).drew := by rw [← hwA]; exact (Chg.refl zNone wA).drew
  have HWA := Lib.hid hwA
  clear hu hU hd hD hF kA hN hwA
  unfold fracV
  go_enter Tryz.func52, Tryz.ntmps52
  go_upto_region 1 with fail
  go_upto_region 1 with fail
  go_cut [4] (fun s4 wc => ∃ (p : Nat) (a : Option Addr) (n c : Nat) (b : Option Addr) (m d : Nat), s4 = .pointer (some ⟨p, 0, none⟩) ∧ Hid (C3 wc p (.bool xn) (.slice a n c) (.slice b m d) ∧ (n ≤ 4 * un ∧ Si.NatV wc a n c (val U un) ∧ Fresh wA a) ∧ (m ≤ 4 * dn ∧ Si.NatV wc b m d (val D dn) ∧ Fresh wA b) ∧ wA.heap.size ≤ p ∧ Chg zNone wA wc))
  case first =>
    go_wp2_with fail
    refine wp_region_noPanic ?_
    refine wp_region_held (S := (fun W => Chg zNone wA W)) (by kernel_rfl) ?_
    change wpAnyH _ _ _ _ _ _ _ _ (World.drew _)
    refine wpAnyH_take (i := 0) (v := ?_) rfl (by kernel_rfl) (by kernel_rfl) (by kernel_rfl) (fun _ _ _ h => False.elim h) (Or.inl ⟨by rfl, ?_⟩) hS ?_
    rotate_left 1
    · intro w9 h9
      go_simp
      try with_reducible rfl
    try simp only [putL, putN, List.set_cons_zero, List.set_cons_succ]
    refine wpAnyH_take (i := 1) (v := ?_) rfl (by kernel_rfl) (by kernel_rfl) (by kernel_rfl) (fun _ _ _ h => False.elim h) (Or.inl ⟨by rfl, ?_⟩) hS ?_
    rotate_left 1
    · intro w9 h9
      go_simp
      try with_reducible rfl
    try simp only [putL, putN, List.set_cons_zero, List.set_cons_succ]
    refine wpAnyH_take (i := 2) (v := ?_) rfl (by kernel_rfl) (by kernel_rfl) (by kernel_rfl) (fun _ _ _ h => False.elim h) (Or.inl ⟨by rfl, ?_⟩) hS ?_
    rotate_left 1
    · intro w9 h9
      have f0 := h9.cell (HF.out.1 0 _ rfl) (fun h => h)
      go_simp
      try with_reducible rfl
    try simp only [putL, putN, List.set_cons_zero, List.set_cons_succ]
    refine wpAnyH_take (i := 3) (v := ?_) rfl (by kernel_rfl) (by kernel_rfl) (by kernel_rfl) (fun _ _ _ h => False.elim h) (Or.inl ⟨by rfl, ?_⟩) hS ?_
    rotate_left 1
    · intro w9 h9
      go_simp
      try with_reducible rfl
    try simp only [putL, putN, List.set_cons_zero, List.set_cons_succ]
    refine wpAnyH_take (i := 4) (v := ?_) rfl (by kernel_rfl) (by kernel_rfl) (by kernel_rfl) (fun _ _ _ h => False.elim h) (Or.inl ⟨by rfl, ?_⟩) hS ?_
    rotate_left 1
    · intro w9 h9
      go_simp
      try with_reducible rfl
    try simp only [putL, putN, List.set_cons_zero, List.set_cons_succ]
    refine wpAnyH_take (i := 5) (v := ?_) rfl (by kernel_rfl) (by kernel_rfl) (by kernel_rfl) (fun _ _ _ h => False.elim h) (Or.inl ⟨by rfl, ?_⟩) hS ?_
    rotate_left 1
    · intro w9 h9
      have f1 := h9.cell (HF.out.1 1 _ rfl) (fun h => h)
      go_simp
      try with_reducible rfl
    try simp only [putL, putN, List.set_cons_zero, List.set_cons_succ]
    refine wpAnyH_take (i := 7) (v := ?_) rfl (by kernel_rfl) (by kernel_rfl) (by kernel_rfl) (fun _ _ _ h => False.elim h) (Or.inl ⟨by rfl, ?_⟩) hS ?_
    rotate_left 1
    · intro w9 h9
      go_simp
      try with_reducible rfl
    try simp only [putL, putN, List.set_cons_zero, List.set_cons_succ]
    refine wpAnyH_take (i := 8) (v := ?_) rfl (by kernel_rfl) (by kernel_rfl) (by kernel_rfl) (fun _ _ _ h => False.elim h) (Or.inl ⟨by rfl, ?_⟩) hS ?_
    rotate_left 1
    · intro w9 h9
      have f2 := h9.cell (HF.out.1 2 _ rfl) (fun h => h)
      go_simp
      try with_reducible rfl
    try simp only [putL, putN, List.set_cons_zero, List.set_cons_succ]
    refine wpAnyH_ready (rs := [6, 11]) (by kernel_rfl) (by simp) ?_
    refine HReady.cons rfl (fun K hK => ?_) (HReady.cons rfl (fun K hK => ?_) HReady.nil)
    · skip
      go_simp
      go_wp2_with (go_at_call 39; go_loud (refine (HOf1.out _ hS).mono ?_; rintro e w1 ⟨a, n, c, rfl, g1, g2, g3, g4⟩; have hS := hS.trans g3 (fun _ _ _ h => h); have HA := Lib.hid (And.intro g1 (And.intro g2 (And.intro g4 g3))); have HS1 := Lib.hid hS.size; clear g1 g2 g3 g4))
      refine ⟨hS, ?_⟩
      try simp only [putL, putN, List.set_cons_zero, List.set_cons_succ]
      refine wpAnyH_ready (rs := [9, 11]) (by kernel_rfl) (by simp) ?_
      refine HReady.cons rfl (fun K hK => ?_) (HReady.cons rfl (fun K hK => ?_) HReady.nil)
      · skip
        go_simp
        go_wp2_with (go_at_call 39; go_loud (refine (HOf2.out _ hS).mono ?_; rintro e w2 ⟨b, m, d, rfl, g1, g2, g3, g4⟩; have hS := hS.trans g3 (fun _ _ _ h => h); have HB := Lib.hid (And.intro g1 (And.intro g2 (And.intro g4 g3))); have HS2 := Lib.hid hS.size; clear g1 g2 g3 g4))
        refine ⟨hS, ?_⟩
        try simp only [putL, putN, List.set_cons_zero, List.set_cons_succ]
        refine wpAnyH_take (i := 10) (v := ?_) rfl (by kernel_rfl) (by kernel_rfl) (by kernel_rfl) (fun _ _ _ h => False.elim h) (Or.inl ⟨by rfl, ?_⟩) hS ?_
        rotate_left 1
        · intro w9 h9
          go_simp
          try with_reducible rfl
        try simp only [putL, putN, List.set_cons_zero, List.set_cons_succ]
        refine wpAnyH_ready (rs := [11]) (by kernel_rfl) (by simp) ?_
        refine HReady.cons rfl (fun K hK => ?_) HReady.nil
        go_simp
        have hS2 := hS.alloc (.cells #[.bool false, .slice none 0 0, .slice none 0 0] 45)
        refine hK _ _ ⟨hS2, ?_⟩
        clear hK K hS
        have hS := hS2
        clear hS2
        try simp only [putL, putN, List.set_cons_zero, List.set_cons_succ]
        obtain ⟨wp, hwp⟩ : ∃ wp, wp = (w2).alloc (.cells #[.bool false, .slice none 0 0, .slice none 0 0] 45) := ⟨_, rfl⟩
        rw [← hwp] at hS
        rw [← hwp]
        have HC : Hid (C3 wp w2.heap.size (.bool false) (.slice none 0 0) (.slice none 0 0)) := by rw [hwp]; exact newC3 _ _ _ _ _
        have HWP := Lib.hid hwp
        have HPl := Lib.hid HC.out.pb.lt
        have HSP := Lib.hid hS.size
        clear hwp
        obtain ⟨l0, l1, l2, lp⟩ := HC.out
        have z0 := lp.fz 0
        have z1 := lp.fz 1
        have z2 := lp.fz 2
        clear lp
        refine wpAnyH_ready (rs := [12]) (by kernel_rfl) (by simp) ?_
        refine HReady.cons rfl (fun K hK => ?_) HReady.nil
        go_simp
        have hS2 := ((hS.setCell w2.heap.size 0 (.bool xn) (fun h => by have := HS2.out; omega)).setCell w2.heap.size 1 (.slice a n c) (fun h => by have := HS2.out; omega)).setCell w2.heap.size 2 (.slice b m d) (fun h => by have := HS2.out; omega)
        refine hK _ _ ⟨hS2, ?_⟩
        clear hK K hS
        have hS := hS2
        clear hS2
        try simp only [putL, putN, List.set_cons_zero, List.set_cons_succ]
        refine wpAnyH_done (by kernel_rfl) ?_ _
        refine NoPanic.normal ?_
        have k0 := Lib.hid hS
        have k1 : Chg zNone w2 wp := by rw [HWP.out]; exact (Chg.refl _ _).alloc _
        have kF := (((k1.setCell w2.heap.size 0 (.bool xn) (fun h => absurd h (Nat.lt_irrefl _))).setCell w2.heap.size 1 (.slice a n c) (fun h => absurd h (Nat.lt_irrefl _))).setCell w2.heap.size 2 (.slice b m d) (fun h => absurd h (Nat.lt_irrefl _)))
        have hcc := HC.out.three (.bool xn) (.slice a n c) (.slice b m d)
        go_wp2
        go_meet
        exact ⟨w2.heap.size, a, n, c, b, m, d, rfl, hcc, ⟨HA.out.1, (HA.out.2.1.far HB.out.2.2.2).far kF, HA.out.2.2.1.base (Nat.le_of_eq (HN.out.trans HN2.out.symm))⟩, ⟨HB.out.1, HB.out.2.1.far kF, HB.out.2.2.1.base HS1.out⟩, HS2.out, k0.out⟩
      · skip
        go_simp
        have hS2 := hS.alloc (.cells #[.bool false, .slice none 0 0, .slice none 0 0] 45)
        refine hK _ _ ⟨hS2, ?_⟩
        clear hK K hS
        have hS := hS2
        clear hS2
        try simp only [putL, putN, List.set_cons_zero, List.set_cons_succ]
        obtain ⟨wp, hwp⟩ : ∃ wp, wp = (w1).alloc (.cells #[.bool false, .slice none 0 0, .slice none 0 0] 45) := ⟨_, rfl⟩
        rw [← hwp] at hS
        rw [← hwp]
        have HC : Hid (C3 wp w1.heap.size (.bool false) (.slice none 0 0) (.slice none 0 0)) := by rw [hwp]; exact newC3 _ _ _ _ _
        have HWP := Lib.hid hwp
        have HPl := Lib.hid HC.out.pb.lt
        have HSP := Lib.hid hS.size
        clear hwp
        refine wpAnyH_ready (rs := [9]) (by kernel_rfl) (by simp) ?_
        refine HReady.cons rfl (fun K hK => ?_) HReady.nil
        go_simp
        go_wp2_with (go_at_call 39; go_loud (refine (HOf2.out _ hS).mono ?_; rintro e w2 ⟨b, m, d, rfl, g1, g2, g3, g4⟩; have hS := hS.trans g3 (fun _ _ _ h => h); have HB := Lib.hid (And.intro g1 (And.intro g2 (And.intro g4 g3))); have HC := Lib.hid (HC.out.chg g3 (fun _ h => h)); have HS2 := Lib.hid hS.size; clear g1 g2 g3 g4; obtain ⟨l0, l1, l2, lp⟩ := HC.out; have z0 := lp.fz 0; have z1 := lp.fz 1; have z2 := lp.fz 2; clear lp))
        refine ⟨hS, ?_⟩
        try simp only [putL, putN, List.set_cons_zero, List.set_cons_succ]
        refine wpAnyH_take (i := 10) (v := ?_) rfl (by kernel_rfl) (by kernel_rfl) (by kernel_rfl) (fun _ _ _ h => False.elim h) (Or.inl ⟨by rfl, ?_⟩) hS ?_
        rotate_left 1
        · intro w9 h9
          go_simp
          try with_reducible rfl
        try simp only [putL, putN, List.set_cons_zero, List.set_cons_succ]
        refine wpAnyH_ready (rs := [12]) (by kernel_rfl) (by simp) ?_
        refine HReady.cons rfl (fun K hK => ?_) HReady.nil
        go_simp
        have hS2 := ((hS.setCell w1.heap.size 0 (.bool xn) (fun h => by have := HS1.out; omega)).setCell w1.heap.size 1 (.slice a n c) (fun h => by have := HS1.out; omega)).setCell w1.heap.size 2 (.slice b m d) (fun h => by have := HS1.out; omega)
        refine hK _ _ ⟨hS2, ?_⟩
        clear hK K hS
        have hS := hS2
        clear hS2
        try simp only [putL, putN, List.set_cons_zero, List.set_cons_succ]
        refine wpAnyH_done (by kernel_rfl) ?_ _
        refine NoPanic.normal ?_
        have k0 := Lib.hid hS
        have k1 : Chg zNone w1 wp := by rw [HWP.out]; exact (Chg.refl _ _).alloc _
        have k2 := k1.trans HB.out.2.2.2 (fun _ _ _ h => h)
        have kF := (((k2.setCell w1.heap.size 0 (.bool xn) (fun h => absurd h (Nat.lt_irrefl _))).setCell w1.heap.size 1 (.slice a n c) (fun h => absurd h (Nat.lt_irrefl _))).setCell w1.heap.size 2 (.slice b m d) (fun h => absurd h (Nat.lt_irrefl _)))
        have hcc := HC.out.three (.bool xn) (.slice a n c) (.slice b m d)
        go_wp2
        go_meet
        exact ⟨w1.heap.size, a, n, c, b, m, d, rfl, hcc, ⟨HA.out.1, HA.out.2.1.far kF, HA.out.2.2.1.base (Nat.le_of_eq (HN.out.trans HN2.out.symm))⟩, ⟨HB.out.1, (((HB.out.2.1.fresh_set HB.out.2.2.1 HPl.out 0 (.bool xn)).fresh_set HB.out.2.2.1 HPl.out 1 (.slice a n c)).fresh_set HB.out.2.2.1 HPl.out 2 (.slice b m d)), HB.out.2.2.1.base HSP.out⟩, HS1.out, k0.out⟩
    · skip
      go_simp
      have hS2 := (show Chg zNone wA ((((w.alloc (.cells #[.bool xn, .slice ua un uc, .slice da dn dc] 31)).alloc (.cells #[.bool false, .slice none 0 0, .slice none 0 0] 45))).alloc (.cells #[.bool false, .slice none 0 0, .slice none 0 0] 45)).drew from by rw [← HWA.out]; exact ((Chg.refl zNone wA).alloc (.cells #[.bool false, .slice none 0 0, .slice none 0 0] 45)).drew)
      refine hK _ _ ⟨hS2, ?_⟩
      clear hK K hS
      have hS := hS2
      clear hS2
      try simp only [putL, putN, List.set_cons_zero, List.set_cons_succ]
      obtain ⟨wp, hwp⟩ : ∃ wp, wp = ((((w.alloc (.cells #[.bool xn, .slice ua un uc, .slice da dn dc] 31)).alloc (.cells #[.bool false, .slice none 0 0, .slice none 0 0] 45))).alloc (.cells #[.bool false, .slice none 0 0, .slice none 0 0] 45)).drew := ⟨_, rfl⟩
      rw [← hwp] at hS
      rw [← hwp]
      have HC : Hid (C3 wp (w.heap.size + 1 + 1) (.bool false) (.slice none 0 0) (.slice none 0 0)) := by rw [hwp, ← HWA.out, ← HN.out]; exact (newC3 wA (.bool false) (.slice none 0 0) (.slice none 0 0) 45).chg ((Chg.refl zNone _).drew) (fun _ h => h)
      have HWP := Lib.hid hwp
      have HPl := Lib.hid HC.out.pb.lt
      have HSP := Lib.hid hS.size
      clear hwp
      refine wpAnyH_ready (rs := [6]) (by kernel_rfl) (by simp) ?_
      refine HReady.cons rfl (fun K hK => ?_) HReady.nil
      go_simp
      go_wp2_with (go_at_call 39; go_loud (refine (HOf1.out _ hS).mono ?_; rintro e w1 ⟨a, n, c, rfl, g1, g2, g3, g4⟩; have hS := hS.trans g3 (fun _ _ _ h => h); have HA := Lib.hid (And.intro g1 (And.intro g2 (And.intro g4 g3))); have HC := Lib.hid (HC.out.chg g3 (fun _ h => h)); have HS1 := Lib.hid hS.size; clear g1 g2 g3 g4))
      refine ⟨hS, ?_⟩
      try simp only [putL, putN, List.set_cons_zero, List.set_cons_succ]
      refine wpAnyH_ready (rs := [9]) (by kernel_rfl) (by simp) ?_
      refine HReady.cons rfl (fun K hK => ?_) HReady.nil
      go_simp
      go_wp2_with (go_at_call 39; go_loud (refine (HOf2.out _ hS).mono ?_; rintro e w2 ⟨b, m, d, rfl, g1, g2, g3, g4⟩; have hS := hS.trans g3 (fun _ _ _ h => h); have HB := Lib.hid (And.intro g1 (And.intro g2 (And.intro g4 g3))); have HC := Lib.hid (HC.out.chg g3 (fun _ h => h)); have HS2 := Lib.hid hS.size; clear g1 g2 g3 g4; obtain ⟨l0, l1, l2, lp⟩ := HC.out; have z0 := lp.fz 0; have z1 := lp.fz 1; have z2 := lp.fz 2; clear lp))
      refine ⟨hS, ?_⟩
      try simp only [putL, putN, List.set_cons_zero, List.set_cons_succ]
      refine wpAnyH_take (i := 10) (v := ?_) rfl (by kernel_rfl) (by kernel_rfl) (by kernel_rfl) (fun _ _ _ h => False.elim h) (Or.inl ⟨by rfl, ?_⟩) hS ?_
      rotate_left 1
      · intro w9 h9
        go_simp
        try with_reducible rfl
      try simp only [putL, putN, List.set_cons_zero, List.set_cons_succ]
      refine wpAnyH_ready (rs := [12]) (by kernel_rfl) (by simp) ?_
      refine HReady.cons rfl (fun K hK => ?_) HReady.nil
      go_simp
      have hS2 := ((hS.setCell (w.heap.size + 1 + 1) 0 (.bool xn) (fun h => by have := HN.out; omega)).setCell (w.heap.size + 1 + 1) 1 (.slice a n c) (fun h => by have := HN.out; omega)).setCell (w.heap.size + 1 + 1) 2 (.slice b m d) (fun h => by have := HN.out; omega)
      refine hK _ _ ⟨hS2, ?_⟩
      clear hK K hS
      have hS := hS2
      clear hS2
      try simp only [putL, putN, List.set_cons_zero, List.set_cons_succ]
      refine wpAnyH_done (by kernel_rfl) ?_ _
      refine NoPanic.normal ?_
      have k0 := Lib.hid hS
      have hq : w.heap.size + 1 + 1 < w1.heap.size := Nat.lt_of_lt_of_le HPl.out HA.out.2.2.2.size
      have hcc := HC.out.three (.bool xn) (.slice a n c) (.slice b m d)
      go_wp2
      go_meet
      exact ⟨(w.heap.size + 1 + 1), a, n, c, b, m, d, rfl, hcc, ⟨HA.out.1, ((((HA.out.2.1.far HB.out.2.2.2).fresh_set HA.out.2.2.1 HPl.out 0 (.bool xn)).fresh_set HA.out.2.2.1 HPl.out 1 (.slice a n c)).fresh_set HA.out.2.2.1 HPl.out 2 (.slice b m d)), HA.out.2.2.1.base HSP.out⟩, ⟨HB.out.1, (((HB.out.2.1.fresh_set HB.out.2.2.1 hq 0 (.bool xn)).fresh_set HB.out.2.2.1 hq 1 (.slice a n c)).fresh_set HB.out.2.2.1 hq 2 (.slice b m d)), HB.out.2.2.1.base HS1.out⟩, Nat.le_of_eq HN.out, k0.out⟩
  case rest => as_aux_lemma =>
    obtain ⟨p, a, n, c, b, m, d, rfl, HR0⟩ := hcut
    obtain ⟨wB, hwB⟩ : ∃ wB, wB = wc := ⟨_, rfl⟩
    subst hwB
    obtain ⟨hp, hA, hB, hpA, hk⟩ := HR0.out
    have HP := Lib.hid hp
    have HPn : Hid (p ≠ w.heap.size + 1) := by have := HN.out; show p ≠ _; omega
    have HA := Lib.hid hA
    have HB := Lib.hid hB
    have HkA := Lib.hid HF.out.2.1
    have HR : Hid (True ∧ Chg zNone wA wB) := ⟨trivial, hk⟩
    have HT : Hid (w.heap.size + 1 < wA.heap.size) := by have := HN.out; show _ < _; omega
    have HFc : Hid (C3 wB w.heap.size (.bool xn) (.slice ua un uc) (.slice da dn dc)) := ⟨hk.cell (HF.out.1 0 _ rfl) (fun h => h), hk.cell (HF.out.1 1 _ rfl) (fun h => h), hk.cell (HF.out.1 2 _ rfl) (fun h => h), (by rw [HWA.out]; exact ((PB.new w _ _).chg ((Chg.refl zNone _).alloc _)) : PB wA w.heap.size).chg hk⟩
    have hT2 : C3 wB (w.heap.size + 1) (.bool false) (.slice none 0 0) (.slice none 0 0) := by
      have h := newC3 (w.alloc (.cells #[.bool xn, .slice ua un uc, .slice da dn dc] 31)) (.bool false) (.slice none 0 0) (.slice none 0 0) 45
      rw [← HWA.out, show (w.alloc (.cells #[.bool xn, .slice ua un uc, .slice da dn dc] 31)).heap.size = w.heap.size + 1 by show (w.heap.push _).size = _; simp] at h
      exact h.chg hk (fun _ h => h)
    have hS : SW3 wB (w.heap.size + 1) wB.drew := ⟨(Chg.refl _ wB).drew, _, _, _, hT2.chg ((Chg.refl zNone wB).drew) (fun _ h => h)⟩
    have HkB := Lib.hid (HkA.out.trans hk (fun _ _ _ h => h))
    have HIs : Hid (∀ W, Chg (zRow (w.heap.size + 1) 0 3) wB W → Calls Tryz.prog 37 #[.agg #[.bool xn, .slice ua un uc, .slice da dn dc], .agg #[.bool xn, .slice a n c, .slice b m d]] W (IsFP W xn xn U D un dn (val U un) (val D dn))) := fun W k =>
      isfraction_any xn xn ua un uc U da dn dc D a b n c m d _ _ W (rd_far HF.out.2.2.1 (far_row HkB.out k (by omega)) (fun _ _ _ _ _ h => h)) HF.out.2.2.2.1 (by omega) (rd_far HF.out.2.2.2.2.1 (far_row HkB.out k (by omega)) (fun _ _ _ _ _ h => h)) HF.out.2.2.2.2.2 (by omega)
        (HA.out.2.1.chg k (fresh_row HA.out.2.2 HT.out)) (by have := HA.out.1; omega) (HB.out.2.1.chg k (fresh_row HB.out.2.2 HT.out)) (by have := HB.out.1; omega)
    obtain ⟨gv, hgv⟩ : ∃ gv : Int, gv = ((Int.gcd (val U un) (val D dn) : Nat) : Int) := ⟨_, rfl⟩
    have HGc : Hid (∀ W, Chg (zRow (w.heap.size + 1) 0 3) wB W → Calls Tryz.prog 70 #[.slice a n c, .slice b m d] W (Si.NRes W gv)) := fun W k => by
      rw [hgv]
      exact Si.gcd_any a b n c m d _ _ W (HA.out.2.1.chg k (fresh_row HA.out.2.2 HT.out)) (HB.out.2.1.chg k (fresh_row HB.out.2.2 HT.out)) (by have := HA.out.1; omega) (by have := HB.out.1; omega)
    have hgb : gv < SB ^ 4096 := by
      rw [hgv]
      have e1 : BB ^ un ≤ SB ^ 4096 := by rw [← SB_four]; exact SB_mono (by omega)
      have e2 : BB ^ dn ≤ SB ^ 4096 := by rw [← SB_four]; exact SB_mono (by omega)
      have a0 := val_nonneg HF.out.2.2.2.1
      have a1 := val_lt HF.out.2.2.2.1
      have b0 := val_nonneg HF.out.2.2.2.2.2
      have b1 := val_lt HF.out.2.2.2.2.2
      by_cases hv : val U un = 0
      · rw [hv, Int.gcd_zero_left]
        omega
      · have h := Nat.gcd_le_left (val D dn).natAbs (show 0 < (val U un).natAbs by omega)
        have h' : Int.gcd (val U un) (val D dn) ≤ (val U un).natAbs := h
        omega
    have HGl : Hid (∀ W ga gn gc, Si.NatV W ga gn gc gv → gn ≤ 4096) := fun W ga gn gc h => h.len hgb
    clear hgb
    obtain ⟨z, hz⟩ : ∃ z, z = cmpV gv 1 := ⟨_, rfl⟩
    obtain ⟨rb, hrb⟩ : ∃ rb, decide (z = 0) = rb := ⟨_, rfl⟩
    have hrb2 : (z == 0) = rb := by rw [← hrb]; rfl
    have HZ : Hid (rb = true ↔ ((Int.gcd (val U un) (val D dn) : Nat) : Int) = 1) := by
      show rb = true ↔ _
      rw [← hgv, ← hrb, decide_eq_true_iff, hz]
      unfold cmpV
      constructor
      · intro h; split at h <;> first | omega | (split at h <;> omega)
      · intro h; rw [h]; simp
    have HCm : Hid (∀ W ga gn gc oa on oc, Si.NatV W ga gn gc gv → Si.NatV W oa on oc 1 → Calls Tryz.prog 20 #[.slice ga gn gc, .slice oa on oc] W fun e w' => e = .returned (.int .i64 z) ∧ Chg zNone W w') := fun W ga gn gc oa on oc h1 h2 => by
      have hgl : gn ≤ 4096 := HGl.out W ga gn gc h1
      refine (Si.cmp_any ga oa gn gc on oc gv 1 W h1 h2 (by omega) (by have := h2.len (k := 1) (by rw [Int.pow_one]; unfold SB; omega); omega)).mono ?_
      rintro e w' ⟨rfl, k, rfl⟩
      exact ⟨by rw [hz], (Chg.refl _ _).drewN k⟩
    clear HR0 hp hA hB hpA hk hT2 hgv hz
    go_wp2_with fail
    refine wp_region_noPanic ?_
    refine wp_region_held (S := (SW3 wB (w.heap.size + 1))) (by kernel_rfl) ?_
    change wpAnyH _ _ _ _ _ _ _ _ (World.drew _)
    refine wpAnyH_take (i := 0) (v := ?_) rfl (by kernel_rfl) (by kernel_rfl) (by kernel_rfl) (fun _ _ _ h => False.elim h) (Or.inl ⟨by rfl, ?_⟩) hS ?_
    rotate_left 1
    · intro w9 h9
      have f0 := h9.k.cell HP.out.c0 (fun h => HPn.out h.1); have f1 := h9.k.cell HP.out.c1 (fun h => HPn.out h.1); have f2 := h9.k.cell HP.out.c2 (fun h => HPn.out h.1)
      go_simp
      try with_reducible rfl
    try simp only [putL, putN, List.set_cons_zero, List.set_cons_succ]
    refine wpAnyH_take (i := 1) (v := ?_) rfl (by kernel_rfl) (by kernel_rfl) (by kernel_rfl) (fun _ _ _ h => False.elim h) (Or.inl ⟨by rfl, ?_⟩) hS ?_
    rotate_left 1
    · intro w9 h9
      have e0 := h9.k.cell HFc.out.c0 (fun h => by have := h.1; omega); have e1 := h9.k.cell HFc.out.c1 (fun h => by have := h.1; omega); have e2 := h9.k.cell HFc.out.c2 (fun h => by have := h.1; omega)
      go_simp
      try with_reducible rfl
    try simp only [putL, putN, List.set_cons_zero, List.set_cons_succ]
    refine wpAnyH_take (i := 2) (v := ?_) rfl (by kernel_rfl) (by kernel_rfl) (by kernel_rfl) (fun _ _ _ h => False.elim h) (Or.inl ⟨by rfl, ?_⟩) hS ?_
    rotate_left 1
    · intro w9 h9
      have f0 := h9.k.cell HP.out.c0 (fun h => HPn.out h.1); have f1 := h9.k.cell HP.out.c1 (fun h => HPn.out h.1); have f2 := h9.k.cell HP.out.c2 (fun h => HPn.out h.1)
      go_simp
      try with_reducible rfl
    try simp only [putL, putN, List.set_cons_zero, List.set_cons_succ]
    refine wpAnyH_ready (rs := [3]) (by kernel_rfl) (by simp) ?_
    refine HReady.cons rfl (fun K hK => ?_) HReady.nil
    go_simp
    go_wp2_with (go_at_call 37; go_loud (refine (HIs.out _ hS.k).mono ?_; rintro e w1 ⟨r, rfl, hr, k1⟩; have hS := hS.far k1; have HR1 := Lib.hid hr; clear hr k1; obtain ⟨u0, u1, u2, hc⟩ := hS.c; have HC3 := Lib.hid hc; obtain ⟨l0, l1, l2, lp⟩ := hc; have z0 := lp.fz 0; have z1 := lp.fz 1; have z2 := lp.fz 2; clear lp))
    refine ⟨hS, ?_⟩
    try simp only [putL, putN, List.set_cons_zero, List.set_cons_succ]
    cases r with
    | true =>
      refine wpAnyH_take (i := 4) (v := ?_) rfl (by kernel_rfl) (by kernel_rfl) (by kernel_rfl) (fun _ _ _ h => False.elim h) (Or.inl ⟨by rfl, ?_⟩) hS ?_
      rotate_left 1
      · intro w9 h9
        go_simp
        try with_reducible rfl
      try simp only [putL, putN, List.set_cons_zero, List.set_cons_succ]
      refine wpAnyH_take (i := 5) (v := ?_) rfl (by kernel_rfl) (by kernel_rfl) (by kernel_rfl) (fun _ _ _ h => False.elim h) (Or.inl ⟨by rfl, ?_⟩) hS ?_
      rotate_left 1
      · intro w9 h9
        go_simp
        try with_reducible rfl
      try simp only [putL, putN, List.set_cons_zero, List.set_cons_succ]
      refine wpAnyH_take (i := 6) (v := ?_) rfl (by kernel_rfl) (by kernel_rfl) (by kernel_rfl) (fun _ _ _ h => False.elim h) (Or.inl ⟨by rfl, ?_⟩) hS ?_
      rotate_left 1
      · intro w9 h9
        have f0 := h9.k.cell HP.out.c0 (fun h => HPn.out h.1); have f1 := h9.k.cell HP.out.c1 (fun h => HPn.out h.1); have f2 := h9.k.cell HP.out.c2 (fun h => HPn.out h.1)
        go_simp
        try with_reducible rfl
      try simp only [putL, putN, List.set_cons_zero, List.set_cons_succ]
      refine wpAnyH_take (i := 7) (v := ?_) rfl (by kernel_rfl) (by kernel_rfl) (by kernel_rfl) (fun _ _ _ h => False.elim h) (Or.inl ⟨by rfl, ?_⟩) hS ?_
      rotate_left 1
      · intro w9 h9
        go_simp
        try with_reducible rfl
      try simp only [putL, putN, List.set_cons_zero, List.set_cons_succ]
      refine wpAnyH_take (i := 8) (v := ?_) rfl (by kernel_rfl) (by kernel_rfl) (by kernel_rfl) (fun _ _ _ h => False.elim h) (Or.inl ⟨by rfl, ?_⟩) hS ?_
      rotate_left 1
      · intro w9 h9
        have f0 := h9.k.cell HP.out.c0 (fun h => HPn.out h.1); have f1 := h9.k.cell HP.out.c1 (fun h => HPn.out h.1); have f2 := h9.k.cell HP.out.c2 (fun h => HPn.out h.1)
        go_simp
        try with_reducible rfl
      try simp only [putL, putN, List.set_cons_zero, List.set_cons_succ]
      refine wpAnyH_ready (rs := [9]) (by kernel_rfl) (by simp) ?_
      refine HReady.cons rfl (fun K hK => ?_) HReady.nil
      go_simp
      go_wp2_with (go_at_call 70; go_loud (refine (HGc.out _ hS.k).mono ?_; rintro e w2 ⟨ga, gn, gc, rfl, g1, k1⟩; have hS := hS.far k1; have HG := Lib.hid g1; clear g1 k1 l0 l1 l2 z0 z1 z2))
      refine ⟨hS, ?_⟩
      try simp only [putL, putN, List.set_cons_zero, List.set_cons_succ]
      refine wpAnyH_ready (rs := [10]) (by kernel_rfl) (by simp) ?_
      refine HReady.cons rfl (fun K hK => ?_) HReady.nil
      go_simp
      go_wp2_with (go_at_call 21; go_loud (refine (Si.small_any 1 _ (by decide)).mono ?_; rintro e w3 ⟨oa, on, oc, rfl, g1, k1⟩; have hS := hS.far k1; have HO := Lib.hid (And.intro (HG.out.far k1) g1); clear g1 k1))
      refine ⟨hS, ?_⟩
      try simp only [putL, putN, List.set_cons_zero, List.set_cons_succ]
      refine wpAnyH_ready (rs := [11]) (by kernel_rfl) (by simp) ?_
      refine HReady.cons rfl (fun K hK => ?_) HReady.nil
      go_simp
      go_wp2_with (go_at_call 20; go_loud (refine (HCm.out _ ga gn gc oa on oc HO.out.1 HO.out.2).mono ?_; rintro e w4 ⟨rfl, k1⟩; have hS := hS.far k1; clear k1; obtain ⟨u0, u1, u2, hc⟩ := hS.c; have HC3 := Lib.hid hc; obtain ⟨l0, l1, l2, lp⟩ := hc; have z0 := lp.fz 0; have z1 := lp.fz 1; have z2 := lp.fz 2; clear lp))
      refine ⟨hS, ?_⟩
      try simp only [putL, putN, List.set_cons_zero, List.set_cons_succ]
      refine wpAnyH_take (i := 12) (v := ?_) rfl (by kernel_rfl) (by kernel_rfl) (by kernel_rfl) (fun _ _ _ h => False.elim h) (Or.inl ⟨by rfl, ?_⟩) hS ?_
      rotate_left 1
      · intro w9 h9
        go_simp
        try with_reducible rfl
      try simp only [putL, putN, List.set_cons_zero, List.set_cons_succ]
      refine wpAnyH_take (i := 13) (v := ?_) rfl (by kernel_rfl) (by kernel_rfl) (by kernel_rfl) (fun _ _ _ h => False.elim h) (Or.inl ⟨by rfl, ?_⟩) hS ?_
      rotate_left 1
      · intro w9 h9
        go_simp
        try with_reducible rfl
      try simp only [putL, putN, List.set_cons_zero, List.set_cons_succ]
      refine wpAnyH_ready (rs := [14]) (by kernel_rfl) (by simp) ?_
      refine HReady.cons rfl (fun K hK => ?_) HReady.nil
      go_simp
      have hS2 := hS.store HC3.out (.bool xn) (.slice a n c) (.slice b m d)
      refine hK _ _ ⟨hS2, ?_⟩
      clear hK K hS
      have hS := hS2
      clear hS2
      try simp only [putL, putN, List.set_cons_zero, List.set_cons_succ]
      refine wpAnyH_take (i := 15) (v := ?_) rfl (by kernel_rfl) (by kernel_rfl) (by kernel_rfl) (fun _ _ _ h => False.elim h) (Or.inl ⟨by rfl, ?_⟩) hS ?_
      rotate_left 1
      · intro w9 h9
        go_simp
        try with_reducible rfl
      try simp only [putL, putN, List.set_cons_zero, List.set_cons_succ]
      refine wpAnyH_done (by kernel_rfl) ?_ _
      refine NoPanic.normal ?_
      have hc3 := HC3.out.three (.bool xn) (.slice a n c) (.slice b m d)
      have HSk := Lib.hid hS.k
      clear hS
      go_wp2
      refine bodyPost_ret (v := .tuple #[ratV xn a n c b m d, .bool rb]) (res52 hc3 rfl rfl) rfl ?_
      exact ⟨a, n, c, b, m, d, rb, rfl, ⟨fun h => ⟨⟨(HR1.out.1 trivial).1.1, (HR1.out.1 trivial).1.2.1⟩, (HR1.out.1 trivial).2.1, HZ.out.1 h⟩, fun hh => HZ.out.2 hh.2.2⟩, HA.out.1, HA.out.2.1.chg HSk.out (fresh_row HA.out.2.2 HT.out), HA.out.2.2.base HkA.out.size, HB.out.1, HB.out.2.1.chg HSk.out (fresh_row HB.out.2.2 HT.out), HB.out.2.2.base HkA.out.size, far_row (HkA.out.trans HR.out.2 (fun _ _ _ h => h)) HSk.out (by omega)⟩
    | false =>
      refine wpAnyH_take (i := 4) (v := ?_) rfl (by kernel_rfl) (by kernel_rfl) (by kernel_rfl) (fun _ _ _ h => False.elim h) (Or.inl ⟨by rfl, ?_⟩) hS ?_
      rotate_left 1
      · intro w9 h9
        go_simp
        try with_reducible rfl
      try simp only [putL, putN, List.set_cons_zero, List.set_cons_succ]
      refine wpAnyH_take (i := 5) (v := undef) rfl (by kernel_rfl) (by kernel_rfl) (by kernel_rfl) (fun _ _ _ h => False.elim h) (Or.inr ⟨by rfl, rfl⟩) hS ?_
      try simp only [putL, putN, List.set_cons_zero, List.set_cons_succ]
      refine wpAnyH_take (i := 6) (v := undef) rfl (by kernel_rfl) (by kernel_rfl) (by kernel_rfl) (fun _ _ _ h => False.elim h) (Or.inr ⟨by rfl, rfl⟩) hS ?_
      try simp only [putL, putN, List.set_cons_zero, List.set_cons_succ]
      refine wpAnyH_take (i := 7) (v := undef) rfl (by kernel_rfl) (by kernel_rfl) (by kernel_rfl) (fun _ _ _ h => False.elim h) (Or.inr ⟨by rfl, rfl⟩) hS ?_
      try simp only [putL, putN, List.set_cons_zero, List.set_cons_succ]
      refine wpAnyH_take (i := 8) (v := undef) rfl (by kernel_rfl) (by kernel_rfl) (by kernel_rfl) (fun _ _ _ h => False.elim h) (Or.inr ⟨by rfl, rfl⟩) hS ?_
      try simp only [putL, putN, List.set_cons_zero, List.set_cons_succ]
      refine wpAnyH_ready (rs := [9]) (by kernel_rfl) (by simp) ?_
      refine HReady.cons rfl (fun K hK => ?_) HReady.nil
      go_simp
      refine hK _ _ ⟨hS, ?_⟩
      clear hK K
      try simp only [putL, putN, List.set_cons_zero, List.set_cons_succ]
      refine wpAnyH_ready (rs := [10]) (by kernel_rfl) (by simp) ?_
      refine HReady.cons rfl (fun K hK => ?_) HReady.nil
      go_simp
      refine hK _ _ ⟨hS, ?_⟩
      clear hK K
      try simp only [putL, putN, List.set_cons_zero, List.set_cons_succ]
      refine wpAnyH_ready (rs := [11]) (by kernel_rfl) (by simp) ?_
      refine HReady.cons rfl (fun K hK => ?_) HReady.nil
      go_simp
      refine hK _ _ ⟨hS, ?_⟩
      clear hK K
      try simp only [putL, putN, List.set_cons_zero, List.set_cons_succ]
      refine wpAnyH_take (i := 12) (v := undef) rfl (by kernel_rfl) (by kernel_rfl) (by kernel_rfl) (fun _ _ _ h => False.elim h) (Or.inr ⟨by rfl, rfl⟩) hS ?_
      try simp only [putL, putN, List.set_cons_zero, List.set_cons_succ]
      refine wpAnyH_take (i := 13) (v := ?_) rfl (by kernel_rfl) (by kernel_rfl) (by kernel_rfl) (fun _ _ _ h => False.elim h) (Or.inl ⟨by rfl, ?_⟩) hS ?_
      rotate_left 1
      · intro w9 h9
        go_simp
        try with_reducible rfl
      try simp only [putL, putN, List.set_cons_zero, List.set_cons_succ]
      refine wpAnyH_ready (rs := [14]) (by kernel_rfl) (by simp) ?_
      refine HReady.cons rfl (fun K hK => ?_) HReady.nil
      go_simp
      have hS2 := hS.store HC3.out (.bool xn) (.slice a n c) (.slice b m d)
      refine hK _ _ ⟨hS2, ?_⟩
      clear hK K hS
      have hS := hS2
      clear hS2
      try simp only [putL, putN, List.set_cons_zero, List.set_cons_succ]
      refine wpAnyH_take (i := 15) (v := ?_) rfl (by kernel_rfl) (by kernel_rfl) (by kernel_rfl) (fun _ _ _ h => False.elim h) (Or.inl ⟨by rfl, ?_⟩) hS ?_
      rotate_left 1
      · intro w9 h9
        go_simp
        try with_reducible rfl
      try simp only [putL, putN, List.set_cons_zero, List.set_cons_succ]
      refine wpAnyH_done (by kernel_rfl) ?_ _
      refine NoPanic.normal ?_
      have hc3 := HC3.out.three (.bool xn) (.slice a n c) (.slice b m d)
      have HSk := Lib.hid hS.k
      clear hS
      go_wp2
      refine bodyPost_ret (v := .tuple #[ratV xn a n c b m d, .bool false]) (res52 hc3 rfl rfl) rfl ?_
      exact ⟨a, n, c, b, m, d, false, rfl, ⟨fun h => (by cases h), fun hh => HR1.out.2 ⟨⟨hh.1.1, hh.1.2, by trivial⟩, hh.2.1, by trivial⟩⟩, HA.out.1, HA.out.2.1.chg HSk.out (fresh_row HA.out.2.2 HT.out), HA.out.2.2.base HkA.out.size, HB.out.1, HB.out.2.1.chg HSk.out (fresh_row HB.out.2.2 HT.out), HB.out.2.2.base HkA.out.size, far_row (HkA.out.trans HR.out.2 (fun _ _ _ h => h)) HSk.out (by omega)⟩
end Go.Proofs.YtmgfajamanakcaaGreatDoor
