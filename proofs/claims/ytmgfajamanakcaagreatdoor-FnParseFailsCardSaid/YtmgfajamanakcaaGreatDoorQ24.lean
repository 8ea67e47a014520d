/-
  Float.umul, walked: x is z itself. Conditions: as FNum says; finite; mantissas below 12 words; the other factor's Float lies apart.
  Float.umul of a Float by itself, walked. Conditions: as FNum says; finite; the mantissa below 12 words.
-/
import Derived.Test.YtmgfajamanakcaaGreatDoorQ21
import Derived.Test.YtmgfajamanakcaaGreatDoorQ23
import Derived.Deep.QuietTactic
import Derived.Deep.DeepCutAuto
import Derived.Deep.CutBlock
import Derived.Deep.RegionHeld3
import Derived.StillTailTactics
namespace Go.Proofs.YtmgfajamanakcaaGreatDoor
set_option linter.unusedSimpArgs false
open Go.RowKit
set_option maxRecDepth 100000
set_option linter.unusedVariables false
theorem info136 : (Tryz.prog.info? 136).map (·.size) = some 7 := by kernel_rfl
theorem flt_ptr_eq (w : World) {b b' : Nat} {B : Bool} (h : PB w b) (h' : PB w b') (hB : B = decide (b = b')) :
    (binOp .eql 85 (.pointer (some ⟨b, 0, none⟩)) (.pointer (some ⟨b', 0, none⟩))).run Tryz.prog w = .ok (.bool B) w := by
  cases hi : Tryz.prog.info? 136 with
  | none => have := info136; rw [hi] at this; cases this
  | some i =>
    have hs : i.size = 7 := by have := info136; rw [hi] at this; simpa using this
    subst hB
    by_cases he : b = b'
    · subst he
      rw [run_eql_ptr_same w _ Tryz.underlying85 hi]
      simp
    · obtain ⟨cs, t, h⟩ := h
      obtain ⟨cs', t', h'⟩ := h'
      rw [run_eql_ptr_other w Tryz.underlying85 hi (by omega) (fun (e : (⟨b, 0, none⟩ : Addr) = ⟨b', 0, none⟩) => he (by injection e with e1 e2)) h h']
      rw [decide_eq_false he]
theorem cs_far {w : World} {b o b' o' : Nat} {v : Value} (h : b' ≠ b) : (w.setCell ⟨b, o, none⟩ v).cell? ⟨b', o', none⟩ = w.cell? ⟨b', o', none⟩ :=
  World.cell?_setCell_other w _ _ _ (by intro e; injection e with e1 _ _; exact h e1.symm)
theorem home_le {w w1 : World} {az a : Option Addr} {zc c : Nat} (h : Home w1 az zc a c) (hs : w.heap.size ≤ w1.heap.size) : Home w az zc a c := by
  rcases h with h | ⟨b, o, e, hb⟩
  · exact Or.inl h
  · exact Or.inr ⟨b, o, e, by omega⟩
/-- Behind the product: it is z's mantissa. -/
def MulRel (w : World) (b : Nat) (v : FV) (P : Int) (wc : World) : Prop :=
  ∃ a n c Z, FltC wc b { v with a := a, n := n, c := c } ∧ n ≤ c ∧ ZOK wc a c ∧ Rd wc a n Z ∧ WF Z n ∧ Norm Z n ∧ val Z n = P ∧ Home w v.a v.c a c ∧ Chg (zF b v) w wc ∧ ∀ b' o, a = some ⟨b', o, none⟩ → b' ≠ b
theorem mulrel_of {w w1 : World} {b : Nat} {v : FV} {X : Nat → Int} {P : Int} {a : Option Addr} {n c : Nat} {Z : Nat → Int} (h : FNum w b v X) (h1 : n ≤ c) (h2 : ZOK w1 a c) (h3 : Rd w1 a n Z) (h4 : WF Z n) (h5 : Norm Z n) (h6 : val Z n = P) (h7 : Home w v.a v.c a c) (h8 : Chg (zAddr v.a v.c) w w1) :
    MulRel w b v P (w1.setCell ⟨b, 5, none⟩ (.slice a n c)) := by
  have hc := h.c.chg h8 (fun o ho hh => by obtain ⟨po, e, _⟩ := hh; exact h.ap _ _ e rfl)
  have hap : ∀ b' o, a = some ⟨b', o, none⟩ → b' ≠ b := by
    intro b' o e
    rcases h7 with ⟨g, _⟩ | ⟨b2, o2, g, hb⟩
    · exact h.ap b' o (g.symm.trans e)
    · rw [g] at e; injection e with e; injection e with e1 _; have := h.c.lt; omega
  have k := chg_cell w1 b 5 (.slice a n c)
  refine ⟨a, n, c, Z, hc.setMt a n c, h1, h2.chg k ?_, ?_, h4, h5, h6, h7, (h8.mono (fun _ _ _ h => Or.inr h)).trans k (fun b' o _ hh => Or.inl ⟨hh.1, by omega, by have := hh.2.2; omega⟩), hap⟩
  · rintro b' o ⟨po, e, _⟩ hh
    exact hap b' po e hh.1
  · rcases h3 with hh | ⟨b', o, e, hw⟩
    · exact Or.inl hh
    · exact Or.inr ⟨b', o, e, hw.chg k (fun i hi hh => hap b' o e hh.1)⟩
/-- Ahead of the rounding: z's mantissa is the product, shifted. -/
def UMulPost (w : World) (b p : Nat) (v : FV) (P : Int) (ex : Int) (w' : World) : Prop :=
  ∃ (W : World) (v1 : FV) (Z : Nat → Int) (s : Nat), v1 = { v with a := v1.a, n := v1.n, c := v1.c } ∧ FMant W v1 Z ∧ val Z v1.n = P * 2 ^ s ∧ s < 64 ∧ Home w v.a v.c v1.a v1.c ∧ Chg (zF b v) w W ∧ SERPost W b v1 Z (ex - s) false p w'
theorem FNum.natin {w : World} {b : Nat} {v : FV} {X : Nat → Int} (h : FNum w b v X) (hf : v.fm = 1) : NatIn w v.a v.n v.c X := by
  obtain ⟨h1, h2, h3, h4, h5, h6⟩ := h.fin hf
  exact ⟨h4, h5, h2, by omega, h.z.aok⟩
theorem val_mono_len {Z : Nat → Int} {n m : Nat} (hZ : WF Z n) (hN : Norm Z n) (hn : 0 < n) (h : val Z n < BB ^ m) : n ≤ m := by
  by_cases hh : n ≤ m
  · exact hh
  · exfalso
    obtain ⟨k, rfl⟩ : ∃ k, n = k + 1 := ⟨n - 1, by omega⟩
    have h1 : val Z (k + 1) = val Z k + BB ^ k * Z k := by rw [val_add, val_one]; rfl
    have h2 := val_nonneg (hZ.le (show k ≤ k + 1 by omega))
    have h3 := (hZ k (by omega)).1
    have h4 : Z k ≠ 0 := by
      rcases hN with h | h
      · omega
      · exact h
    have h5 := Int.mul_le_mul_of_nonneg_left (show 1 ≤ Z k by omega) (Int.le_of_lt (BBn_pos k))
    have h6 : BB ^ m ≤ BB ^ k := by
      obtain ⟨j, hj⟩ : ∃ j, k = m + j := ⟨k - m, by omega⟩
      rw [hj, Int.pow_add]
      have := Int.mul_le_mul_of_nonneg_left (show 1 ≤ BB ^ j by have := BBn_pos j; omega) (Int.le_of_lt (BBn_pos m))
      omega
    omega
theorem mul_out {w wc : World} {zb yb : Nat} {v vy : FV} {X Y Z : Nat → Int} {a' : Option Addr} {n' c' : Nat} (h : FNum w zb v X) (hy : FNum w yb vy Y) (hf : v.fm = 1) (hfy : vy.fm = 1) (r2 : n' ≤ c') (r3 : ZOK wc a' c') (r4 : Rd wc a' n' Z) (r5 : WF Z n') (r6 : Norm Z n') (r7 : val Z n' = val X v.n * val Y vy.n) :
    0 < n' ∧ n' ≤ v.n + vy.n ∧ ∃ bm om, a' = some ⟨bm, om, none⟩ ∧ Words wc bm om n' Z ∧ Room wc bm om c' ∧ Z (n' - 1) ≠ 0 ∧ n' < 131072 := by
  obtain ⟨h1, h2, h3, h4, h5, h6⟩ := h.fin hf
  obtain ⟨k1, k2, k3, k4, k5, k6⟩ := hy.fin hfy
  obtain ⟨x1, x2⟩ := val_ge_top h5 h1 h6
  obtain ⟨y1, y2⟩ := val_ge_top k5 k1 k6
  have px : 0 < val X v.n := by have := two_pos (64 * v.n - 1); omega
  have py : 0 < val Y vy.n := by have := two_pos (64 * vy.n - 1); omega
  have hP := Int.mul_pos px py
  have hn0 : 0 < n' := by
    rcases Nat.eq_zero_or_pos n' with e | e
    · rw [e] at r7; simp only [val] at r7; omega
    · exact e
  have hlt : val Z n' < BB ^ (v.n + vy.n) := by
    rw [r7, Int.pow_add]
    have a1 := val_lt h5
    have a2 := val_lt k5
    have := Int.mul_lt_mul_of_pos_right a1 py
    have := Int.mul_lt_mul_of_pos_left a2 (BBn_pos v.n)
    omega
  have hle := val_mono_len r5 r6 hn0 hlt
  rcases r4 with hh | ⟨bm, om, e, hw⟩
  · omega
  · subst e
    refine ⟨hn0, hle, bm, om, rfl, hw, r3.room0, ?_, by omega⟩
    rcases r6 with hh | hh
    · omega
    · exact hh
set_option maxHeartbeats 8000000 in
theorem umul_other (zb yb p : Nat) (v vy : FV) (X Y : Nat → Int) (w : World) (h : FNum w zb v X) (hy : FNum w yb vy Y) (hf : v.fm = 1) (hfy : vy.fm = 1) (hp : v.p = (p : Int)) (hne : zb ≠ yb) (hsep : ∀ b o, zF zb v b o → ¬ zF yb vy b o) (hn : v.n < 12) (hny : vy.n < 12)
    (hK : w.cell? ⟨1, 0, none⟩ = some (.int .i64 40)) :
    Calls Tryz.prog 227 #[.pointer (some ⟨zb, 0, none⟩), .pointer (some ⟨zb, 0, none⟩), .pointer (some ⟨yb, 0, none⟩)] w fun e w' => e = .returned (.tuple #[]) ∧ UMulPost w zb p v (val X v.n * val Y vy.n) (v.e + vy.e) w' := by
  have hpe := flt_ptr_eq w h.c.pb hy.c.pb (decide_eq_false hne).symm
  have hpe' : ∀ k, (binOp .eql 85 (.pointer (some ⟨zb, 0, none⟩)) (.pointer (some ⟨yb, 0, none⟩))).run Tryz.prog (w.drewN k) = .ok (.bool false) (w.drewN k) := fun k => flt_ptr_eq (w.drewN k) h.c.pb hy.c.pb (decide_eq_false hne).symm
  have HM := Lib.hid (fun k => mul_any v.a v.a vy.a v.n v.c v.n v.c vy.n vy.c X Y (.pointer none) (w.drewN k) (h.z.chg ((Chg.refl zNone w).drewN k) (fun _ _ _ h => h)) (h.natin hf |>.drewN k) (hy.natin hfy |>.drewN k) (Or.inl ⟨rfl, rfl⟩)
    (Or.inr (fun b o i e hi hh => hsep b (o + i) (Or.inr hh) (Or.inr ⟨o, e, by omega, by have := (hy.fin hfy).2.1; omega⟩))) (Or.inl (by omega)) hK)
  have H := Lib.hid (And.intro h (And.intro hy (And.intro hf (And.intro hfy hsep))))
  obtain ⟨P, md, ac, fm, ng, a, n, c, e0⟩ := v
  obtain ⟨Py, mdy, acy, fmy, ngy, ay, ny, cy, ey⟩ := vy
  obtain ⟨c0, c1, c2, c3, c4, c5, c6, cb⟩ := h.c
  obtain ⟨y0, y1, y2, y3, y4, y5, y6, yb'⟩ := hy.c
  have f5 := cb.fz 5
  have hex := h.ex
  have hey := hy.ex
  simp only at hp hf hfy c0 c1 c2 c3 c4 c5 c6 y0 y1 y2 y3 y4 y5 y6 hex hey hn hny HM
  have w1 : IntKind.i64.wrap e0 = e0 := IntWalk.i64_in _ (by omega)
  have w2 : IntKind.i64.wrap ey = ey := IntWalk.i64_in _ (by omega)
  have w3 : IntKind.i64.wrap (e0 + ey) = e0 + ey := IntWalk.i64_in _ (by omega)
  clear h hy hsep cb yb' hf hfy hK
  go_enter Tryz.func227, Tryz.ntmps227
  go_wp2_with fail
  go_quiet (fail)
  obtain ⟨W0, hW0⟩ : ∃ W0, W0 = w.drewN nq := ⟨_, rfl⟩
  have kD : Chg zNone w W0 := by rw [hW0]; exact (Chg.refl _ _).drewN nq
  have kD1 : Chg zNone w W0.drew := kD.drew
  have hpe2 : (binOp .eql 85 (.pointer (some ⟨zb, 0, none⟩)) (.pointer (some ⟨yb, 0, none⟩))).run Tryz.prog W0 = .ok (.bool false) W0 := by rw [hW0]; exact hpe' nq
  have HM0 : Hid (Calls Tryz.prog 106 #[.slice a n c, .pointer none, .slice a n c, .slice ay ny cy] W0.drew (NatRes W0.drew a c (val X n * val Y ny))) := by rw [hW0]; exact HM.out (nq + 1)
  have c5' : W0.cell? ⟨zb, 5, none⟩ = some (.slice a n c) := kD.cell c5 (fun h => h)
  have f5' : W0.frozen? ⟨zb, 5, none⟩ = false := (kD.frozen c5 _).trans f5
  have y5' : W0.cell? ⟨yb, 5, none⟩ = some (.slice ay ny cy) := kD.cell y5 (fun h => h)
  have HK := Lib.hid (And.intro kD kD1)
  rw [← hW0]
  clear HM hpe hpe' c0 c1 c2 c3 c4 c5 c6 y0 y1 y2 y3 y4 y5 y6 f5 kD kD1 hW0
  go_upto_if 20 with fail
  go_cut [6] (fun s6 wc => s6 = .int .i64 (e0 + ey) ∧ Hid (MulRel w zb ⟨P, md, ac, fm, ng, a, n, c, e0⟩ (val X n * val Y ny) wc))
  case first => as_aux_lemma =>
    go_wp2_with fail
    refine wp_region_noPanic ?_
    refine wp_region_any (by kernel_rfl) ?_
    change wpAny _ _ _ _ _ _ _ (World.drew _)
    refine wpAny_take (i := 0) (v := ?_) rfl (by kernel_rfl) (by kernel_rfl) (by kernel_rfl) (fun _ _ _ h => False.elim h) (Or.inl ⟨by rfl, ?_⟩) ?_
    rotate_left 1
    · intro w9
      go_simp
      try with_reducible rfl
    try simp only [Act.put, List.getElem_toArray, List.getElem_cons_zero, List.getElem_cons_succ, List.setIfInBounds_toArray, List.set_cons_zero, List.set_cons_succ]
    refine wpAny_take (i := 1) (v := ?_) rfl (by kernel_rfl) (by kernel_rfl) (by kernel_rfl) (fun _ _ _ h => False.elim h) (Or.inl ⟨by rfl, ?_⟩) ?_
    rotate_left 1
    · intro w9
      go_simp
      try with_reducible rfl
    try simp only [Act.put, List.getElem_toArray, List.getElem_cons_zero, List.getElem_cons_succ, List.setIfInBounds_toArray, List.set_cons_zero, List.set_cons_succ]
    refine wpAny_take (i := 5) (v := ?_) rfl (by kernel_rfl) (by kernel_rfl) (by kernel_rfl) (fun _ _ _ h => False.elim h) (Or.inl ⟨by rfl, ?_⟩) ?_
    rotate_left 1
    · intro w9
      go_simp
      try with_reducible rfl
    try simp only [Act.put, List.getElem_toArray, List.getElem_cons_zero, List.getElem_cons_succ, List.setIfInBounds_toArray, List.set_cons_zero, List.set_cons_succ]
    refine wpAny_take (i := 9) (v := ?_) rfl (by kernel_rfl) (by kernel_rfl) (by kernel_rfl) (fun _ _ _ h => False.elim h) (Or.inl ⟨by rfl, ?_⟩) ?_
    rotate_left 1
    · intro w9
      go_simp
      try with_reducible rfl
    try simp only [Act.put, List.getElem_toArray, List.getElem_cons_zero, List.getElem_cons_succ, List.setIfInBounds_toArray, List.set_cons_zero, List.set_cons_succ]
    refine wpAny_take (i := 2) (v := ?_) rfl (by kernel_rfl) (by kernel_rfl) (by kernel_rfl) (fun _ _ _ h => False.elim h) (Or.inl ⟨by rfl, ?_⟩) ?_
    rotate_left 1
    · intro w9
      go_simp
      try with_reducible rfl
    try simp only [Act.put, List.getElem_toArray, List.getElem_cons_zero, List.getElem_cons_succ, List.setIfInBounds_toArray, List.set_cons_zero, List.set_cons_succ]
    refine wpAny_take (i := 6) (v := ?_) rfl (by kernel_rfl) (by kernel_rfl) (by kernel_rfl) (fun _ _ _ h => False.elim h) (Or.inl ⟨by rfl, ?_⟩) ?_
    rotate_left 1
    · intro w9
      go_simp
      try with_reducible rfl
    try simp only [Act.put, List.getElem_toArray, List.getElem_cons_zero, List.getElem_cons_succ, List.setIfInBounds_toArray, List.set_cons_zero, List.set_cons_succ]
    refine wpAny_take (i := 10) (v := ?_) rfl (by kernel_rfl) (by kernel_rfl) (by kernel_rfl) (fun _ _ _ h => False.elim h) (Or.inl ⟨by rfl, ?_⟩) ?_
    rotate_left 1
    · intro w9
      go_simp
      try with_reducible rfl
    try simp only [Act.put, List.getElem_toArray, List.getElem_cons_zero, List.getElem_cons_succ, List.setIfInBounds_toArray, List.set_cons_zero, List.set_cons_succ]
    refine wpAny_take (i := 3) (v := ?_) rfl (by kernel_rfl) (by kernel_rfl) (by kernel_rfl) (fun _ _ _ h => False.elim h) (Or.inl ⟨by rfl, ?_⟩) ?_
    rotate_left 1
    · intro w9
      go_simp
      try with_reducible rfl
    try simp only [Act.put, List.getElem_toArray, List.getElem_cons_zero, List.getElem_cons_succ, List.setIfInBounds_toArray, List.set_cons_zero, List.set_cons_succ]
    refine wpAny_take (i := 7) (v := ?_) rfl (by kernel_rfl) (by kernel_rfl) (by kernel_rfl) (fun _ _ _ h => False.elim h) (Or.inl ⟨by rfl, ?_⟩) ?_
    rotate_left 1
    · intro w9
      go_simp
      try with_reducible rfl
    try simp only [Act.put, List.getElem_toArray, List.getElem_cons_zero, List.getElem_cons_succ, List.setIfInBounds_toArray, List.set_cons_zero, List.set_cons_succ]
    refine wpAny_take (i := 11) (v := ?_) rfl (by kernel_rfl) (by kernel_rfl) (by kernel_rfl) (fun _ _ _ h => False.elim h) (Or.inl ⟨by rfl, ?_⟩) ?_
    rotate_left 1
    · intro w9
      go_simp
      try with_reducible rfl
    try simp only [Act.put, List.getElem_toArray, List.getElem_cons_zero, List.getElem_cons_succ, List.setIfInBounds_toArray, List.set_cons_zero, List.set_cons_succ]
    refine wpAny_ready (rs := [4, 8, 12]) (by kernel_rfl) (by simp) ?_
    all_goals refine AllReady.cons rfl (fun K hK => ?_) (AllReady.cons rfl (fun K hK => ?_) (AllReady.cons rfl (fun K hK => ?_) AllReady.nil))
    all_goals go_simp
    all_goals refine hK _ _ ?_
    all_goals clear hK K
    all_goals try simp only [Act.put, List.getElem_toArray, List.getElem_cons_zero, List.getElem_cons_succ, List.setIfInBounds_toArray, List.set_cons_zero, List.set_cons_succ]
    refine wpAny_ready (rs := [8, 12]) (by kernel_rfl) (by simp) ?_
    rotate_left 1
    refine wpAny_ready (rs := [4, 12]) (by kernel_rfl) (by simp) ?_
    rotate_left 1
    refine wpAny_ready (rs := [4, 8]) (by kernel_rfl) (by simp) ?_
    rotate_left 1
    all_goals refine AllReady.cons rfl (fun K hK => ?_) (AllReady.cons rfl (fun K hK => ?_) AllReady.nil)
    all_goals go_simp
    all_goals refine hK _ _ ?_
    all_goals clear hK K
    all_goals try simp only [Act.put, List.getElem_toArray, List.getElem_cons_zero, List.getElem_cons_succ, List.setIfInBounds_toArray, List.set_cons_zero, List.set_cons_succ]
    refine wpAny_ready (rs := [12]) (by kernel_rfl) (by simp) ?_
    rotate_left 1
    refine wpAny_ready (rs := [8]) (by kernel_rfl) (by simp) ?_
    rotate_left 1
    refine wpAny_ready (rs := [12]) (by kernel_rfl) (by simp) ?_
    rotate_left 1
    refine wpAny_ready (rs := [4]) (by kernel_rfl) (by simp) ?_
    rotate_left 1
    refine wpAny_ready (rs := [8]) (by kernel_rfl) (by simp) ?_
    rotate_left 1
    refine wpAny_ready (rs := [4]) (by kernel_rfl) (by simp) ?_
    rotate_left 1
    all_goals refine AllReady.cons rfl (fun K hK => ?_) AllReady.nil
    all_goals go_simp
    all_goals refine hK _ _ ?_
    all_goals clear hK K
    all_goals try simp only [Act.put, List.getElem_toArray, List.getElem_cons_zero, List.getElem_cons_succ, List.setIfInBounds_toArray, List.set_cons_zero, List.set_cons_succ]
    all_goals
      refine wpAny_ready (rs := [13]) (by kernel_rfl) (by simp) ?_
      refine AllReady.cons rfl (fun K hK => ?_) AllReady.nil
      go_simp
      go_wp2_with (go_at_call 106; go_loud (refine HM0.out.mono ?_; rintro e w1 ⟨a', n', c', Z, rfl, h1, h2, h3, h4, h5, h6, h7, h8⟩; have k8 : Chg (zAddr a c) w w1 := (HK.out.2.mono (fun _ _ _ h => h.elim)).trans h8 (fun _ _ _ h => h); have z5' : w1.cell? ⟨zb, 5, none⟩ = some (.slice a n c) := h8.cell (w := W0.drew) c5' (fun hh => by obtain ⟨po, e, _⟩ := hh; exact H.out.1.ap _ _ e rfl); have f6' : w1.frozen? ⟨zb, 5, none⟩ = false := (h8.frozen (w := W0.drew) c5' 5).trans f5'; have HR := Lib.hid (mulrel_of H.out.1 h1 h2 h3 h4 h5 h6 (home_le h7 HK.out.2.size) k8); clear h1 h2 h3 h4 h5 h6 h7 h8 k8))
      try simp only [Act.put, List.getElem_toArray, List.getElem_cons_zero, List.getElem_cons_succ, List.setIfInBounds_toArray, List.set_cons_zero, List.set_cons_succ]
      refine wpAny_take (i := 14) (v := ?_) rfl (by kernel_rfl) (by kernel_rfl) (by kernel_rfl) (fun _ _ _ h => False.elim h) (Or.inl ⟨by rfl, ?_⟩) ?_
      rotate_left 1
      · intro w9
        go_simp
        try with_reducible rfl
      try simp only [Act.put, List.getElem_toArray, List.getElem_cons_zero, List.getElem_cons_succ, List.setIfInBounds_toArray, List.set_cons_zero, List.set_cons_succ]
      refine wpAny_take (i := 15) (v := ?_) rfl (by kernel_rfl) (by kernel_rfl) (by kernel_rfl) (fun _ _ _ h => False.elim h) (Or.inl ⟨by rfl, ?_⟩) ?_
      rotate_left 1
      · intro w9
        go_simp
        try with_reducible rfl
      try simp only [Act.put, List.getElem_toArray, List.getElem_cons_zero, List.getElem_cons_succ, List.setIfInBounds_toArray, List.set_cons_zero, List.set_cons_succ]
      refine wpAny_ready (rs := [16]) (by kernel_rfl) (by simp) ?_
      refine AllReady.cons rfl (fun K hK => ?_) AllReady.nil
      go_simp
      refine hK _ _ ?_
      clear hK K
      try simp only [Act.put, List.getElem_toArray, List.getElem_cons_zero, List.getElem_cons_succ, List.setIfInBounds_toArray, List.set_cons_zero, List.set_cons_succ]
      refine wpAny_done (by kernel_rfl) ?_ _
      refine NoPanic.normal ?_
      go_wp2
      go_meet
      exact ⟨rfl, HR.out⟩
  case rest => as_aux_lemma =>
    obtain ⟨rfl, HR⟩ := hcut
    obtain ⟨a', n', c', Z, r1, r2, r3, r4, r5, r6, r7, r8, r9, r10⟩ := HR.out
    obtain ⟨hm, hny', bm, om, rfl, hw, hroom, hz0, _⟩ := mul_out H.out.1 H.out.2.1 H.out.2.2.1 H.out.2.2.2.1 r2 r3 r4 r5 r6 r7
    have hn24 : n' < 65536 := by simp only at hny'; omega
    have HF := Lib.hid (fnorm_any bm om n' c' Z wc hm (by omega) hw r5 (hroom.le r2) hz0)
    have HR2 := Lib.hid (And.intro r1 (And.intro r2 (And.intro r3 (And.intro r5 (And.intro r7 (And.intro r8 (And.intro r9 (And.intro r10 (And.intro hm hn24)))))))))
    clear c5' f5' y5' HM0
    obtain ⟨c0, c1, c2, c3, c4, c5, c6, cb⟩ := r1
    simp only at c0 c1 c2 c3 c4 c5 c6
    clear r2 r3 r4 r5 r6 r7 r8 r9 r10 hm hw hroom hz0 cb hn24 hny'
    go_wp2_with fail
    refine HF.out.mono ?_
    rintro e wd ⟨s, Z2, rfl, q1, q2, q3, q4, q5, q6, q7⟩
    obtain ⟨r1, r2, r3, r5, r7, r8, r9, r10, hm, hn24⟩ := HR2.out
    have hC := r1.chg q3 (fun o ho hh => r10 bm om rfl hh.1.symm)
    have hZ : ZOK wd (some ⟨bm, om, none⟩) c' := r3.ints q3 (by
      rintro b o _ ⟨rfl, h1, h2⟩
      have hy := q4 (o - om) (by omega)
      rw [show om + (o - om) = o by omega] at hy
      exact ⟨_, hy⟩)
    have hM : FMant wd ⟨P, md, ac, fm, ng, some ⟨bm, om, none⟩, n', c', e0⟩ Z2 := ⟨hm, r2, by simp only; omega, Or.inr ⟨bm, om, rfl, q4⟩, q5, q7⟩
    have hN : FNum wd zb ⟨P, md, ac, fm, ng, some ⟨bm, om, none⟩, n', c', e0⟩ Z2 := ⟨hC, hZ, r10, H.out.1.p, H.out.1.md, H.out.1.fm, H.out.1.ex, fun _ => hM⟩
    have HS := Lib.hid (setExpAndRound_any zb p ⟨P, md, ac, fm, ng, some ⟨bm, om, none⟩, n', c', e0⟩ Z2 (e0 + ey - s) 0 false wd hN hM hp (Or.inl rfl) (by simp))
    have HQ := Lib.hid (And.intro q2 (And.intro q3 (And.intro q6 hM)))
    have s64 : s < 64 := q2
    have w4 : IntKind.i64.wrap (e0 + ey - (s : Int)) = e0 + ey - (s : Int) := IntWalk.i64_in _ (by omega)
    clear q1 q2 q3 q4 q5 q6 q7 r1 r2 r3 r5 r7 r8 r9 r10 hm hn24 hC hZ hM hN
    go_wp2_with fail
    refine HS.out.mono ?_
    rintro e we ⟨rfl, hs⟩
    have Hs := Lib.hid hs
    clear hs
    go_wp2_with fail
    go_end0
    obtain ⟨r1, r2, r3, r5, r7, r8, r9, r10, hm, hn24⟩ := HR2.out
    obtain ⟨q2, q3, q6, hM⟩ := HQ.out
    refine ⟨rfl, wd, ⟨P, md, ac, fm, ng, some ⟨bm, om, none⟩, n', c', e0⟩, Z2, s, rfl, hM, ?_, s64, r8, r9.trans q3 ?_, Hs.out⟩
    · simp only; rw [q6, r7]
    · rintro b o hb ⟨rfl, h1, h2⟩
      exact Or.inr (r8.zone _ _ hb ⟨om, rfl, h1, by omega⟩)
end Go.Proofs.YtmgfajamanakcaaGreatDoor
namespace Go.Proofs.YtmgfajamanakcaaGreatDoor
set_option linter.unusedSimpArgs false
open Go.RowKit
set_option maxRecDepth 100000
set_option linter.unusedVariables false
set_option maxHeartbeats 8000000 in
theorem umul_self (zb p : Nat) (v : FV) (X : Nat → Int) (w : World) (h : FNum w zb v X) (hf : v.fm = 1) (hp : v.p = (p : Int)) (hn : v.n < 12)
    (hK5 : w.cell? ⟨5, 0, none⟩ = some (.int .i64 12)) (hK6 : w.cell? ⟨6, 0, none⟩ = some (.int .i64 80)) :
    Calls Tryz.prog 227 #[.pointer (some ⟨zb, 0, none⟩), .pointer (some ⟨zb, 0, none⟩), .pointer (some ⟨zb, 0, none⟩)] w fun e w' => e = .returned (.tuple #[]) ∧ UMulPost w zb p v (val X v.n * val X v.n) (v.e + v.e) w' := by
  have hpe' : ∀ k, (binOp .eql 85 (.pointer (some ⟨zb, 0, none⟩)) (.pointer (some ⟨zb, 0, none⟩))).run Tryz.prog (w.drewN k) = .ok (.bool true) (w.drewN k) := fun k => flt_ptr_eq (w.drewN k) h.c.pb h.c.pb (decide_eq_true rfl).symm
  have HM := Lib.hid (fun k => sqr_any v.a v.a v.n v.c v.n v.c X (.pointer none) (w.drewN k) (h.z.chg ((Chg.refl zNone w).drewN k) (fun _ _ _ h => h)) (h.natin hf |>.drewN k) (Or.inl ⟨rfl, rfl⟩) hn hK5 hK6)
  have H := Lib.hid (And.intro h (And.intro h (And.intro hf (And.intro hf hf))))
  obtain ⟨P, md, ac, fm, ng, a, n, c, e0⟩ := v
  obtain ⟨c0, c1, c2, c3, c4, c5, c6, cb⟩ := h.c
  have f5 := cb.fz 5
  have hex := h.ex
  simp only at hp hf c0 c1 c2 c3 c4 c5 c6 hex hn HM
  have w1 : IntKind.i64.wrap e0 = e0 := IntWalk.i64_in _ (by omega)
  have w3 : IntKind.i64.wrap (e0 + e0) = e0 + e0 := IntWalk.i64_in _ (by omega)
  clear h cb hf hK5 hK6
  go_enter Tryz.func227, Tryz.ntmps227
  go_wp2_with fail
  go_quiet (fail)
  obtain ⟨W0, hW0⟩ : ∃ W0, W0 = w.drewN nq := ⟨_, rfl⟩
  have kD : Chg zNone w W0 := by rw [hW0]; exact (Chg.refl _ _).drewN nq
  have kD1 : Chg zNone w W0.drew := kD.drew
  have hpe2 : (binOp .eql 85 (.pointer (some ⟨zb, 0, none⟩)) (.pointer (some ⟨zb, 0, none⟩))).run Tryz.prog W0 = .ok (.bool true) W0 := by rw [hW0]; exact hpe' nq
  have HM0 : Hid (Calls Tryz.prog 163 #[.slice a n c, .pointer none, .slice a n c] W0.drew (NatRes W0.drew a c (val X n * val X n))) := by rw [hW0]; exact HM.out (nq + 1)
  have c5' : W0.cell? ⟨zb, 5, none⟩ = some (.slice a n c) := kD.cell c5 (fun h => h)
  have f5' : W0.frozen? ⟨zb, 5, none⟩ = false := (kD.frozen c5 _).trans f5
  have HK := Lib.hid (And.intro kD kD1)
  rw [← hW0]
  clear HM hpe' c0 c1 c2 c3 c4 c5 c6 f5 kD kD1 hW0
  go_upto_if 20 with fail
  go_cut [6] (fun s6 wc => s6 = .int .i64 (e0 + e0) ∧ Hid (MulRel w zb ⟨P, md, ac, fm, ng, a, n, c, e0⟩ (val X n * val X n) wc))
  case first => as_aux_lemma =>
    go_wp2_with fail
    refine wp_region_noPanic ?_
    refine wp_region_any (by kernel_rfl) ?_
    change wpAny _ _ _ _ _ _ _ (World.drew _)
    refine wpAny_take (i := 0) (v := ?_) rfl (by kernel_rfl) (by kernel_rfl) (by kernel_rfl) (fun _ _ _ h => False.elim h) (Or.inl ⟨by rfl, ?_⟩) ?_
    rotate_left 1
    · intro w9
      go_simp
      try with_reducible rfl
    try simp only [Act.put, List.getElem_toArray, List.getElem_cons_zero, List.getElem_cons_succ, List.setIfInBounds_toArray, List.set_cons_zero, List.set_cons_succ]
    refine wpAny_take (i := 1) (v := ?_) rfl (by kernel_rfl) (by kernel_rfl) (by kernel_rfl) (fun _ _ _ h => False.elim h) (Or.inl ⟨by rfl, ?_⟩) ?_
    rotate_left 1
    · intro w9
      go_simp
      try with_reducible rfl
    try simp only [Act.put, List.getElem_toArray, List.getElem_cons_zero, List.getElem_cons_succ, List.setIfInBounds_toArray, List.set_cons_zero, List.set_cons_succ]
    refine wpAny_take (i := 5) (v := ?_) rfl (by kernel_rfl) (by kernel_rfl) (by kernel_rfl) (fun _ _ _ h => False.elim h) (Or.inl ⟨by rfl, ?_⟩) ?_
    rotate_left 1
    · intro w9
      go_simp
      try with_reducible rfl
    try simp only [Act.put, List.getElem_toArray, List.getElem_cons_zero, List.getElem_cons_succ, List.setIfInBounds_toArray, List.set_cons_zero, List.set_cons_succ]
    refine wpAny_take (i := 2) (v := ?_) rfl (by kernel_rfl) (by kernel_rfl) (by kernel_rfl) (fun _ _ _ h => False.elim h) (Or.inl ⟨by rfl, ?_⟩) ?_
    rotate_left 1
    · intro w9
      go_simp
      try with_reducible rfl
    try simp only [Act.put, List.getElem_toArray, List.getElem_cons_zero, List.getElem_cons_succ, List.setIfInBounds_toArray, List.set_cons_zero, List.set_cons_succ]
    refine wpAny_take (i := 6) (v := ?_) rfl (by kernel_rfl) (by kernel_rfl) (by kernel_rfl) (fun _ _ _ h => False.elim h) (Or.inl ⟨by rfl, ?_⟩) ?_
    rotate_left 1
    · intro w9
      go_simp
      try with_reducible rfl
    try simp only [Act.put, List.getElem_toArray, List.getElem_cons_zero, List.getElem_cons_succ, List.setIfInBounds_toArray, List.set_cons_zero, List.set_cons_succ]
    refine wpAny_take (i := 3) (v := ?_) rfl (by kernel_rfl) (by kernel_rfl) (by kernel_rfl) (fun _ _ _ h => False.elim h) (Or.inl ⟨by rfl, ?_⟩) ?_
    rotate_left 1
    · intro w9
      go_simp
      try with_reducible rfl
    try simp only [Act.put, List.getElem_toArray, List.getElem_cons_zero, List.getElem_cons_succ, List.setIfInBounds_toArray, List.set_cons_zero, List.set_cons_succ]
    refine wpAny_take (i := 7) (v := ?_) rfl (by kernel_rfl) (by kernel_rfl) (by kernel_rfl) (fun _ _ _ h => False.elim h) (Or.inl ⟨by rfl, ?_⟩) ?_
    rotate_left 1
    · intro w9
      go_simp
      try with_reducible rfl
    try simp only [Act.put, List.getElem_toArray, List.getElem_cons_zero, List.getElem_cons_succ, List.setIfInBounds_toArray, List.set_cons_zero, List.set_cons_succ]
    refine wpAny_ready (rs := [4, 8]) (by kernel_rfl) (by simp) ?_
    all_goals refine AllReady.cons rfl (fun K hK => ?_) (AllReady.cons rfl (fun K hK => ?_) AllReady.nil)
    all_goals go_simp
    all_goals refine hK _ _ ?_
    all_goals clear hK K
    all_goals try simp only [Act.put, List.getElem_toArray, List.getElem_cons_zero, List.getElem_cons_succ, List.setIfInBounds_toArray, List.set_cons_zero, List.set_cons_succ]
    refine wpAny_ready (rs := [8]) (by kernel_rfl) (by simp) ?_
    rotate_left 1
    refine wpAny_ready (rs := [4]) (by kernel_rfl) (by simp) ?_
    rotate_left 1
    all_goals refine AllReady.cons rfl (fun K hK => ?_) AllReady.nil
    all_goals go_simp
    all_goals refine hK _ _ ?_
    all_goals clear hK K
    all_goals try simp only [Act.put, List.getElem_toArray, List.getElem_cons_zero, List.getElem_cons_succ, List.setIfInBounds_toArray, List.set_cons_zero, List.set_cons_succ]
    all_goals
      refine wpAny_ready (rs := [9]) (by kernel_rfl) (by simp) ?_
      refine AllReady.cons rfl (fun K hK => ?_) AllReady.nil
      go_simp
      go_wp2_with (go_at_call 163; go_loud (refine HM0.out.mono ?_; rintro e w1 ⟨a', n', c', Z, rfl, h1, h2, h3, h4, h5, h6, h7, h8⟩; have k8 : Chg (zAddr a c) w w1 := (HK.out.2.mono (fun _ _ _ h => h.elim)).trans h8 (fun _ _ _ h => h); have z5' : w1.cell? ⟨zb, 5, none⟩ = some (.slice a n c) := h8.cell (w := W0.drew) c5' (fun hh => by obtain ⟨po, e, _⟩ := hh; exact H.out.1.ap _ _ e rfl); have f6' : w1.frozen? ⟨zb, 5, none⟩ = false := (h8.frozen (w := W0.drew) c5' 5).trans f5'; have HR := Lib.hid (mulrel_of H.out.1 h1 h2 h3 h4 h5 h6 (home_le h7 HK.out.2.size) k8); clear h1 h2 h3 h4 h5 h6 h7 h8 k8))
      try simp only [Act.put, List.getElem_toArray, List.getElem_cons_zero, List.getElem_cons_succ, List.setIfInBounds_toArray, List.set_cons_zero, List.set_cons_succ]
      refine wpAny_take (i := 10) (v := ?_) rfl (by kernel_rfl) (by kernel_rfl) (by kernel_rfl) (fun _ _ _ h => False.elim h) (Or.inl ⟨by rfl, ?_⟩) ?_
      rotate_left 1
      · intro w9
        go_simp
        try with_reducible rfl
      try simp only [Act.put, List.getElem_toArray, List.getElem_cons_zero, List.getElem_cons_succ, List.setIfInBounds_toArray, List.set_cons_zero, List.set_cons_succ]
      refine wpAny_take (i := 11) (v := ?_) rfl (by kernel_rfl) (by kernel_rfl) (by kernel_rfl) (fun _ _ _ h => False.elim h) (Or.inl ⟨by rfl, ?_⟩) ?_
      rotate_left 1
      · intro w9
        go_simp
        try with_reducible rfl
      try simp only [Act.put, List.getElem_toArray, List.getElem_cons_zero, List.getElem_cons_succ, List.setIfInBounds_toArray, List.set_cons_zero, List.set_cons_succ]
      refine wpAny_ready (rs := [12]) (by kernel_rfl) (by simp) ?_
      refine AllReady.cons rfl (fun K hK => ?_) AllReady.nil
      go_simp
      refine hK _ _ ?_
      clear hK K
      try simp only [Act.put, List.getElem_toArray, List.getElem_cons_zero, List.getElem_cons_succ, List.setIfInBounds_toArray, List.set_cons_zero, List.set_cons_succ]
      refine wpAny_done (by kernel_rfl) ?_ _
      refine NoPanic.normal ?_
      go_wp2
      go_meet
      exact ⟨rfl, HR.out⟩
  case rest => as_aux_lemma =>
    obtain ⟨rfl, HR⟩ := hcut
    obtain ⟨a', n', c', Z, r1, r2, r3, r4, r5, r6, r7, r8, r9, r10⟩ := HR.out
    obtain ⟨hm, hny', bm, om, rfl, hw, hroom, hz0, _⟩ := mul_out H.out.1 H.out.1 H.out.2.2.1 H.out.2.2.1 r2 r3 r4 r5 r6 r7
    have hn24 : n' < 65536 := by simp only at hny'; omega
    have HF := Lib.hid (fnorm_any bm om n' c' Z wc hm (by omega) hw r5 (hroom.le r2) hz0)
    have HR2 := Lib.hid (And.intro r1 (And.intro r2 (And.intro r3 (And.intro r5 (And.intro r7 (And.intro r8 (And.intro r9 (And.intro r10 (And.intro hm hn24)))))))))
    clear c5' f5' HM0
    obtain ⟨c0, c1, c2, c3, c4, c5, c6, cb⟩ := r1
    simp only at c0 c1 c2 c3 c4 c5 c6
    clear r2 r3 r4 r5 r6 r7 r8 r9 r10 hm hw hroom hz0 cb hn24 hny'
    go_wp2_with fail
    refine HF.out.mono ?_
    rintro e wd ⟨s, Z2, rfl, q1, q2, q3, q4, q5, q6, q7⟩
    obtain ⟨r1, r2, r3, r5, r7, r8, r9, r10, hm, hn24⟩ := HR2.out
    have hC := r1.chg q3 (fun o ho hh => r10 bm om rfl hh.1.symm)
    have hZ : ZOK wd (some ⟨bm, om, none⟩) c' := r3.ints q3 (by
      rintro b o _ ⟨rfl, h1, h2⟩
      have hy := q4 (o - om) (by omega)
      rw [show om + (o - om) = o by omega] at hy
      exact ⟨_, hy⟩)
    have hM : FMant wd ⟨P, md, ac, fm, ng, some ⟨bm, om, none⟩, n', c', e0⟩ Z2 := ⟨hm, r2, by simp only; omega, Or.inr ⟨bm, om, rfl, q4⟩, q5, q7⟩
    have hN : FNum wd zb ⟨P, md, ac, fm, ng, some ⟨bm, om, none⟩, n', c', e0⟩ Z2 := ⟨hC, hZ, r10, H.out.1.p, H.out.1.md, H.out.1.fm, H.out.1.ex, fun _ => hM⟩
    have HS := Lib.hid (setExpAndRound_any zb p ⟨P, md, ac, fm, ng, some ⟨bm, om, none⟩, n', c', e0⟩ Z2 (e0 + e0 - s) 0 false wd hN hM hp (Or.inl rfl) (by simp))
    have HQ := Lib.hid (And.intro q2 (And.intro q3 (And.intro q6 hM)))
    have s64 : s < 64 := q2
    have w4 : IntKind.i64.wrap (e0 + e0 - (s : Int)) = e0 + e0 - (s : Int) := IntWalk.i64_in _ (by omega)
    clear q1 q2 q3 q4 q5 q6 q7 r1 r2 r3 r5 r7 r8 r9 r10 hm hn24 hC hZ hM hN
    go_wp2_with fail
    refine HS.out.mono ?_
    rintro e we ⟨rfl, hs⟩
    have Hs := Lib.hid hs
    clear hs
    go_wp2_with fail
    go_end0
    obtain ⟨r1, r2, r3, r5, r7, r8, r9, r10, hm, hn24⟩ := HR2.out
    obtain ⟨q2, q3, q6, hM⟩ := HQ.out
    refine ⟨rfl, wd, ⟨P, md, ac, fm, ng, some ⟨bm, om, none⟩, n', c', e0⟩, Z2, s, rfl, hM, ?_, s64, r8, r9.trans q3 ?_, Hs.out⟩
    · simp only; rw [q6, r7]
    · rintro b o hb ⟨rfl, h1, h2⟩
      exact Or.inr (r8.zone _ _ hb ⟨om, rfl, h1, by omega⟩)
end Go.Proofs.YtmgfajamanakcaaGreatDoor
