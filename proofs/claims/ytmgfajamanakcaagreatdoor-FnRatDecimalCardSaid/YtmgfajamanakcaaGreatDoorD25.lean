/- Part of the proof of FnParse: what the functions that it reaches do, as contracts. Conditions: those that each theorem names. -/
import Derived.Test.YtmgfajamanakcaaGreatDoorD19
import Derived.Outline
import Derived.Test.YtmgfajamanakcaaGreatDoorD16
namespace Go.Proofs.YtmgfajamanakcaaGreatDoor
set_option linter.unusedVariables false
set_option linter.unusedSimpArgs false
open Go.RowKit
set_option maxRecDepth 100000
theorem and_mask4 (x : Nat) (hx : x < 2 ^ 64) : x &&& (2 ^ 64 - 4) = x - x % 4 := by
  have e : x - x % 4 = (x >>> 2) <<< 2 := by
    rw [Nat.shiftRight_eq_div_pow, Nat.shiftLeft_eq]
    omega
  rw [e]
  apply Nat.eq_of_testBit_eq
  intro i
  have h3 : (2 ^ 64 - 4).testBit i = (decide (i < 64) && !(Nat.testBit 3 i)) := Nat.testBit_two_pow_sub_succ (x := 3) (by decide) i
  rw [Nat.testBit_and, h3, Nat.testBit_shiftLeft, Nat.testBit_shiftRight]
  have h4 : Nat.testBit 3 i = decide (i < 2) := by
    have := Nat.testBit_two_pow_sub_one 2 i
    simpa using this
  rw [h4]
  by_cases h2 : i < 2
  · simp [h2]; omega
  · have h5 : 2 + (i - 2) = i := by omega
    by_cases h6 : i < 64
    · simp [h2, h6, h5]; omega
    · have h7 : x.testBit i = false := Nat.testBit_lt_two_pow (Nat.lt_of_lt_of_le hx (Nat.pow_le_pow_right (by decide) (by omega)))
      simp [h6, h5, h7]
theorem andn_three (k : Nat) (h : k < 4611686018427387904) : bits BinOp.andNot IntKind.i64 (k : Int) 3 = ((k - k % 4 : Nat) : Int) := by
  have h1 : (~~~ (BitVec.ofInt 64 3)).toNat = 2 ^ 64 - 4 := by decide
  have key : (BitVec.ofInt 64 (k : Int) &&& ~~~ (BitVec.ofInt 64 3)).toNat = k - k % 4 := by
    rw [BitVec.toNat_and, BitVec.toNat_ofInt, h1]
    rw [show ((k : Int) % ((2 ^ 64 : Nat) : Int)).toNat = k by omega]
    exact and_mask4 k (by omega)
  show IntKind.i64.wrap ((BitVec.ofInt 64 (k : Int) &&& ~~~ (BitVec.ofInt 64 3)).toNat : Nat) = _
  rw [key, IntKind.wrap_i64]
  omega
def up4 (n : Nat) : Nat := n + 3 - (n + 3) % 4
theorem up4_ge (n : Nat) : n ≤ up4 n ∧ up4 n ≤ n + 3 := by unfold up4; omega
def InnerPost (w : World) (q : Nat) (a : Option Addr) (L c n : Nat) (e : Ending) (w' : World) : Prop :=
  ∃ b o c', e = .returned (.slice (some ⟨b, o + L, none⟩) n n) ∧ w'.cell? ⟨q, 0, none⟩ = some (.slice (some ⟨b, o, none⟩) (L + up4 n) c') ∧ L + up4 n ≤ c' ∧ ZOK w' (some ⟨b, o, none⟩) c' ∧ Home w a c (some ⟨b, o, none⟩) c' ∧
    Chg (fun b' o' => zRow q 0 1 b' o' ∨ ∃ po, a = some ⟨b', po, none⟩ ∧ po + L ≤ o' ∧ o' < po + c) w w'
set_option maxHeartbeats 4000000 in
theorem inner_any (q : Nat) (a : Option Addr) (L c n : Nat) (w : World) (h1 : w.cell? ⟨q, 0, none⟩ = some (.slice a L c)) (h2 : w.frozen? ⟨q, 0, none⟩ = false) (hL : L ≤ c) (hz : ZOK w a c) (hne : ∀ b o, a = some ⟨b, o, none⟩ → b ≠ q) (hn0 : 0 < n) (hn : n < 68719476736) (hL2 : L < 274877906944) :
    Calls Tryz.prog 221 #[.pointer (some ⟨q, 0, none⟩), .int .i64 (n : Int)] w (InnerPost w q a L c n) := by
  have hb : bits BinOp.andNot IntKind.i64 ((n : Int) + 3) 3 = ((up4 n : Nat) : Int) := by
    have := andn_three (n + 3) (by omega)
    rw [show (((n + 3 : Nat)) : Int) = (n : Int) + 3 by omega] at this
    exact this
  have hu := up4_ge n
  obtain ⟨nr, hnr⟩ : ∃ x, up4 n = x := ⟨_, rfl⟩
  rw [hnr] at hb hu
  have Hnr := Lib.hid hnr
  obtain ⟨hu1, hu2⟩ := hu
  have hql : q < w.heap.size := lt_of_cell h1
  have HG := Lib.hid (grow248_any a L c nr w hz hL (by omega))
  have H := Lib.hid (And.intro hz hne)
  have H1 := Lib.hid (And.intro h1 h2)
  clear hz hne hnr
  go_enter Tryz.func221, Tryz.ntmps221
  go_wp2_with fail
  refine HG.out.mono ?_
  rintro e w1 ⟨a', c', rfl, g1, g2, g3, g4⟩
  obtain ⟨b, o, rfl, hpb, hroom⟩ := g2.room (by omega)
  have q1 : w1.cell? ⟨q, 0, none⟩ = some (.slice a L c) := g4.cell h1 (fun h => h)
  have q2 : w1.frozen? ⟨q, 0, none⟩ = false := (g4.frozen h1 _).trans h2
  have hbq : b ≠ q := by
    rcases g3 with ⟨e, _⟩ | ⟨b', o', e, hb'⟩
    · exact H.out.2 b o e.symm
    · injection e with e; injection e with e1 _; omega
  have H2 := Lib.hid (And.intro g2 (And.intro g3 g4))
  obtain ⟨⟨x0, hx0⟩, hx1⟩ := hroom L (by omega)
  have j1 : (0 : Int) ≤ (L : Int) + (nr : Int) := by omega
  have j2 : (L : Int) + (nr : Int) ≤ (c' : Int) := by omega
  have j3 : (L : Int) ≤ (L : Int) + (n : Int) := by omega
  have j4 : (L : Int) + (n : Int) ≤ (c' : Int) := by omega
  have j5 : (0 : Int) ≤ (L : Int) := by omega
  have j6 : decide ((0 : Int) < (n : Int)) = true := by simp; omega
  have j7 : ((L : Int) + (nr : Int)).toNat = L + nr := by omega
  have j8 : ((L : Int) + (n : Int)).toNat = L + n := by omega
  have j9 : ¬ (L + n = L) := by omega
  clear g2 g3 g4 hroom h1 h2
  go_wp2_with fail
  go_ret
  obtain ⟨g2, g3, g4⟩ := H2.out
  have k1 : Chg (zRow q 0 1) w1 ((w1.setCell ⟨q, 0, none⟩ (.slice (some ⟨b, o, none⟩) L c')).setCell ⟨q, 0, none⟩ (.slice (some ⟨b, o, none⟩) (L + nr) c')) :=
    ((Chg.refl _ _).setCell q 0 _ (fun _ => ⟨rfl, by omega, by omega⟩)).setCell q 0 _ (fun _ => ⟨rfl, by omega, by omega⟩)
  have z2 := g2.chg k1 (by rintro b' o' ⟨po, e, _⟩ hh; injection e with e; injection e with e1 _; exact hbq (e1.trans hh.1))
  have k2 := chg_cell ((w1.setCell ⟨q, 0, none⟩ (.slice (some ⟨b, o, none⟩) L c')).setCell ⟨q, 0, none⟩ (.slice (some ⟨b, o, none⟩) (L + nr) c')) b (o + L) (.int .u64 1043915)
  refine ⟨b, o, c', rfl, ?_, by rw [Hnr.out]; exact g1, z2.setInt b (o + L) 1043915, g3, ?_⟩
  · rw [Hnr.out]
    exact k2.cell (cs_same (cs_same q1)) (fun h => hbq h.1.symm)
  · refine ((g4.mono (fun _ _ _ h => h.elim)).trans k1 (fun b' o' _ hh => Or.inl hh)).trans k2 (fun b' o' hb' hh => Or.inr ?_)
    obtain ⟨rfl, h3, h4⟩ := hh
    rcases g3 with ⟨e, e2⟩ | ⟨b2, o2, e, hb2⟩
    · exact ⟨o, e.symm, by omega, by omega⟩
    · injection e with e; injection e with e1 _; omega
def NatPost (w : World) (p : Nat) (d : Option SD) (n : Nat) (e : Ending) (w' : World) : Prop :=
  ∃ d' b o c', e = .returned (.slice (some ⟨b, o, none⟩) n c') ∧ n ≤ c' ∧ Stk w' p d' ∧ StkFrom w d d' ∧ stkL d' ≤ stkL d + n + 3 ∧ ZOK w' (some ⟨b, o, none⟩) c' ∧ b ≠ p ∧ (∀ s, d' = some s → b ≠ s.q) ∧ (∀ i, i < c' → ¬ zStk p d' b (o + i)) ∧ (∀ i, i < c' → b < w.heap.size → zStk p d b (o + i)) ∧ Chg (zStk p d) w w'
set_option maxHeartbeats 4000000 in
theorem nat_inner (p : Nat) (s : SD) (n : Nat) (w : World) (h : Stk w p (some s)) (hn0 : 0 < n) (hn : n < 68719476736) (hL : s.L < 274877906944) :
    Calls Tryz.prog 169 #[.pointer (some ⟨p, 0, none⟩), .int .i64 (n : Int)] w (NatPost w p (some s) n) := by
  obtain ⟨q, a, L, c⟩ := s
  have H := Lib.hid h
  obtain ⟨⟨h1, h2⟩, ⟨h3, h4⟩, h5, h6, h7, h8⟩ := h
  simp only at h1 h2 h3 h4 h5 h6 h7 h8 hL
  have HI := Lib.hid (inner_any q a L c n w h3 h4 h5 h6 (fun b o e => (h8 b o e).2) hn0 hn hL)
  clear h3 h4 h5 h6 h7 h8
  go_enter Tryz.func169, Tryz.ntmps169
  go_wp2_with fail
  refine HI.out.mono ?_
  rintro e w1 ⟨b, o, c', rfl, g1, g2, g3, g4, g5⟩
  have HQ := Lib.hid (And.intro g1 (And.intro g2 (And.intro g3 (And.intro g4 g5))))
  clear g1 g2 g3 g4 g5
  go_wp2
  go_ret
  obtain ⟨g1, g2, g3, g4, g5⟩ := HQ.out
  obtain ⟨⟨h1, h2⟩, ⟨h3, h4⟩, h5, h6, h7, h8⟩ := H.out
  simp only at h1 h2 h3 h4 h5 h6 h7 h8
  have hu := up4_ge n
  have hpl := lt_of_cell h1
  have hql := lt_of_cell h3
  have hne : b ≠ p ∧ b ≠ q := by
    rcases g4 with ⟨e, _⟩ | ⟨b2, o2, e, hb2⟩
    · exact h8 b o e.symm
    · injection e with e; injection e with e1 _; exact ⟨by omega, by omega⟩
  have hpz : ¬ (zRow q 0 1 p 0 ∨ ∃ po, a = some ⟨p, po, none⟩ ∧ po + L ≤ 0 ∧ 0 < po + c) := by
    rintro (h | ⟨po, e, _⟩)
    · exact h7 h.1.symm
    · exact (h8 p po e).1 rfl
  have hz3 : ZOK w1 (some ⟨b, o + L, none⟩) n := by
    rcases g3 with ⟨h, _⟩ | ⟨b2, o2, e, hp, hr, hc⟩
    · cases h
    · injection e with e; injection e with e1 e2; subst e1; subst e2
      exact Or.inr ⟨b, o + L, rfl, hp, hr.drop L n (by omega), by omega⟩
  refine ⟨some ⟨q, some ⟨b, o, none⟩, L + up4 n, c'⟩, b, o + L, n, rfl, Nat.le_refl _, ⟨⟨g5.cell h1 hpz, (g5.frozen h1 _).trans h2⟩, ⟨g1, (g5.frozen h3 _).trans h4⟩, g2, g3, h7, fun b' o' e => ?_⟩, ⟨rfl, Nat.le_add_right _ _, ?_⟩, ?_, hz3, hne.1, ?_, ?_, ?_, g5.mono (fun b' o' _ hh => Or.inr hh)⟩
  · simp only at e; injection e with e; injection e with e1 _; rw [← e1]; exact hne
  · rcases g4 with ⟨e1, e2⟩ | ⟨b2, o2, e, hb2⟩
    · exact Or.inl ⟨e1, e2⟩
    · exact Or.inr (Or.inr ⟨b2, o2, e, hb2⟩)
  · simp only [stkL]; omega
  · intro s e; injection e with e; rw [← e]; exact hne.2
  · rintro i hi (hh | hh | ⟨po, e, h9, h10⟩)
    · exact hne.1 hh.1
    · exact hne.2 hh.1
    · simp only at e h9; injection e with e; injection e with _ e2; omega
  · intro i hi hb
    refine Or.inr (Or.inr ?_)
    rcases g4 with ⟨e1, e2⟩ | ⟨b2, o2, e, hb2⟩
    · exact ⟨o, e1.symm, by simp only; omega, by simp only; omega⟩
    · injection e with e; injection e with e1 _; omega
set_option maxHeartbeats 4000000 in
theorem nat_small (p n : Nat) (w : World) (h : Stk w p none) (hn0 : 0 < n) (hn : n ≤ 4) :
    Calls Tryz.prog 169 #[.pointer (some ⟨p, 0, none⟩), .int .i64 (n : Int)] w (NatPost w p none n) := by
  have H := Lib.hid h
  obtain ⟨h1, h2⟩ := h
  have HG := Lib.hid (grow220_any none 0 0 n w (Or.inl ⟨rfl, rfl⟩) (Nat.le_refl _) (by omega))
  have j0 : decide ((n : Int) ≤ 4) = true := by simp; omega
  have j1 : (0 : Int) ≤ (n : Int) := by omega
  have j6 : decide ((0 : Int) < (n : Int)) = true := by simp; omega
  go_enter Tryz.func169, Tryz.ntmps169
  go_wp2_with fail
  refine HG.out.mono ?_
  rintro e w1 ⟨a', c', rfl, g1, g2, g3, g4⟩
  obtain ⟨b, o, rfl, hpb, hroom⟩ := g2.room (by omega)
  have hb : w.heap.size ≤ b := by
    rcases g3 with ⟨e, _⟩ | ⟨b2, o2, e, hb2⟩
    · cases e
    · injection e with e; injection e with e1 _; omega
  obtain ⟨⟨x0, hx0⟩, hx1⟩ := hroom 0 (by omega)
  simp only [Nat.add_zero] at hx0 hx1
  have j2 : (n : Int) ≤ (c' : Int) := by omega
  have j3 : (0 : Int) < (n : Int) := by omega
  have HQ := Lib.hid (And.intro g2 g4)
  clear g2 g3 g4 hroom
  go_wp2
  go_ret
  obtain ⟨g2, g4⟩ := HQ.out
  have hpl := lt_of_cell h1
  have k2 := chg_cell w1 b o (.int .u64 11259375)
  refine ⟨none, b, o, c', rfl, by omega, ⟨k2.cell (g4.cell h1 (fun h => h)) (fun h => by have := h.1; omega), by rw [fz_set]; exact (g4.frozen h1 _).trans h2⟩, trivial, by simp [stkL], g2.setInt b o 11259375, by omega, (fun s e => by cases e), ?_, fun i hi hb' => by omega, (g4.mono (fun _ _ _ h => h.elim)).trans k2 (fun b' o' hb' hh => by have := hh.1; omega)⟩
  rintro i hi hh
  have := hh.1
  omega
theorem alloc_size' (w : World) (o : Obj) : (w.alloc o).heap.size = w.heap.size + 1 := by
  show (w.heap.push _).size = _
  simp
set_option maxHeartbeats 4000000 in
theorem nat_fresh (p n : Nat) (w : World) (h : Stk w p none) (hn0 : 4 < n) (hn : n < 68719476736) :
    Calls Tryz.prog 169 #[.pointer (some ⟨p, 0, none⟩), .int .i64 (n : Int)] w (NatPost w p none n) := by
  have H := Lib.hid h
  obtain ⟨h1, h2⟩ := h
  have hpl := lt_of_cell h1
  have j0 : decide ((n : Int) ≤ 4) = false := by simp; omega
  obtain ⟨W, hW⟩ : ∃ W, W = (w.setCell ⟨p, 0, none⟩ (.pointer (some ⟨w.heap.size, 0, none⟩))).alloc (.cells #[.slice none 0 0] 257) := ⟨_, rfl⟩
  have q1 : W.cell? ⟨w.heap.size, 0, none⟩ = some (.slice none 0 0) := by
    rw [hW]
    have := cell?_alloc_new (w.setCell ⟨p, 0, none⟩ (.pointer (some ⟨w.heap.size, 0, none⟩))) #[.slice none 0 0] 257 0 _ rfl
    rwa [World.size_setCell] at this
  have q2 : W.frozen? ⟨w.heap.size, 0, none⟩ = false := by
    rw [hW]
    have := frozen?_alloc_new (w.setCell ⟨p, 0, none⟩ (.pointer (some ⟨w.heap.size, 0, none⟩))) #[.slice none 0 0] 257 0
    rwa [World.size_setCell] at this
  have kW0 : Chg (zRow p 0 1) w (w.setCell ⟨p, 0, none⟩ (.pointer (some ⟨w.heap.size, 0, none⟩))) := chg_cell _ _ _ _
  have kW1 : Chg zNone (w.setCell ⟨p, 0, none⟩ (.pointer (some ⟨w.heap.size, 0, none⟩))) W := by rw [hW]; exact (Chg.refl _ _).alloc _
  have q3 : W.cell? ⟨p, 0, none⟩ = some (.pointer (some ⟨w.heap.size, 0, none⟩)) := kW1.cell (cs_same h1) (fun h => h)
  have q4 : W.frozen? ⟨p, 0, none⟩ = false := (kW1.frozen (cs_same h1) _).trans (by rw [fz_set]; exact h2)
  have hWs : W.heap.size = w.heap.size + 1 := by rw [hW, alloc_size', World.size_setCell]
  have HI := Lib.hid (inner_any w.heap.size none 0 0 n W q1 q2 (Nat.le_refl _) (Or.inl ⟨rfl, rfl⟩) (fun b o e => by cases e) (by omega) hn (by omega))
  have HK := Lib.hid (And.intro (kW0.trans kW1 (fun _ _ _ h => h.elim)) (And.intro q3 (And.intro q4 (And.intro q1 q2))))
  rw [hW] at HI
  have HW := Lib.hid hW
  clear q1 q2 q3 q4 kW0 kW1 hW
  go_enter Tryz.func169, Tryz.ntmps169
  go_wp2_with fail
  refine HI.out.mono ?_
  rw [← HW.out]
  rintro e w1 ⟨b, o, c', rfl, g1, g2, g3, g4, g5⟩
  have HQ := Lib.hid (And.intro g1 (And.intro g2 (And.intro g3 (And.intro g4 g5))))
  clear g1 g2 g3 g4 g5
  go_wp2
  go_ret
  obtain ⟨g1, g2, g3, g4, g5⟩ := HQ.out
  obtain ⟨k0, q3, q4, q1, q2⟩ := HK.out
  have hu := up4_ge n
  have hb : w.heap.size + 1 ≤ b := by
    rcases g4 with ⟨e, _⟩ | ⟨b2, o2, e, hb2⟩
    · cases e
    · injection e with e; injection e with e1 _; omega
  have hpz : ¬ (zRow w.heap.size 0 1 p 0 ∨ ∃ po, (none : Option Addr) = some ⟨p, po, none⟩ ∧ po + 0 ≤ 0 ∧ 0 < po + 0) := by
    rintro (h | ⟨po, e, _⟩)
    · have := h.1; omega
    · cases e
  have hz3 : ZOK w1 (some ⟨b, o + 0, none⟩) n := by
    rcases g3 with ⟨h, _⟩ | ⟨b2, o2, e, hp, hr, hc⟩
    · cases h
    · injection e with e; injection e with e1 e2; subst e1; subst e2
      exact Or.inr ⟨b, o + 0, rfl, hp, hr.drop 0 n (by omega), by omega⟩
  refine ⟨some ⟨w.heap.size, some ⟨b, o, none⟩, 0 + up4 n, c'⟩, b, o + 0, n, rfl, Nat.le_refl _, ⟨⟨g5.cell q3 hpz, (g5.frozen q3 _).trans q4⟩, ⟨g1, (g5.frozen q1 _).trans q2⟩, g2, g3, by simp only; omega, fun b' o' e => ?_⟩, ⟨Nat.le_refl _, Or.inr ⟨b, o, rfl, by omega⟩⟩, ?_, hz3, by omega, ?_, ?_, fun i hi hb' => by omega, k0.trans g5 (fun b' o' hb' hh => ?_)⟩
  · simp only at e ⊢; injection e with e; injection e with e1 _; exact ⟨by omega, by omega⟩
  · simp only [stkL]; omega
  · intro s e; injection e with e; rw [← e]; simp only; omega
  · rintro i hi (hh | hh | ⟨po, e, h9, h10⟩)
    · have := hh.1; omega
    · have := hh.1; simp only at this; omega
    · simp only at e h9; injection e with e; injection e with _ e2; omega
  · rcases hh with hh | ⟨po, e, _⟩
    · have := hh.1; omega
    · cases e
theorem nat_any (p : Nat) (d : Option SD) (n : Nat) (w : World) (h : Stk w p d) (hn0 : 0 < n) (hn : n < 68719476736) (hL : stkL d < 274877906944) :
    Calls Tryz.prog 169 #[.pointer (some ⟨p, 0, none⟩), .int .i64 (n : Int)] w (NatPost w p d n) := by
  cases d with
  | some s => exact nat_inner p s n w h hn0 hn hL
  | none =>
    by_cases h4 : n ≤ 4
    · exact nat_small p n w h hn0 h4
    · exact nat_fresh p n w h (by omega) hn
theorem free_d (p : Nat) (d : Option SD) (u : FrameMode) (w : World) (h : Stk w p d) :
    CallsD Tryz.prog 101 #[.pointer (some ⟨p, 0, none⟩)] u w fun e u' w' => u' = u ∧ (e = .returned (.tuple #[]) ∧ RestPost w p d 0 w') := by
  cases d with
  | none =>
    have H := Lib.hid h
    obtain ⟨h1, h2⟩ := h
    go_enter_d Tryz.func101, Tryz.ntmps101
    go_wp2
    go_end0
    exact ⟨rfl, none, H.out, rfl, Chg.refl _ _⟩
  | some d =>
    obtain ⟨q, a, L, c⟩ := d
    have H := Lib.hid h
    obtain ⟨⟨h1, h2⟩, ⟨h3, h4⟩, h5, h6, h7, h8⟩ := h
    simp only [stkL] at h1 h2 h3 h4 h5
    have hq1 : (0 : Int) ≤ (c : Int) := by omega
    clear h6 h7 h8
    go_enter_d Tryz.func101, Tryz.ntmps101
    go_wp2
    go_end0
    go_wp2
    go_end0
    refine ⟨rfl, some ⟨q, a, 0, c⟩, ?_, rfl, chg_cell _ _ _ _⟩
    obtain ⟨⟨h1, h2⟩, ⟨h3, h4⟩, h5, h6, h7, h8⟩ := H.out
    have kk := chg_cell w q 0 (.slice a 0 c)
    refine ⟨⟨kk.cell h1 (fun h => h7 h.1.symm), by rw [fz_set]; exact h2⟩, ⟨cs_same h3, by rw [fz_set]; exact h4⟩, Nat.zero_le _, h6.chg kk ?_, h7, h8⟩
    rintro b o ⟨po, e, _⟩ hh
    exact (h8 b po e).2 hh.1
theorem top_zero {D : Nat → Int} {n : Nat} (h : WF D (n + 1)) (hlt : val D (n + 1) < BB ^ n) : D n = 0 ∧ val D n = val D (n + 1) := by
  have e2 : val D (n + 1) = val D n + BB ^ n * D n := by rw [val_add, val_one]; rfl
  have a1 := val_nonneg (h.le (show n ≤ n + 1 by omega))
  have a2 := (h n (by omega)).1
  have h0 : D n = 0 := by
    by_cases hz : D n = 0
    · exact hz
    · have := Int.mul_le_mul_of_nonneg_left (show 1 ≤ D n by omega) (Int.le_of_lt (BBn_pos n))
      omega
  rw [h0] at e2
  exact ⟨h0, by omega⟩
def DMid (wr : World) (bq oq bu ou bh oh m n j : Nat) (U' V : Nat → Int) (wc : World) : Prop :=
  ∃ U2 : Nat → Int, (∀ i, i < m + n + 1 → i < j ∨ j + n < i → U2 i = U' i) ∧ WF (fun i => U2 (j + i)) n ∧ U2 (j + n) = 0 ∧ val (fun i => U2 (j + i)) n = val (fun i => U' (j + i)) (n + 1) % val V n ∧ U2 (m + n) = 0 ∧ Words wc bu ou (m + n) U2 ∧ Free wc bu ou (m + n) ∧
    Room wc bh oh (n + 1) ∧ Chg (fun b o => zRow bu ou (m + n) b o ∨ zRow bh oh (n + 1) b o) wr wc
def zWin (bu ou bh oh m n j : Nat) : Zone := fun b o => (b = bu ∧ ou + j ≤ o ∧ o < ou + j + n + 1 ∧ o < ou + (m + n)) ∨ zRow bh oh (n + 1) b o
theorem mid_of {wr wc : World} {bq oq bu ou bh oh m n j : Nat} {U' V E : Nat → Int} (hU : Words wr bu ou (m + n) U') (hUf : Free wr bu ou (m + n)) (hR : Room wc bh oh (n + 1)) (hU0 : U' (m + n) = 0) (hj : j ≤ m)
    (hhu : ∀ i j, i < n + 1 → j < m + n → ¬ (bh = bu ∧ oh + i = ou + j)) (k : Chg (zWin bu ou bh oh m n j) wr wc) (hE : Words wc bu (ou + j) n E) (hEw : WF E n) (hEv : val E n = val (fun i => U' (j + i)) (n + 1) % val V n)
    (ht : j < m → wc.cell? ⟨bu, ou + j + n, none⟩ = some (.int .u64 0)) : DMid wr bq oq bu ou bh oh m n j U' V wc := by
  obtain ⟨U2, hU2⟩ : ∃ f : Nat → Int, f = fun i => if i < j then U' i else if i < j + n then E (i - j) else if i = j + n then 0 else U' i := ⟨_, rfl⟩
  have w1 : ∀ i, i < n → U2 (j + i) = E i := fun i hi => by
    rw [hU2]; simp only
    rw [if_neg (by omega), if_pos (by omega)]; congr 1; omega
  have w2 : U2 (j + n) = 0 := by
    rw [hU2]; simp only
    rw [if_neg (by omega), if_neg (by omega)]; simp
  have w3 : ∀ i, i < j ∨ j + n < i → U2 i = U' i := fun i hi => by
    rw [hU2]; simp only
    rcases hi with h | h
    · rw [if_pos h]
    · rw [if_neg (by omega), if_neg (by omega), if_neg (by omega)]
  refine ⟨U2, fun i _ h => w3 i h, fun i hi => by show U64 (U2 (j + i)); rw [w1 i hi]; exact hEw i hi, w2, ?_, ?_, fun i hi => ?_, fun i hi => by rw [k.frozen (hU i hi)]; exact hUf i hi, hR, k.mono ?_⟩
  · rw [val_congr (fun i hi => w1 i hi)]; exact hEv
  · by_cases e : j = m
    · subst e; exact w2
    · rw [w3 _ (Or.inr (by omega))]; exact hU0
  · by_cases h1 : i < j ∨ j + n < i
    · rw [w3 i h1]
      refine k.cell (hU i hi) ?_
      rintro (⟨_, h2, h3, _⟩ | ⟨h2, h3, h4⟩)
      · omega
      · exact hhu (ou + i - oh) i (by omega) hi ⟨h2.symm, by omega⟩
    · by_cases h2 : i = j + n
      · subst h2
        rw [w2]
        have := ht (by omega)
        rwa [show ou + j + n = ou + (j + n) by omega] at this
      · have := hE (i - j) (by omega)
        rw [show ou + j + (i - j) = ou + i by omega] at this
        rw [show i = j + (i - j) by omega, w1 _ (by omega)]
        rw [show ou + (j + (i - j)) = ou + i by omega]
        exact this
  · rintro b o _ (⟨h1, h2, h3, h4⟩ | h)
    · exact Or.inl ⟨h1, by omega, h4⟩
    · exact Or.inr h
theorem val_upd_top {Z : Nat → Int} {n : Nat} {c : Int} : val (upd Z n c) (n + 1) = val Z n + c * BB ^ n := by
  rw [val_add, val_one, val_congr (X := upd Z n c) (Y := Z) (fun i hi => upd_other Z c (by omega))]
  simp only [Nat.add_zero, upd_same]
  rw [Int.mul_comm]
theorem wf_upd_top {Z : Nat → Int} {n : Nat} {c : Int} (h : WF Z n) (hc : U64 c) : WF (upd Z n c) (n + 1) := fun i hi => by
  by_cases e : i = n
  · subst e; rw [upd_same]; exact hc
  · rw [upd_other Z c e]; exact h i (by omega)
structure SubCtx (wr W : World) (bu ou bh oh n j : Nat) (U' V P : Nat → Int) (q : Int) : Prop where
  k : Chg (zRow bh oh (n + 1)) wr W
  hP : Words W bh oh (n + 1) P
  wP : WF P (n + 1)
  vP : val P (n + 1) = val V n * q
  hY : Words W bu (ou + j) (n + 1) (fun i => U' (j + i))
  wY : WF (fun i => U' (j + i)) (n + 1)
  rY : Room W bu (ou + j) (n + 1)
  rh : Room W bh oh (n + 1)
theorem subctx_of {wr w2 : World} {bu ou bh oh m n j k : Nat} {U' V Z : Nat → Int} {q c : Int} (hU : Words wr bu ou (m + n) U') (hUf : Free wr bu ou (m + n)) (hUw : WF U' (m + n + 1)) (hR : Room wr bh oh (n + 1)) (hj : j < m)
    (hhu : ∀ i j, i < n + 1 → j < m + n → ¬ (bh = bu ∧ oh + i = ou + j)) (h1 : Chg (zRow bh oh n) (wr.drewN k) w2) (h2 : Words w2 bh oh n Z) (h3 : WF Z n) (h4 : U64 c) (h5 : val Z n + c * BB ^ n = val V n * q + 0) (hz : (w2.cell? ⟨bh, oh + n, none⟩).isSome = true) :
    SubCtx wr (w2.setCell ⟨bh, oh + n, none⟩ (.int .u64 c)) bu ou bh oh n j U' V (upd Z n c) q := by
  have hks : Chg (zRow bh oh (n + 1)) wr (w2.setCell ⟨bh, oh + n, none⟩ (.int .u64 c)) := (((Chg.refl _ wr).drewN k).trans h1 (fun b o _ hh => ⟨hh.1, by have := hh.2.1; omega, by have := hh.2.2; omega⟩)).setCell bh (oh + n) _ (fun _ => ⟨rfl, by omega, by omega⟩)
  have hYd := hU.drop j (n + 1) (by omega)
  have hYw := hYd.chg hks (fun i hi hh => by
    obtain ⟨g1, g2, g3⟩ := hh
    exact hhu (ou + j + i - oh) (j + i) (by omega) (by omega) ⟨g1.symm, by omega⟩)
  have hPw : Words (w2.setCell ⟨bh, oh + n, none⟩ (.int .u64 c)) bh oh (n + 1) (upd Z n c) := h2.snoc hz
  refine ⟨hks, hPw, wf_upd_top h3 h4, by rw [val_upd_top]; omega, hYw, fun i hi => hUw _ (by omega), hYw.room (fun i hi => ?_), hPw.room (fun i hi => ?_)⟩
  · rw [hks.frozen (hYd i hi)]
    have := hUf (j + i) (by omega)
    rwa [← Nat.add_assoc] at this
  · obtain ⟨⟨y, hy⟩, hf⟩ := hR i hi
    rw [hks.frozen hy]; exact hf
theorem SubCtx.drew {wr W : World} {bu ou bh oh n j : Nat} {U' V P : Nat → Int} {q : Int} (h : SubCtx wr W bu ou bh oh n j U' V P q) : SubCtx wr W.drew bu ou bh oh n j U' V P q := by
  have kd : Chg zNone W W.drew := (Chg.refl _ _).drew
  exact ⟨h.k.drew, h.hP.chg kd (fun _ _ h => h), h.wP, h.vP, h.hY.chg kd (fun _ _ h => h), h.wY, h.rY.chg kd (fun _ _ h => h), h.rh.chg kd (fun _ _ h => h)⟩
theorem SubCtx.fwd {wr W : World} {bu ou bh oh n j m : Nat} {U' V P : Nat → Int} {q : Int} (_ : SubCtx wr W bu ou bh oh n j U' V P q) (hj : j < m) (hhu : ∀ i j, i < n + 1 → j < m + n → ¬ (bh = bu ∧ oh + i = ou + j)) : bh ≠ bu ∨ ou + j ≤ oh ∨ oh + (n + 1) ≤ ou + j := by
  by_cases e : bh = bu
  · refine Or.inr ?_
    by_cases h1 : ou + j ≤ oh
    · exact Or.inl h1
    · by_cases h2 : oh + (n + 1) ≤ ou + j
      · exact Or.inr h2
      · exact absurd ⟨e, by omega⟩ (hhu (ou + j - oh) j (by omega) (by omega))
  · exact Or.inl e
theorem sub_good {U' V D : Nat → Int} {n j : Nat} {q cb vP : Int} (hV : WF V n) (hVp : 0 < val V n) (hD : WF D (n + 1)) (hcb : 0 ≤ cb ∧ cb ≤ 1) (hvP : vP = val V n * q) (h : val D (n + 1) - cb * BB ^ (n + 1) = val (fun i => U' (j + i)) (n + 1) - vP) (hq : q = val (fun i => U' (j + i)) (n + 1) / val V n) :
    cb = 0 ∧ D n = 0 ∧ val D n = val (fun i => U' (j + i)) (n + 1) % val V n := by
  have hVl := val_lt hV
  have hB : val V n ≤ BB ^ (n + 1) := by
    rw [BB_succ]
    have := Int.mul_le_mul_of_nonneg_left (show (1 : Int) ≤ BB by decide) (Int.le_of_lt (BBn_pos n))
    omega
  obtain ⟨g1, g2⟩ := digit_good (W := val (fun i => U' (j + i)) (n + 1)) (V := val V n) (q := q) (c := cb) (Y := val D (n + 1)) (B1 := BB ^ (n + 1)) hq hVp hB (val_nonneg hD) (val_lt hD) hcb (by rw [h, hvP, Int.mul_comm (val V n) q])
  have g3 := Int.emod_lt_of_pos (val (fun i => U' (j + i)) (n + 1)) hVp
  obtain ⟨g4, g5⟩ := top_zero hD (by omega)
  exact ⟨g1, g4, by omega⟩
theorem sub_over {U' V D E : Nat → Int} {n j : Nat} {q cb vP c2 : Int} (hV : WF V n) (hVp : 0 < val V n) (hD : WF D (n + 1)) (hcb : 0 ≤ cb ∧ cb ≤ 1) (hvP : vP = val V n * q) (h : val D (n + 1) - cb * BB ^ (n + 1) = val (fun i => U' (j + i)) (n + 1) - vP) (hq : q = val (fun i => U' (j + i)) (n + 1) / val V n + 1) :
    cb = 1 ∧ (WF E n → 0 ≤ c2 ∧ c2 ≤ 1 → val E n + c2 * BB ^ n = val D n + val V n → val E n = val (fun i => U' (j + i)) (n + 1) % val V n ∧ (D n + c2) % BB = 0) := by
  have hVl := val_lt hV
  have hB : val V n ≤ BB ^ (n + 1) := by
    rw [BB_succ]
    have := Int.mul_le_mul_of_nonneg_left (show (1 : Int) ≤ BB by decide) (Int.le_of_lt (BBn_pos n))
    omega
  obtain ⟨g1, g2⟩ := digit_over (W := val (fun i => U' (j + i)) (n + 1)) (V := val V n) (q := q) (c := cb) (Y := val D (n + 1)) (B1 := BB ^ (n + 1)) hq hVp hB (val_nonneg hD) (val_lt hD) hcb (by rw [h, hvP, Int.mul_comm (val V n) q])
  refine ⟨g1, fun hE hc hs => ?_⟩
  have g3 := Int.emod_lt_of_pos (val (fun i => U' (j + i)) (n + 1)) hVp
  have g4 := Int.emod_nonneg (val (fun i => U' (j + i)) (n + 1)) (show val V n ≠ 0 by omega)
  have e2 : val D (n + 1) = val D n + BB ^ n * D n := by rw [val_add, val_one]; rfl
  have key := digit_back (Yl := val D n) (Yt := D n) (V := val V n) (Zl := val E n) (c2 := c2) (Zt := (D n + c2) % BB) (Bn := BB ^ n) (R := val (fun i => U' (j + i)) (n + 1) % val V n) (BBn_pos n) hs (val_nonneg hE) (val_lt hE) hc (hD n (by omega)) rfl g4 (by omega)
    (by rw [← g2, e2, BB_succ, Int.mul_comm (D n), Int.mul_comm BB])
  exact key
end Go.Proofs.YtmgfajamanakcaaGreatDoor
