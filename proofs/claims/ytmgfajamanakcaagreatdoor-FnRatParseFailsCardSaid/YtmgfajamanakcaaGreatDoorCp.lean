/-
  copy of words: the law for the walk; nat.set. Conditions: lengths below 2^40.
-/
import Derived.Test.YtmgfajamanakcaaGreatDoorAp
import Derived.Laws.IdiomCopy
namespace Go.Proofs.YtmgfajamanakcaaGreatDoor
open Go.RowKit
set_option maxRecDepth 100000
set_option linter.unusedVariables false
theorem chg_setCells (b : Nat) : ∀ (vs : List Value) (o : Nat) (w : World), Chg (zRow b o vs.length) w (w.setCells b o vs)
  | [], _, w => Chg.refl _ w
  | v :: r, o, w => by
    have h1 : Chg (zRow b o (v :: r).length) w (w.setCell ⟨b, o, none⟩ v) := (Chg.refl _ _).setCell b o v (fun _ => ⟨rfl, Nat.le_refl _, by simp⟩)
    exact h1.trans (chg_setCells b r (o + 1) _) (fun b' o' _ ⟨e1, e2, e3⟩ => ⟨e1, by omega, by simp; omega⟩)
theorem words_setCells (b o n : Nat) (X : Nat → Int) (w : World) (h : ∀ j, j < n → (w.cell? ⟨b, o + j, none⟩).isSome = true) : Words (w.setCells b o (wordVals X n)) b o n X := fun i hi => by
  have := World.cell?_setCells_in b (wordVals X n) o w (fun j hj => h j (by rwa [wordVals_length] at hj)) i (by rw [wordVals_length]; exact hi)
  rw [this]
  simp [wordVals]
theorem room_setCells (b o n : Nat) (X : Nat → Int) (b' o' m : Nat) (w : World) (h : Room w b' o' m) : Room (w.setCells b o (wordVals X n)) b' o' m := by
  have key : ∀ (l : List Value) (o : Nat) (w : World), (∀ v ∈ l, ∃ x : Int, v = .int .u64 x) → Room w b' o' m → Room (w.setCells b o l) b' o' m := by
    intro l
    induction l with
    | nil => intro o w _ h; exact h
    | cons v r ih =>
      intro o w hv h
      obtain ⟨x, rfl⟩ := hv v (by simp)
      exact ih (o + 1) _ (fun u hu => hv u (by simp [hu])) (h.setInt b o x)
  refine key _ _ _ (fun v hv => ?_) h
  simp only [wordVals, List.mem_map] at hv
  obtain ⟨i, _, rfl⟩ := hv
  exact ⟨_, rfl⟩
theorem size153 : (Tryz.prog.info? 153).map (·.size) = some 1 := by kernel_rfl
/-- A copy of words: all are read ahead of the first one written. -/
theorem run_copy_word (t1 t2 ty : TypeId) (hu : Tryz.prog.underlying t1 = some (.slice 153)) (b o nd cd : Nat) (sa : Option Addr) (ns cs n : Nat) (X : Nat → Int) (W : World) (hn : n = Nat.min ns nd) (hz : Room W b o n) (hr : Rd W sa n X) :
    ∃ W', (Builtin.copy_ #[t1, t2] ty #[.slice (some ⟨b, o, none⟩) nd cd, .slice sa ns cs]).run Tryz.prog W = .ok (.int .i64 n) W' ∧ Chg (zRow b o n) W W' ∧ Words W' b o n X ∧ (∀ b' o' m, Room W b' o' m → Room W' b' o' m) := by
  rcases hr with rfl | ⟨bs, os, rfl, hw⟩
  · exact ⟨W, run_copy_none W t1 t2 ty 153 _ sa nd cd ns cs hu size153 hn.symm, Chg.refl _ _, fun i hi => by omega, fun _ _ _ h => h⟩
  · have hrun := run_copy_cells (P := Tryz.prog) W t1 t2 ty 153 b o nd cd ⟨bs, os, none⟩ ns cs (wordVals X n) hu size153 (by rw [wordVals_length]; exact hn)
      (fun j v h => by
        obtain ⟨hj, rfl⟩ := wordVals_get X n j v h
        have := hw j hj
        by_cases h0 : j = 0
        · subst h0; simpa [Addr.add] using this
        · simpa [Addr.add, h0] using this)
      (fun j hj => by
        obtain ⟨⟨y, hy⟩, _⟩ := hz j (by rwa [wordVals_length] at hj)
        rw [hy]; rfl)
      (fun j hj => (hz j (by rwa [wordVals_length] at hj)).2)
      (fun v hv => by
        simp only [wordVals, List.mem_map] at hv
        obtain ⟨i, _, rfl⟩ := hv
        rfl)
    rw [wordVals_length] at hrun
    refine ⟨_, hrun, ?_, words_setCells b o n X W (fun j hj => ?_), fun _ _ _ h => room_setCells b o n X _ _ _ _ h⟩
    · have := chg_setCells b (wordVals X n) o W
      rwa [wordVals_length] at this
    · obtain ⟨⟨y, hy⟩, _⟩ := hz j hj
      rw [hy]; rfl
/-- The walk's law: a copy of words. -/
theorem wpList_copy_word {ops : Array Oper} {rest : List Oper} {op : Oper} {act : Act} {w : World} {Q : Exit → Act → World → Prop} (hgd : op.guard = none) (d s : Operand) (t1 t2 : TypeId)
    (ho : op.op = .call { callee := .builtin .copy, args := #[d, s], argTypes := #[t1, t2] }) (hu : Tryz.prog.underlying t1 = some (.slice 153))
    (b o nd cd : Nat) (sa : Option Addr) (ns cs n : Nat) (X : Nat → Int) (hd : act.eval d = .slice (some ⟨b, o, none⟩) nd cd) (hs : act.eval s = .slice sa ns cs)
    (hn : n = Nat.min ns nd) (hz : Room w b o n) (hr : Rd w sa n X)
    (h : ∀ w', Chg (zRow b o n) w w' ∧ Words w' b o n X ∧ (∀ b' o' m, Room w b' o' m → Room w' b' o' m) → wpList Tryz.prog ops Q rest (act.put op.dst (.int .i64 n)) w') : wpList Tryz.prog ops Q (op :: rest) act w :=
  wpList_plain hgd fun K hK => by
    obtain ⟨w', hrun, h2⟩ := run_copy_word t1 t2 op.type hu b o nd cd sa ns cs n X w hn hz hr
    unfold Oper.wp execOp
    simp only [ho, resolve, invoke, builtin, Sem.run_bind, Sem.run_pure, Result.andThen_ok, List.map_toArray, List.map_cons, List.map_nil, hd, hs, hrun]
    exact hK _ _ (h w' h2)
/-- Nothing to copy. -/
theorem wpList_copy_zero {ops : Array Oper} {rest : List Oper} {op : Oper} {act : Act} {w : World} {Q : Exit → Act → World → Prop} (hgd : op.guard = none) (d s : Operand) (t1 t2 : TypeId)
    (ho : op.op = .call { callee := .builtin .copy, args := #[d, s], argTypes := #[t1, t2] }) (hu : Tryz.prog.underlying t1 = some (.slice 153))
    (da : Option Addr) (nd cd : Nat) (sa : Option Addr) (ns cs : Nat) (hd : act.eval d = .slice da nd cd) (hs : act.eval s = .slice sa ns cs)
    (hn : Nat.min ns nd = 0) (h : wpList Tryz.prog ops Q rest (act.put op.dst (.int .i64 0)) w) : wpList Tryz.prog ops Q (op :: rest) act w :=
  wpList_plain hgd fun K hK => by
    have hrun := run_copy_none (P := Tryz.prog) w t1 t2 op.type 153 da sa nd cd ns cs hu size153 hn
    unfold Oper.wp execOp
    simp only [ho, resolve, invoke, builtin, Sem.run_bind, Sem.run_pure, Result.andThen_ok, List.map_toArray, List.map_cons, List.map_nil, hd, hs, hrun]
    exact hK _ _ h
def SetRes (w : World) (az : Option Addr) (zc n : Nat) (X : Nat → Int) (e : Ending) (w' : World) : Prop :=
  ∃ a c, e = .returned (.slice a n c) ∧ n ≤ c ∧ ZOK w' a c ∧ Rd w' a n X ∧ Home w az zc a c ∧ Chg (zAddr az zc) w w'
set_option maxHeartbeats 2000000 in
theorem set_any (az ax : Option Addr) (zl zc xn xc : Nat) (X : Nat → Int) (w : World) (hz : ZOK w az zc) (hx : Rd w ax xn X) (hxc : xn ≤ xc) (hxn : xn < 1099511627776) :
    Calls Tryz.prog 77 #[.slice az zl zc, .slice ax xn xc] w (SetRes w az zc xn X) := by
  have Hz := Lib.hid hz
  have Hx := Lib.hid hx
  clear hz hx
  go_enter Tryz.func77, Tryz.ntmps77
  go_wp2_with fail
  refine (make_any az zl zc xn _ Hz.out (by omega)).mono ?_
  rintro e w1 ⟨a, c, rfl, h1, h2, h3, h4⟩
  have H := Lib.hid (And.intro h1 (And.intro h2 (And.intro h3 h4)))
  clear h1 h2 h3 h4
  by_cases h0 : xn = 0
  · subst h0
    go_wp2_with (with_reducible refine wpList_copy_zero rfl (.tmp 9) (.tmp 10) 120 120 rfl Tryz.underlying120 a 0 c ax 0 xc rfl rfl rfl ?_)
    go_ret
    exact ⟨a, c, rfl, Nat.zero_le _, H.out.2.1, Or.inl rfl, H.out.2.2.1, H.out.2.2.2.mono (fun _ _ _ h => h.elim)⟩
  · obtain ⟨b, o, rfl, hb, hroom⟩ := H.out.2.1.room (by have := H.out.1; omega)
    have Hx1 : Hid (Rd w1 ax xn X) := by
      rcases Hx.out with h | ⟨bx, ox, e, hw⟩
      · exact Or.inl h
      · exact Or.inr ⟨bx, ox, e, hw.chg H.out.2.2.2 (fun _ _ h => h.elim)⟩
    have Hroom := Lib.hid hroom
    clear hroom
    go_wp2_with (with_reducible refine wpList_copy_word rfl (.tmp 9) (.tmp 10) 120 120 rfl Tryz.underlying120 b o xn c ax xn xc xn X rfl rfl (Nat.min_self xn).symm (Hroom.out.le (by have := H.out.1; omega)) Hx1.out ?_; rintro w2 hw2; have HW := Lib.hid hw2; clear hw2)
    go_ret
    obtain ⟨q1, q2, q3⟩ := HW.out
    refine ⟨some ⟨b, o, none⟩, c, rfl, H.out.1, Or.inr ⟨b, o, rfl, hb.chg q1, q3 _ _ _ Hroom.out, H.out.2.1.cap⟩, Or.inr ⟨b, o, rfl, q2⟩, H.out.2.2.1, ?_⟩
    exact (H.out.2.2.2.mono (Z' := zAddr az zc) (fun _ _ _ h => h.elim)).trans q1 (fun bb oo hbb ⟨e1, e2, e3⟩ => H.out.2.2.1.zone bb oo hbb ⟨o, by rw [e1], e2, by have := H.out.1; omega⟩)
end Go.Proofs.YtmgfajamanakcaaGreatDoor
