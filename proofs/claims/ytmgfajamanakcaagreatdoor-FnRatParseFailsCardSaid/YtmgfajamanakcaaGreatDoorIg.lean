/-
  Int's small functions, walked: Set and Abs into a new Int, NewInt(0), Sign, Bits; Num and Denom; getStack and its deferred free. Conditions: the cells as IntC says.
-/
import Derived.Test.YtmgfajamanakcaaGreatDoorIc
import Derived.Test.YtmgfajamanakcaaGreatDoorCm
import Derived.Defers
import Derived.Laws.Pointers
import Derived.Outline
namespace Go.Proofs.YtmgfajamanakcaaGreatDoor
open Go.RowKit
set_option maxRecDepth 100000
set_option linter.unusedVariables false
theorem info122 : (Tryz.prog.info? 122).map (·.size) = some 2 := by kernel_rfl
theorem int_ptr_ne (w : World) {b o b' o' : Nat} (h : PB w b) (h' : PB w b') (hB : ¬ (b = b' ∧ o = o')) :
    (binOp .neq 130 (.pointer (some ⟨b, o, none⟩)) (.pointer (some ⟨b', o', none⟩))).run Tryz.prog w = .ok (.bool true) w := by
  cases hi : Tryz.prog.info? 122 with
  | none => have := info122; rw [hi] at this; cases this
  | some i =>
    have hs : i.size = 2 := by have := info122; rw [hi] at this; simpa using this
    obtain ⟨cs, t, h⟩ := h
    obtain ⟨cs', t', h'⟩ := h'
    have e := run_eql_ptr_other w Tryz.underlying130 hi (by omega) (fun (e : (⟨b, o, none⟩ : Addr) = ⟨b', o', none⟩) => hB (by injection e with e1 e2; exact ⟨e1, e2⟩)) h h'
    simp only [binOp] at e ⊢
    cases hh : (Op.equal 130 (.pointer (some ⟨b, o, none⟩)) (.pointer (some ⟨b', o', none⟩))).run Tryz.prog w with
    | ok v w1 => simp [hh, Result.andThen] at e ⊢; exact ⟨by rw [e.1], e.2⟩
    | _ => simp [hh, Result.andThen] at e
theorem no_zone {b o : Nat} : ¬ zAddr none 0 b o := by rintro ⟨p, e, _⟩; cases e
/-- What Set leaves in a new Int: x's words, in fresh memory. -/
def SetNew (w : World) (zb zo : Nat) (neg : Bool) (xn : Nat) (X : Nat → Int) (e : Ending) (w' : World) : Prop :=
  ∃ a c, e = .returned (.pointer (some ⟨zb, zo, none⟩)) ∧ IntC w' zb zo neg a xn c ∧ xn ≤ c ∧ ZOK w' a c ∧ Fresh w a ∧ Rd w' a xn X ∧ Chg (zRow zb zo 2) w w'
theorem rd_far {w w' : World} {a : Option Addr} {n : Nat} {X : Nat → Int} {Z : Zone} (h : Rd w a n X) (k : Chg Z w w') (hz : ∀ b o i, a = some ⟨b, o, none⟩ → i < n → ¬ Z b (o + i)) : Rd w' a n X := by
  rcases h with h | ⟨b, o, e, hw⟩
  · exact Or.inl h
  · exact Or.inr ⟨b, o, e, hw.chg k (fun i hi => hz b o i e hi)⟩
theorem fresh_far {w0 : World} {a : Option Addr} {b zb : Nat} (h : Fresh w0 a) (hzb : zb < w0.heap.size) {o : Nat} (e : a = some ⟨b, o, none⟩) : b ≠ zb := by
  rcases h with h | ⟨b', o', h, hb⟩
  · rw [h] at e; cases e
  · rw [h] at e; injection e with e; injection e with e1 _; omega
def SetCut (w : World) (zb zo : Nat) (neg : Bool) (xn : Nat) (X : Nat → Int) (s17 : Value) (wc : World) : Prop :=
  ∃ a c, s17 = .slice a xn c ∧ Hid (IntC wc zb zo neg a xn c ∧ xn ≤ c ∧ ZOK wc a c ∧ Fresh w a ∧ Rd wc a xn X ∧ Chg (zRow zb zo 2) w wc)
theorem setcut_of {w w1 : World} {zb zo xn c : Nat} {zneg : Bool} {a : Option Addr} {X : Nat → Int} (hz : IntC w zb zo zneg none 0 0) (h1 : xn ≤ c) (h2 : ZOK w1 a c) (h3 : Rd w1 a xn X) (h4 : Home w.drew none 0 a c) (h50 : Chg (zAddr none 0) w.drew w1) :
    SetCut w zb zo zneg xn X (.slice a xn c) (w1.setCell ⟨zb, zo + 1, none⟩ (.slice a xn c)) := by
  have hlt := hz.lt
  have h5 : Chg (zAddr none 0) w w1 := ((Chg.refl (zAddr none 0) w).drew).trans h50 (fun _ _ _ h => h)
  have hz1 : IntC w1 zb zo zneg none 0 0 := hz.chg h5 (fun _ _ => no_zone)
  have hf : Fresh w a := by
    rcases h4 with ⟨h, _⟩ | h
    · exact Or.inl h
    · exact Or.inr h
  have k := chg_cell w1 zb (zo + 1) (.slice a xn c)
  refine ⟨a, c, rfl, hz1.abs, h1, h2.chg k ?_, hf, rd_far h3 k ?_, (h5.mono (fun _ _ _ h => (no_zone h).elim)).setCell _ _ _ (fun _ => ⟨rfl, by omega, by omega⟩)⟩
  · rintro b o ⟨p, e, _⟩ hh
    exact fresh_far hf hlt e hh.1
  · rintro b o i e _ hh
    exact fresh_far hf hlt e hh.1
set_option maxHeartbeats 2000000 in
theorem Set_new (zb zo xb xo : Nat) (zneg neg : Bool) (ax : Option Addr) (xn xc : Nat) (X : Nat → Int) (w : World) (hz : IntC w zb zo zneg none 0 0) (hx : IntC w xb xo neg ax xn xc) (hr : Rd w ax xn X) (hxc : xn ≤ xc) (hxn : xn < 1099511627776)
    (hpz : PB w zb) (hpx : PB w xb) (hne : ¬ (zb = xb ∧ zo = xo)) (hsep : ∀ o, o < 2 → ¬ zRow zb zo 2 xb (xo + o)) :
    Calls Tryz.prog 151 #[.pointer (some ⟨zb, zo, none⟩), .pointer (some ⟨xb, xo, none⟩)] w (SetNew w zb zo neg xn X) := by
  have hp := int_ptr_ne w hpz hpx hne
  have hlt := hz.lt
  have HC := Lib.hid (set_any none ax 0 0 xn xc X w.drew (Or.inl ⟨rfl, rfl⟩) hr hxc hxn)
  have HX := Lib.hid hx
  have HZ := Lib.hid hz
  have Hsep := Lib.hid hsep
  obtain ⟨z0, z1, z2, z3⟩ := hz
  obtain ⟨x0, x1, x2, x3⟩ := hx
  clear hr hpz hpx hne hsep
  go_enter Tryz.func151, Tryz.ntmps151
  go_wp2_with fail
  go_cut [17] (fun s17 wc => SetCut w zb zo zneg xn X s17 wc)
  case first =>
    go_region_with (go_at_call 77; go_loud (refine HC.out.mono ?_; rintro e w1 ⟨a, c, rfl, h1, h2, h3, h4, h5⟩; have z1' : w1.cell? ⟨zb, zo + 1, none⟩ = some (.slice none 0 0) := h5.cell z1 no_zone; have z3' : w1.frozen? ⟨zb, zo + 1, none⟩ = false := (h5.frozen z0 _).trans z3; have H := Lib.hid (setcut_of HZ.out h1 h2 h3 h4 h5); clear h1 h2 h3 h4 h5))
    all_goals go_wp2
    all_goals go_meet
    all_goals exact H.out
  case rest =>
    obtain ⟨a, c, rfl, H⟩ := hcut
    clear z0 z1 z2 z3 x0 x1 x2 x3
    have HX1 := Lib.hid (HX.out.chg H.out.2.2.2.2.2 Hsep.out)
    obtain ⟨x0, x1, x2, x3⟩ := HX1.out
    obtain ⟨z0, z1, z2, z3⟩ := H.out.1
    go_wp2
    go_ret
    obtain ⟨q1, q2, q3, q4, q5, q6⟩ := H.out
    have k := chg_cell w zb zo (.bool neg)
    refine ⟨a, c, rfl, q1.sign, q2, q3.chg (chg_cell _ _ _ _) ?_, q4, rd_far q5 (chg_cell _ _ _ _) ?_, q6.setCell _ _ _ (fun _ => ⟨rfl, by omega, by omega⟩)⟩
    · rintro b o ⟨p, e, _⟩ hh
      exact fresh_far q4 hlt e hh.1
    · rintro b o i e _ hh
      exact fresh_far q4 hlt e hh.1
/-- Abs into a new Int. -/
theorem Abs_new (zb zo xb xo : Nat) (zneg neg : Bool) (ax : Option Addr) (xn xc : Nat) (X : Nat → Int) (w : World) (hz : IntC w zb zo zneg none 0 0) (hx : IntC w xb xo neg ax xn xc) (hr : Rd w ax xn X) (hxc : xn ≤ xc) (hxn : xn < 1099511627776)
    (hpz : PB w zb) (hpx : PB w xb) (hne : ¬ (zb = xb ∧ zo = xo)) (hsep : ∀ o, o < 2 → ¬ zRow zb zo 2 xb (xo + o)) :
    Calls Tryz.prog 188 #[.pointer (some ⟨zb, zo, none⟩), .pointer (some ⟨xb, xo, none⟩)] w (SetNew w zb zo false xn X) := by
  have HC := Lib.hid (Set_new zb zo xb xo zneg neg ax xn xc X w hz hx hr hxc hxn hpz hpx hne hsep)
  have hlt := hz.lt
  clear hz hx hr hpz hpx hne hsep
  go_enter Tryz.func188, Tryz.ntmps188
  go_wp2_with fail
  refine HC.out.mono ?_
  rintro e w1 ⟨a, c, rfl, q1, q2, q3, q4, q5, q6⟩
  have H := Lib.hid (And.intro q1 (And.intro q2 (And.intro q3 (And.intro q4 (And.intro q5 q6)))))
  obtain ⟨z0, z1, z2, z3⟩ := q1
  clear q2 q3 q4 q5 q6
  go_wp2
  go_ret
  obtain ⟨q1, q2, q3, q4, q5, q6⟩ := H.out
  refine ⟨a, c, rfl, q1.sign, q2, q3.chg (chg_cell _ _ _ _) ?_, q4, rd_far q5 (chg_cell _ _ _ _) ?_, q6.setCell _ _ _ (fun _ => ⟨rfl, by omega, by omega⟩)⟩
  · rintro b o ⟨p, e, _⟩ hh
    exact fresh_far q4 hlt e hh.1
  · rintro b o i e _ hh
    exact fresh_far q4 hlt e hh.1
theorem Bits_any (zb zo : Nat) (neg : Bool) (a : Option Addr) (n c : Nat) (w : World) (hz : IntC w zb zo neg a n c) :
    Calls Tryz.prog 148 #[.pointer (some ⟨zb, zo, none⟩)] w fun e w' => e = .returned (.slice a n c) ∧ w = w' := by
  obtain ⟨z0, z1, z2, z3⟩ := hz
  go_enter Tryz.func148, Tryz.ntmps148
  go_wp2
  go_ret
  exact ⟨rfl, rfl⟩
def sgnV (n : Nat) (neg : Bool) : Int := if n = 0 then 0 else if neg = true then -1 else 1
theorem sgnV_0 {neg : Bool} : sgnV 0 neg = 0 := rfl
theorem sgnV_t {n : Nat} (h : ¬ n = 0) : sgnV n true = -1 := by unfold sgnV; rw [if_neg h]; rfl
theorem sgnV_f {n : Nat} (h : ¬ n = 0) : sgnV n false = 1 := by unfold sgnV; rw [if_neg h]; rfl
theorem Sign_any (zb zo : Nat) (neg : Bool) (a : Option Addr) (n c : Nat) (w : World) (hz : IntC w zb zo neg a n c) :
    Calls Tryz.prog 147 #[.pointer (some ⟨zb, zo, none⟩)] w fun e w' => e = .returned (.int .i64 (sgnV n neg)) ∧ w = w' := by
  obtain ⟨z0, z1, z2, z3⟩ := hz
  by_cases hn : n = 0
  · subst hn
    have h1 : (((0 : Nat) : Int) == 0) = true := rfl
    go_enter Tryz.func147, Tryz.ntmps147
    go_wp2
    go_ret
    exact ⟨rfl, rfl⟩
  · have h1 : ((n : Int) == 0) = false := beq_false_of_ne (by omega)
    cases neg with
    | true =>
      have hv := Lib.hid (sgnV_t hn)
      go_enter Tryz.func147, Tryz.ntmps147
      go_wp2
      go_ret
      exact ⟨by rw [hv.out]; rfl, rfl⟩
    | false =>
      have hv := Lib.hid (sgnV_f hn)
      go_enter Tryz.func147, Tryz.ntmps147
      go_wp2
      go_ret
      exact ⟨by rw [hv.out]; rfl, rfl⟩
theorem Num_any (rb : Nat) (w : World) : Calls Tryz.prog 83 #[.pointer (some ⟨rb, 0, none⟩)] w fun e w' => e = .returned (.pointer (some ⟨rb, 0, none⟩)) ∧ w = w' := by
  go_enter Tryz.func83, Tryz.ntmps83
  go_wp2
  go_ret
  exact ⟨rfl, rfl⟩
theorem Denom_any (rb : Nat) (neg : Bool) (a : Option Addr) (n c : Nat) (w : World) (hz : IntC w rb 2 neg a n c) (hn : 0 < n) :
    Calls Tryz.prog 85 #[.pointer (some ⟨rb, 0, none⟩)] w fun e w' => e = .returned (.pointer (some ⟨rb, 2, none⟩)) ∧ w = w' := by
  obtain ⟨z0, z1, z2, z3⟩ := hz
  have h1 : ((n : Int) == 0) = false := beq_false_of_ne (by omega)
  go_enter Tryz.func85, Tryz.ntmps85
  go_wp2
  go_ret
  exact ⟨rfl, rfl⟩
end Go.Proofs.YtmgfajamanakcaaGreatDoor
