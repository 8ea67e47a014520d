/-
  Int's small functions, walked: Set and Abs into a new Int, NewInt(0), Sign, Bits; Num and Denom; getStack and its deferred free. Conditions: the cells as IntC says.
  append of one uint to a slice of uints: the law for the walk (my text for words, turned to uints). Conditions: lengths below 2^40.
  impl.wordsOf, impl.told, impl.fraction, walked: the words of an Int, in fresh memory. Conditions: the cells as IntC says, fewer than 2^39 words.
-/
import Derived.Test.YtmgfajamanakcaaGreatDoorQ07
import Derived.Test.YtmgfajamanakcaaGreatDoorQ13
import Derived.Defers
import Derived.Laws.Pointers
import Derived.Outline
import Derived.Test.YtmgfajamanakcaaGreatDoorQ03
import Derived.ArgAppend
import Derived.Deep.LoopGhost
namespace Go.Proofs.YtmgfajamanakcaaGreatDoor
open Go.RowKit
set_option maxRecDepth 100000
set_option linter.unusedVariables false
theorem info122 : (Tryz.prog.info? 122).map (·.size) = some 2 := by kernel_rfl
theorem int_ptr_ne (w : World) {b o b' o' : Nat} (h : PB w b) (h' : PB w b') (hB : ¬ (b = b' ∧ o = o')) :
    (binOp .neq 130 (.pointer (some ⟨b, o, none⟩)) (.pointer (some ⟨b', o', none⟩))).run Tryz.prog w = .ok (.bool true) w := by
  cases hi : Tryz.prog.info? 122 with
  | none => have := info122; rw [hi] at this; cases this
  | some i =>
    have hs : i.size = 2 := by have := info122; rw [hi] at this; simpa using this
    obtain ⟨cs, t, h⟩ := h
    obtain ⟨cs', t', h'⟩ := h'
    have e := run_eql_ptr_other w Tryz.underlying130 hi (by omega) (fun (e : (⟨b, o, none⟩ : Addr) = ⟨b', o', none⟩) => hB (by injection e with e1 e2; exact ⟨e1, e2⟩)) h h'
    simp only [binOp] at e ⊢
    cases hh : (Op.equal 130 (.pointer (some ⟨b, o, none⟩)) (.pointer (some ⟨b', o', none⟩))).run Tryz.prog w with
    | ok v w1 => simp [hh, Result.andThen] at e ⊢; exact ⟨by rw [e.1], e.2⟩
    | _ => simp [hh, Result.andThen] at e
theorem no_zone {b o : Nat} : ¬ zAddr none 0 b o := by rintro ⟨p, e, _⟩; cases e
/-- What Set leaves in a new Int: x's words, in fresh memory. -/
def SetNew (w : World) (zb zo : Nat) (neg : Bool) (xn : Nat) (X : Nat → Int) (e : Ending) (w' : World) : Prop :=
  ∃ a c, e = .returned (.pointer (some ⟨zb, zo, none⟩)) ∧ IntC w' zb zo neg a xn c ∧ xn ≤ c ∧ ZOK w' a c ∧ Fresh w a ∧ Rd w' a xn X ∧ Chg (zRow zb zo 2) w w'
theorem rd_far {w w' : World} {a : Option Addr} {n : Nat} {X : Nat → Int} {Z : Zone} (h : Rd w a n X) (k : Chg Z w w') (hz : ∀ b o i, a = some ⟨b, o, none⟩ → i < n → ¬ Z b (o + i)) : Rd w' a n X := by
  rcases h with h | ⟨b, o, e, hw⟩
  · exact Or.inl h
  · exact Or.inr ⟨b, o, e, hw.chg k (fun i hi => hz b o i e hi)⟩
theorem fresh_far {w0 : World} {a : Option Addr} {b zb : Nat} (h : Fresh w0 a) (hzb : zb < w0.heap.size) {o : Nat} (e : a = some ⟨b, o, none⟩) : b ≠ zb := by
  rcases h with h | ⟨b', o', h, hb⟩
  · rw [h] at e; cases e
  · rw [h] at e; injection e with e; injection e with e1 _; omega
def SetCut (w : World) (zb zo : Nat) (neg : Bool) (xn : Nat) (X : Nat → Int) (s17 : Value) (wc : World) : Prop :=
  ∃ a c, s17 = .slice a xn c ∧ Hid (IntC wc zb zo neg a xn c ∧ xn ≤ c ∧ ZOK wc a c ∧ Fresh w a ∧ Rd wc a xn X ∧ Chg (zRow zb zo 2) w wc)
theorem setcut_of {w w1 : World} {zb zo xn c : Nat} {zneg : Bool} {a : Option Addr} {X : Nat → Int} (hz : IntC w zb zo zneg none 0 0) (h1 : xn ≤ c) (h2 : ZOK w1 a c) (h3 : Rd w1 a xn X) (h4 : Home w.drew none 0 a c) (h50 : Chg (zAddr none 0) w.drew w1) :
    SetCut w zb zo zneg xn X (.slice a xn c) (w1.setCell ⟨zb, zo + 1, none⟩ (.slice a xn c)) := by
  have hlt := hz.lt
  have h5 : Chg (zAddr none 0) w w1 := ((Chg.refl (zAddr none 0) w).drew).trans h50 (fun _ _ _ h => h)
  have hz1 : IntC w1 zb zo zneg none 0 0 := hz.chg h5 (fun _ _ => no_zone)
  have hf : Fresh w a := by
    rcases h4 with ⟨h, _⟩ | h
    · exact Or.inl h
    · exact Or.inr h
  have k := chg_cell w1 zb (zo + 1) (.slice a xn c)
  refine ⟨a, c, rfl, hz1.abs, h1, h2.chg k ?_, hf, rd_far h3 k ?_, (h5.mono (fun _ _ _ h => (no_zone h).elim)).setCell _ _ _ (fun _ => ⟨rfl, by omega, by omega⟩)⟩
  · rintro b o ⟨p, e, _⟩ hh
    exact fresh_far hf hlt e hh.1
  · rintro b o i e _ hh
    exact fresh_far hf hlt e hh.1
set_option maxHeartbeats 2000000 in
theorem Set_new (zb zo xb xo : Nat) (zneg neg : Bool) (ax : Option Addr) (xn xc : Nat) (X : Nat → Int) (w : World) (hz : IntC w zb zo zneg none 0 0) (hx : IntC w xb xo neg ax xn xc) (hr : Rd w ax xn X) (hxc : xn ≤ xc) (hxn : xn < 1099511627776)
    (hpz : PB w zb) (hpx : PB w xb) (hne : ¬ (zb = xb ∧ zo = xo)) (hsep : ∀ o, o < 2 → ¬ zRow zb zo 2 xb (xo + o)) :
    Calls Tryz.prog 151 #[.pointer (some ⟨zb, zo, none⟩), .pointer (some ⟨xb, xo, none⟩)] w (SetNew w zb zo neg xn X) := by
  have hp := int_ptr_ne w hpz hpx hne
  have hlt := hz.lt
  have HC := Lib.hid (set_any none ax 0 0 xn xc X w.drew (Or.inl ⟨rfl, rfl⟩) hr hxc hxn)
  have HX := Lib.hid hx
  have HZ := Lib.hid hz
  have Hsep := Lib.hid hsep
  obtain ⟨z0, z1, z2, z3⟩ := hz
  obtain ⟨x0, x1, x2, x3⟩ := hx
  clear hr hpz hpx hne hsep
  go_enter Tryz.func151, Tryz.ntmps151
  go_wp2_with fail
  go_cut [17] (fun s17 wc => SetCut w zb zo zneg xn X s17 wc)
  case first =>
    go_region_with (go_at_call 77; go_loud (refine HC.out.mono ?_; rintro e w1 ⟨a, c, rfl, h1, h2, h3, h4, h5⟩; have z1' : w1.cell? ⟨zb, zo + 1, none⟩ = some (.slice none 0 0) := h5.cell z1 no_zone; have z3' : w1.frozen? ⟨zb, zo + 1, none⟩ = false := (h5.frozen z0 _).trans z3; have H := Lib.hid (setcut_of HZ.out h1 h2 h3 h4 h5); clear h1 h2 h3 h4 h5))
    all_goals go_wp2
    all_goals go_meet
    all_goals exact H.out
  case rest =>
    obtain ⟨a, c, rfl, H⟩ := hcut
    clear z0 z1 z2 z3 x0 x1 x2 x3
    have HX1 := Lib.hid (HX.out.chg H.out.2.2.2.2.2 Hsep.out)
    obtain ⟨x0, x1, x2, x3⟩ := HX1.out
    obtain ⟨z0, z1, z2, z3⟩ := H.out.1
    go_wp2
    go_ret
    obtain ⟨q1, q2, q3, q4, q5, q6⟩ := H.out
    have k := chg_cell w zb zo (.bool neg)
    refine ⟨a, c, rfl, q1.sign, q2, q3.chg (chg_cell _ _ _ _) ?_, q4, rd_far q5 (chg_cell _ _ _ _) ?_, q6.setCell _ _ _ (fun _ => ⟨rfl, by omega, by omega⟩)⟩
    · rintro b o ⟨p, e, _⟩ hh
      exact fresh_far q4 hlt e hh.1
    · rintro b o i e _ hh
      exact fresh_far q4 hlt e hh.1
/-- Abs into a new Int. -/
theorem Abs_new (zb zo xb xo : Nat) (zneg neg : Bool) (ax : Option Addr) (xn xc : Nat) (X : Nat → Int) (w : World) (hz : IntC w zb zo zneg none 0 0) (hx : IntC w xb xo neg ax xn xc) (hr : Rd w ax xn X) (hxc : xn ≤ xc) (hxn : xn < 1099511627776)
    (hpz : PB w zb) (hpx : PB w xb) (hne : ¬ (zb = xb ∧ zo = xo)) (hsep : ∀ o, o < 2 → ¬ zRow zb zo 2 xb (xo + o)) :
    Calls Tryz.prog 188 #[.pointer (some ⟨zb, zo, none⟩), .pointer (some ⟨xb, xo, none⟩)] w (SetNew w zb zo false xn X) := by
  have HC := Lib.hid (Set_new zb zo xb xo zneg neg ax xn xc X w hz hx hr hxc hxn hpz hpx hne hsep)
  have hlt := hz.lt
  clear hz hx hr hpz hpx hne hsep
  go_enter Tryz.func188, Tryz.ntmps188
  go_wp2_with fail
  refine HC.out.mono ?_
  rintro e w1 ⟨a, c, rfl, q1, q2, q3, q4, q5, q6⟩
  have H := Lib.hid (And.intro q1 (And.intro q2 (And.intro q3 (And.intro q4 (And.intro q5 q6)))))
  obtain ⟨z0, z1, z2, z3⟩ := q1
  clear q2 q3 q4 q5 q6
  go_wp2
  go_ret
  obtain ⟨q1, q2, q3, q4, q5, q6⟩ := H.out
  refine ⟨a, c, rfl, q1.sign, q2, q3.chg (chg_cell _ _ _ _) ?_, q4, rd_far q5 (chg_cell _ _ _ _) ?_, q6.setCell _ _ _ (fun _ => ⟨rfl, by omega, by omega⟩)⟩
  · rintro b o ⟨p, e, _⟩ hh
    exact fresh_far q4 hlt e hh.1
  · rintro b o i e _ hh
    exact fresh_far q4 hlt e hh.1
theorem Bits_any (zb zo : Nat) (neg : Bool) (a : Option Addr) (n c : Nat) (w : World) (hz : IntC w zb zo neg a n c) :
    Calls Tryz.prog 148 #[.pointer (some ⟨zb, zo, none⟩)] w fun e w' => e = .returned (.slice a n c) ∧ w = w' := by
  obtain ⟨z0, z1, z2, z3⟩ := hz
  go_enter Tryz.func148, Tryz.ntmps148
  go_wp2
  go_ret
  exact ⟨rfl, rfl⟩
def sgnV (n : Nat) (neg : Bool) : Int := if n = 0 then 0 else if neg = true then -1 else 1
theorem sgnV_0 {neg : Bool} : sgnV 0 neg = 0 := rfl
theorem sgnV_t {n : Nat} (h : ¬ n = 0) : sgnV n true = -1 := by unfold sgnV; rw [if_neg h]; rfl
theorem sgnV_f {n : Nat} (h : ¬ n = 0) : sgnV n false = 1 := by unfold sgnV; rw [if_neg h]; rfl
theorem Sign_any (zb zo : Nat) (neg : Bool) (a : Option Addr) (n c : Nat) (w : World) (hz : IntC w zb zo neg a n c) :
    Calls Tryz.prog 147 #[.pointer (some ⟨zb, zo, none⟩)] w fun e w' => e = .returned (.int .i64 (sgnV n neg)) ∧ w = w' := by
  obtain ⟨z0, z1, z2, z3⟩ := hz
  by_cases hn : n = 0
  · subst hn
    have h1 : (((0 : Nat) : Int) == 0) = true := rfl
    go_enter Tryz.func147, Tryz.ntmps147
    go_wp2
    go_ret
    exact ⟨rfl, rfl⟩
  · have h1 : ((n : Int) == 0) = false := beq_false_of_ne (by omega)
    cases neg with
    | true =>
      have hv := Lib.hid (sgnV_t hn)
      go_enter Tryz.func147, Tryz.ntmps147
      go_wp2
      go_ret
      exact ⟨by rw [hv.out]; rfl, rfl⟩
    | false =>
      have hv := Lib.hid (sgnV_f hn)
      go_enter Tryz.func147, Tryz.ntmps147
      go_wp2
      go_ret
      exact ⟨by rw [hv.out]; rfl, rfl⟩
theorem Num_any (rb : Nat) (w : World) : Calls Tryz.prog 83 #[.pointer (some ⟨rb, 0, none⟩)] w fun e w' => e = .returned (.pointer (some ⟨rb, 0, none⟩)) ∧ w = w' := by
  go_enter Tryz.func83, Tryz.ntmps83
  go_wp2
  go_ret
  exact ⟨rfl, rfl⟩
theorem Denom_any (rb : Nat) (neg : Bool) (a : Option Addr) (n c : Nat) (w : World) (hz : IntC w rb 2 neg a n c) (hn : 0 < n) :
    Calls Tryz.prog 85 #[.pointer (some ⟨rb, 0, none⟩)] w fun e w' => e = .returned (.pointer (some ⟨rb, 2, none⟩)) ∧ w = w' := by
  obtain ⟨z0, z1, z2, z3⟩ := hz
  have h1 : ((n : Int) == 0) = false := beq_false_of_ne (by omega)
  go_enter Tryz.func85, Tryz.ntmps85
  go_wp2
  go_ret
  exact ⟨rfl, rfl⟩
end Go.Proofs.YtmgfajamanakcaaGreatDoor
namespace Go.Proofs.YtmgfajamanakcaaGreatDoor
open Go.RowKit
set_option maxRecDepth 100000
set_option linter.unusedVariables false
theorem info22 : (Tryz.prog.info? 22).map (fun i => (i.zero, i.size, i.bytes)) = some (some (.int .u64 0), 1, 8) := by kernel_rfl
/-- A block whose cells are words, that begins with the words of L. -/
theorem new_uints (w : World) (X : Nat → Int) (n k : Nat) :
    Words (w.alloc (.cells ((wordVals X n).toArray ++ Array.replicate k (.int .u64 0)) 22)) w.heap.size 0 n X ∧ Room (w.alloc (.cells ((wordVals X n).toArray ++ Array.replicate k (.int .u64 0)) 22)) w.heap.size 0 (n + k) := by
  have hget : ∀ i, i < n → ((wordVals X n).toArray ++ Array.replicate k (Value.int .u64 0))[i]? = some (.int .u64 (X i)) := fun i hi => by
    rw [Array.getElem?_append_left (by simpa [wordVals] using hi)]
    simp [wordVals, hi]
  have hget2 : ∀ i, n ≤ i → i < n + k → ((wordVals X n).toArray ++ Array.replicate k (Value.int .u64 0))[i]? = some (.int .u64 0) := fun i h1 h2 => by
    rw [Array.getElem?_append_right (by simpa [wordVals] using h1)]
    simp only [List.size_toArray, wordVals_length]
    rw [Array.getElem?_replicate, if_pos (by omega)]
  refine ⟨fun i hi => ?_, fun i hi => ⟨?_, frozen?_alloc_new w _ _ _⟩⟩
  · rw [Nat.zero_add]; exact cell?_alloc_new w _ _ _ _ (hget i hi)
  · rw [Nat.zero_add]
    by_cases h : i < n
    · exact ⟨_, cell?_alloc_new w _ _ _ _ (hget i h)⟩
    · exact ⟨_, cell?_alloc_new w _ _ _ _ (hget2 i (by omega) hi)⟩
theorem run_append_uint (a : Option Addr) (n c : Nat) (X : Nat → Int) (x : Int) (W : World) (hz : ZOK W a c) (hr : Rd W a n X) (hnc : n ≤ c) (hn : n < 1099511627776) (ad : Addr) (hx : W.cell? ad = some (.int .u64 x)) (ty : TypeId) :
    ∃ a' c' W', (Builtin.append_ #[23, 23] ty #[.slice a n c, .slice (some ad) 1 1]).run Tryz.prog W = .ok (.slice a' (n + 1) c') W' ∧ AppRes W a n c X x a' c' W' := by
  obtain ⟨i0, hi, hz0, hz1, hz2⟩ := info_parts info22
  have hnews : ∀ j v, [Value.int .u64 x][j]? = some v → W.cell? (ad.add j) = some v := fun j v h => by
    cases j with
    | zero => simp at h; subst h; simpa [Addr.add] using hx
    | succ j => simp at h
  have hupd : ∀ i, i < n → X i = upd X n x i := fun i hi => (upd_other X x (by omega)).symm
  rcases hz with ⟨rfl, rfl⟩ | ⟨b, o, rfl, hb, hroom, hcap⟩
  · obtain rfl : n = 0 := by omega
    have hrun := run_append_nil (P := Tryz.prog) W 23 ty 22 i0 (.int .u64 0) Tryz.underlying23 hi hz0 ad 1 1 [.int .u64 x] (by rw [hz1]; rfl) hnews (by omega) (by omega) (by rw [hz2]; omega)
    have hg := grownCap_ge W 1 0 22 (by omega)
    have hw := new_uints W.drew (fun _ => x) 1 (grownCap W 1 0 22 - 1)
    rw [show ((Value.int .u64 0).cells) = #[Value.int .u64 0] from rfl, zeroCells_word] at hrun
    refine ⟨_, _, _, hrun, by omega, Or.inr ⟨_, _, rfl, PB.new W.drew _ _, ?_, hg.2⟩, Or.inr ⟨_, _, rfl, ?_⟩, Or.inr ⟨_, _, rfl, Nat.le_refl _⟩, chg_drew_alloc _ _ _⟩
    · have := hw.2
      rwa [show 1 + (grownCap W 1 0 22 - 1) = grownCap W 1 0 22 by omega] at this
    · exact hw.1.congr (fun i hi => by obtain rfl : i = 0 := by omega
                                       exact (upd_same X 0 x).symm)
  · have hX : n = 0 ∨ Words W b o n X := by
      rcases hr with h | ⟨b', o', e, hw⟩
      · exact Or.inl h
      · injection e with e; injection e with e1 e2; subst e1; subst e2; exact Or.inr hw
    have hX' : Words W b o n X := by
      rcases hX with h | h
      · intro i hi; omega
      · exact h
    by_cases hfit : n + 1 ≤ c
    · have hrun := run_append_room_cells (P := Tryz.prog) W 23 ty 22 i0 Tryz.underlying23 hi b o n c ad 1 1 [.int .u64 x] (by rw [hz1]; rfl) hnews (fun u hu => by simp at hu; subst hu; rfl) hfit
        (fun j hj => by
          obtain rfl : j = 0 := by simp at hj; exact hj
          rw [hz1, Nat.mul_one, Nat.add_zero]
          obtain ⟨⟨y, hy⟩, _⟩ := hroom n (by omega)
          rw [hy]; rfl)
        (fun j hj => by
          obtain rfl : j = 0 := by simp at hj; exact hj
          rw [hz1, Nat.mul_one, Nat.add_zero]
          exact (hroom n (by omega)).2)
      rw [hz1, Nat.mul_one] at hrun
      have hwd : W.setCells b (o + n) [.int .u64 x] = W.setCell ⟨b, o + n, none⟩ (.int .u64 x) := rfl
      rw [hwd] at hrun
      refine ⟨_, _, _, hrun, hfit, ?_, Or.inr ⟨b, o, rfl, hX'.snoc ?_⟩, Or.inl ⟨rfl, rfl⟩, (Chg.refl _ _).setCell b (o + n) _ (fun _ => ⟨o, rfl, by omega, by omega⟩)⟩
      · exact ZOK.setInt (Or.inr ⟨b, o, rfl, hb, hroom, hcap⟩) b (o + n) x
      · obtain ⟨⟨y, hy⟩, _⟩ := hroom n (by omega)
        rw [hy]; rfl
    · have holds : ∀ j v, (wordVals X n)[j]? = some v → W.cell? ((⟨b, o, none⟩ : Addr).add j) = some v := fun j v h => by
        obtain ⟨hj, rfl⟩ := wordVals_get X n j v h
        have := hX' j hj
        by_cases h0 : j = 0
        · subst h0; simpa [Addr.add] using this
        · simpa [Addr.add, h0] using this
      have hrun := run_append_grow (P := Tryz.prog) W 23 ty 22 i0 (.int .u64 0) Tryz.underlying23 hi hz0 ⟨b, o, none⟩ n c (wordVals X n) (by rw [wordVals_length, hz1, Nat.mul_one]) holds ad 1 1 [.int .u64 x] (by rw [hz1]; rfl) hnews (by omega) (by omega)
        (by rw [hz2]; exact growslice_fits (by omega) (by omega))
      have hg := grownCap_ge W (n + 1) c 22 (by omega)
      have hcat : (wordVals X n).toArray ++ [Value.int .u64 x].toArray = (wordVals (upd X n x) (n + 1)).toArray := by
        unfold wordVals
        rw [List.range_succ, List.map_append]
        simp only [List.map_cons, List.map_nil, upd_same]
        rw [← List.append_toArray]
        congr 2
        apply List.map_congr_left
        intro i hi'
        rw [upd_other X x (by have := List.mem_range.1 hi'; omega)]
      rw [show ((Value.int .u64 0).cells) = #[Value.int .u64 0] from rfl, zeroCells_word, hcat] at hrun
      have hw := new_uints W.drew (upd X n x) (n + 1) (grownCap W (n + 1) c 22 - (n + 1))
      refine ⟨_, _, _, hrun, by omega, Or.inr ⟨_, _, rfl, PB.new W.drew _ _, ?_, hg.2⟩, Or.inr ⟨_, _, rfl, hw.1⟩, Or.inr ⟨_, _, rfl, Nat.le_refl _⟩, chg_drew_alloc _ _ _⟩
      have := hw.2
      rwa [show n + 1 + (grownCap W (n + 1) c 22 - (n + 1)) = grownCap W (n + 1) c 22 by omega] at this
/-- The walk's law: an append of one word. -/
theorem wpList_append_uint {ops : Array Oper} {rest : List Oper} {o : Oper} {act : Act} {w : World} {Q : Exit → Act → World → Prop} (hgd : o.guard = none) (s x : Operand)
    (ho : o.op = .call { callee := .builtin .append, args := #[s, x], argTypes := #[23, 23] })
    (a : Option Addr) (n c : Nat) (X : Nat → Int) (y : Int) (ad : Addr) (hs : act.eval s = .slice a n c) (hx : act.eval x = .slice (some ad) 1 1)
    (hz : ZOK w a c) (hr : Rd w a n X) (hnc : n ≤ c) (hn : n < 1099511627776) (hy : w.cell? ad = some (.int .u64 y))
    (h : ∀ a' c' w', AppRes w a n c X y a' c' w' → wpList Tryz.prog ops Q rest (act.put o.dst (.slice a' (n + 1) c')) w') : wpList Tryz.prog ops Q (o :: rest) act w :=
  wpList_plain hgd fun K hK => by
    obtain ⟨a', c', w', hrun, h2⟩ := run_append_uint a n c X y w hz hr hnc hn ad hy o.type
    unfold Oper.wp execOp
    simp only [ho, resolve, invoke, builtin, Sem.run_bind, Sem.run_pure, Result.andThen_ok, List.map_toArray, List.map_cons, List.map_nil, hs, hx, hrun]
    exact hK _ _ (h a' c' w' h2)
end Go.Proofs.YtmgfajamanakcaaGreatDoor
namespace Go.Proofs.YtmgfajamanakcaaGreatDoor
open Go.RowKit
set_option maxRecDepth 100000
set_option linter.unusedVariables false
def WordsPost (w : World) (n : Nat) (X : Nat → Int) (e : Ending) (w' : World) : Prop :=
  ∃ a c, e = .returned (.slice a n c) ∧ n ≤ c ∧ ZOK w' a c ∧ Fresh w a ∧ Rd w' a n X ∧ Chg zNone w w'
def WordsRel (w : World) (n : Nat) (X : Nat → Int) (k : Nat) (s3 s9 : Value) (wc : World) : Prop :=
  ∃ (i : Nat) (a : Option Addr) (c : Nat), s3 = .slice a i c ∧ s9 = .int .i64 (i : Int) ∧ i + k = n ∧ Hid (i ≤ c ∧ ZOK wc a c ∧ Fresh w a ∧ Rd wc a i X ∧ Chg zNone w wc)
theorem fresh_home {w w1 : World} {a a' : Option Addr} {c c' : Nat} (h : Fresh w a) (hh : Home w1 a c a' c') (hw : w.heap.size ≤ w1.heap.size) : Fresh w a' := by
  rcases hh with ⟨rfl, _⟩ | ⟨b, o, e, hb⟩
  · exact h
  · exact Or.inr ⟨b, o, e, by omega⟩
set_option maxHeartbeats 2000000 in
theorem wordsOf_any (zb zo : Nat) (neg : Bool) (a : Option Addr) (n c : Nat) (X : Nat → Int) (w : World) (hz : IntC w zb zo neg a n c) (hr : Rd w a n X) (hn : n < 549755813888) :
    Calls Tryz.prog 84 #[.pointer (some ⟨zb, zo, none⟩)] w (WordsPost w n X) := by
  have HB := Lib.hid (Bits_any zb zo neg a n c w hz)
  have HR := Lib.hid hr
  clear hz hr
  go_enter Tryz.func84, Tryz.ntmps84
  go_wp2_with fail
  refine HB.out.mono ?_
  rintro e w0 ⟨rfl, rfl⟩
  go_wp2_with fail
  go_loopg [3, 5, 9] n (fun k s3 s5 s9 wc => WordsRel w n X k s3 s9 wc)
  case atStart => exact ⟨0, none, 0, rfl, rfl, by omega, Nat.le_refl _, Or.inl ⟨rfl, rfl⟩, Or.inl rfl, Or.inl rfl, Chg.refl _ _⟩
  case round =>
    obtain ⟨i, a', c', rfl, rfl, hk, H⟩ := hrel
    by_cases hi : i < n
    · have h1 : decide ((i : Int) < (n : Int)) = true := by simp; omega
      have h2 : (0 : Int) ≤ (i : Int) := by omega
      have h3 : (i : Int) < (n : Int) := by omega
      obtain ⟨x, hx⟩ : ∃ x, X i = x := ⟨_, rfl⟩
      obtain ⟨b, o, rfl, hw⟩ : ∃ b o, a = some ⟨b, o, none⟩ ∧ Words w b o n X := by
        rcases HR.out with h | h
        · omega
        · exact h
      have hc := H.out.2.2.2.2.cell (hw i hi) (fun h => h)
      rw [hx] at hc
      have Hx := Lib.hid hx
      clear hx hw
      have kal : Chg zNone wr (wr.alloc (.cells #[.int .u64 x] 22)) := (Chg.refl _ _).alloc _
      have HX := Lib.hid (show ZOK (wr.alloc (.cells #[.int .u64 x] 22)) a' c' ∧ Rd (wr.alloc (.cells #[.int .u64 x] 22)) a' i X ∧ (wr.alloc (.cells #[.int .u64 x] 22)).cell? ⟨wr.heap.size, 0, none⟩ = some (.int .u64 x) from
        ⟨H.out.2.1.chg kal (fun _ _ _ h => h), rd_far H.out.2.2.2.1 kal (fun _ _ _ _ _ h => h), cell?_alloc_new wr #[.int .u64 x] 22 0 (.int .u64 x) rfl⟩)
      have HK := Lib.hid (H.out.2.2.2.2.trans kal (fun _ _ _ h => h))
      have x3 := H.out.1
      have x4 : i < 1099511627776 := by omega
      clear kal
      go_wp2_with (refine wpList_append_uint rfl (.tmp 13) (.tmp 15) rfl a' i c' X _ _ rfl rfl HX.out.1 HX.out.2.1 x3 x4 HX.out.2.2 ?_; rintro a2 c2 w2 h2; have H2 := Lib.hid h2; clear h2)
      go_roundg (gk - 1)
      case measure => omega
      case rel =>
        obtain ⟨g1, g2, g3, g4, g5⟩ := H2.out
        refine ⟨i + 1, a2, c2, rfl, by go_num, by omega, g1, g2, fresh_home H.out.2.2.1 g4 HK.out.size, ?_, HK.out.trans g5 ?_⟩
        · rcases g3 with h | ⟨b', o', e, hw⟩
          · omega
          · refine Or.inr ⟨b', o', e, hw.congr (fun j hj => ?_)⟩
            by_cases hji : j = i
            · subst hji; rw [upd_same]; exact Hx.out.symm
            · exact upd_other X x hji
        · rintro b' o' hb ⟨p, e, _⟩
          exact (fresh_far H.out.2.2.1 hb e rfl).elim
    · have h1 : decide ((i : Int) < (n : Int)) = false := by simp; omega
      obtain rfl : i = n := by omega
      go_wp2
      go_ret
      exact ⟨a', c', rfl, H.out⟩
def ToldPost (w : World) (neg : Bool) (n : Nat) (X : Nat → Int) (e : Ending) (w' : World) : Prop :=
  ∃ a c, e = .returned (.agg #[.bool (decide (sgnV n neg < 0)), .slice a n c]) ∧ n ≤ c ∧ ZOK w' a c ∧ Fresh w a ∧ Rd w' a n X ∧ Chg zNone w w'
set_option maxHeartbeats 2000000 in
theorem told_any (zb zo : Nat) (neg : Bool) (a : Option Addr) (n c : Nat) (X : Nat → Int) (w : World) (hz : IntC w zb zo neg a n c) (hr : Rd w a n X) (hn : n < 549755813888) :
    Calls Tryz.prog 82 #[.pointer (some ⟨zb, zo, none⟩)] w (ToldPost w neg n X) := by
  have kal : Chg zNone w (w.alloc (.cells #[.bool false, .slice none 0 0] 29)) := (Chg.refl _ _).alloc _
  have HS := Lib.hid (Sign_any zb zo neg a n c _ (hz.chg kal (fun _ _ h => h)))
  have HW := Lib.hid (wordsOf_any zb zo neg a n c X _ (hz.chg kal (fun _ _ h => h)) (rd_far hr kal (fun _ _ _ _ _ h => h)) hn)
  have HK := Lib.hid kal
  have HN := Lib.hid (And.intro (cell?_alloc_new w #[.bool false, .slice none 0 0] 29 0 (.bool false) rfl) (And.intro (cell?_alloc_new w #[.bool false, .slice none 0 0] 29 1 (.slice none 0 0) rfl) (frozen?_alloc_new w #[.bool false, .slice none 0 0] 29)))
  have hsz : w.heap.size < (w.alloc (.cells #[.bool false, .slice none 0 0] 29)).heap.size := by
    show _ < (w.heap.push _).size
    simp
  clear hz hr kal
  obtain ⟨B, hB⟩ : ∃ B, decide (sgnV n neg < 0) = B := ⟨_, rfl⟩
  have HB := Lib.hid hB
  go_enter Tryz.func82, Tryz.ntmps82
  go_wp2_with fail
  refine HS.out.mono ?_
  rintro e w1 ⟨rfl, rfl⟩
  go_wp2_with fail
  refine HW.out.mono ?_
  rintro e w2 ⟨a', c', rfl, h1, h2, h3, h4, h5⟩
  have c0 : w2.cell? ⟨w.heap.size, 0, none⟩ = some (.bool false) := h5.cell HN.out.1 (fun h => h)
  have c1 : w2.cell? ⟨w.heap.size, 1, none⟩ = some (.slice none 0 0) := h5.cell HN.out.2.1 (fun h => h)
  have g0 : w2.frozen? ⟨w.heap.size, 0, none⟩ = false := (h5.frozen HN.out.1 _).trans (HN.out.2.2 _)
  have g1 : w2.frozen? ⟨w.heap.size, 1, none⟩ = false := (h5.frozen HN.out.1 _).trans (HN.out.2.2 _)
  have H := Lib.hid (And.intro h1 (And.intro h2 (And.intro h3 (And.intro h4 h5))))
  clear h1 h2 h3 h4 h5 hsz
  go_wp2
  have d0 : ((w2.setCell ⟨w.heap.size, 0, none⟩ (.bool B)).setCell ⟨w.heap.size, 1, none⟩ (.slice a' n c')).cell? ⟨w.heap.size, 0, none⟩ = some (.bool B) := by
    rw [cs_other (by decide)]; exact cs_same c0
  have d1 : ((w2.setCell ⟨w.heap.size, 0, none⟩ (.bool B)).setCell ⟨w.heap.size, 1, none⟩ (.slice a' n c')).cell? ⟨w.heap.size, 1, none⟩ = some (.slice a' n c') :=
    cs_same (by rw [cs_other (by decide)]; exact c1)
  have kk : Chg (zRow w.heap.size 0 2) w2 ((w2.setCell ⟨w.heap.size, 0, none⟩ (.bool B)).setCell ⟨w.heap.size, 1, none⟩ (.slice a' n c')) :=
    ((Chg.refl _ _).setCell _ 0 _ (fun _ => ⟨rfl, by omega, by omega⟩)).setCell _ 1 _ (fun _ => ⟨rfl, by omega, by omega⟩)
  refine bodyPost_ret (v := .agg #[.bool B, .slice a' n c']) (by simp [results, Tryz.results82, go_sem, d0, d1]) rfl ?_
  have hsz : w.heap.size < (w.alloc (.cells #[.bool false, .slice none 0 0] 29)).heap.size := by
    show _ < (w.heap.push _).size
    simp
  obtain ⟨h1, h2, h3, h4, h5⟩ := H.out
  refine ⟨a', c', by rw [HB.out], h1, h2.chg kk ?_, ?_, rd_far h4 kk ?_, (HK.out.trans h5 (fun _ _ _ h => h)).trans kk (fun b o hb hh => by have := hh.1; omega)⟩
  · rintro b o ⟨p, e, _⟩ hh
    exact fresh_far h3 hsz e hh.1
  · rcases h3 with h | ⟨b, o, e, hb⟩
    · exact Or.inl h
    · exact Or.inr ⟨b, o, e, by omega⟩
  · rintro b o i e _ hh
    exact fresh_far h3 hsz e hh.1
def FracPost (w : World) (neg : Bool) (n m : Nat) (X Y : Nat → Int) (e : Ending) (w' : World) : Prop :=
  ∃ a c b d, e = .returned (.agg #[.bool (decide (sgnV n neg < 0)), .slice a n c, .slice b m d]) ∧ Rd w' a n X ∧ Rd w' b m Y ∧ Fresh w a ∧ Fresh w b ∧ Chg zNone w w'
set_option maxHeartbeats 2000000 in
theorem fraction_any (rb : Nat) (neg neg2 : Bool) (a b : Option Addr) (n c m d : Nat) (X Y : Nat → Int) (w : World) (hA : IntC w rb 0 neg a n c) (hB : IntC w rb 2 neg2 b m d) (hr : Rd w a n X) (hr2 : Rd w b m Y) (hn : n < 549755813888) (hm : m < 549755813888) (hm0 : 0 < m) :
    Calls Tryz.prog 43 #[.pointer (some ⟨rb, 0, none⟩)] w (FracPost w neg n m X Y) := by
  have kal : Chg zNone w (w.alloc (.cells #[.bool false, .slice none 0 0, .slice none 0 0] 31)) := (Chg.refl _ _).alloc _
  have HNu := Lib.hid (Num_any rb (w.alloc (.cells #[.bool false, .slice none 0 0, .slice none 0 0] 31)))
  have HT := Lib.hid (told_any rb 0 neg a n c X _ (hA.chg kal (fun _ _ h => h)) (rd_far hr kal (fun _ _ _ _ _ h => h)) hn)
  have HB := Lib.hid (And.intro (hB.chg kal (fun _ _ h => h)) (rd_far hr2 kal (fun _ _ _ _ _ h => h)))
  have HK := Lib.hid kal
  have HN := Lib.hid (And.intro (cell?_alloc_new w #[.bool false, .slice none 0 0, .slice none 0 0] 31 0 (.bool false) rfl) (And.intro (cell?_alloc_new w #[.bool false, .slice none 0 0, .slice none 0 0] 31 1 (.slice none 0 0) rfl)
    (And.intro (cell?_alloc_new w #[.bool false, .slice none 0 0, .slice none 0 0] 31 2 (.slice none 0 0) rfl) (frozen?_alloc_new w #[.bool false, .slice none 0 0, .slice none 0 0] 31))))
  clear hA hB hr hr2 kal
  obtain ⟨B, hB⟩ : ∃ B, decide (sgnV n neg < 0) = B := ⟨_, rfl⟩
  have HBB := Lib.hid hB
  go_enter Tryz.func43, Tryz.ntmps43
  go_wp2_with fail
  refine HNu.out.mono ?_
  rintro e w1 ⟨rfl, rfl⟩
  go_wp2_with fail
  refine HT.out.mono ?_
  rintro e w2 ⟨a1, c1, rfl, h1, h2, h3, h4, h5⟩
  rw [HBB.out]
  have H := Lib.hid (And.intro h1 (And.intro h2 (And.intro h3 (And.intro h4 h5))))
  have HB2 := Lib.hid (And.intro (HB.out.1.chg h5 (fun _ _ h => h)) (rd_far HB.out.2 h5 (fun _ _ _ _ _ h => h)))
  have HD := Lib.hid (Denom_any rb neg2 b m d w2 HB2.out.1 hm0)
  clear h1 h2 h3 h4 h5
  go_wp2_with fail
  refine HD.out.mono ?_
  rintro e w3 ⟨rfl, rfl⟩
  have HW := Lib.hid (wordsOf_any rb 2 neg2 b m d Y w2 HB2.out.1 HB2.out.2 hm)
  go_wp2_with fail
  refine HW.out.mono ?_
  rintro e w4 ⟨b1, dd, rfl, j1, j2, j3, j4, j5⟩
  have hc : ∀ i v, (w.alloc (.cells #[.bool false, .slice none 0 0, .slice none 0 0] 31)).cell? ⟨w.heap.size, i, none⟩ = some v → w4.cell? ⟨w.heap.size, i, none⟩ = some v := fun i v h => j5.cell (H.out.2.2.2.2.cell h (fun h => h)) (fun h => h)
  have e0 : w4.cell? ⟨w.heap.size, 0, none⟩ = some (.bool false) := hc 0 _ HN.out.1
  have e1 : w4.cell? ⟨w.heap.size, 1, none⟩ = some (.slice none 0 0) := hc 1 _ HN.out.2.1
  have e2 : w4.cell? ⟨w.heap.size, 2, none⟩ = some (.slice none 0 0) := hc 2 _ HN.out.2.2.1
  have hg : ∀ i, w4.frozen? ⟨w.heap.size, i, none⟩ = false := fun i => ((j5.frozen (H.out.2.2.2.2.cell HN.out.1 (fun h => h)) _).trans (H.out.2.2.2.2.frozen HN.out.1 _)).trans (HN.out.2.2.2 _)
  have g0 := hg 0
  have g1 := hg 1
  have g2 := hg 2
  have J := Lib.hid (And.intro j1 (And.intro j2 (And.intro j3 (And.intro j4 j5))))
  clear j1 j2 j3 j4 j5 hc hg
  go_wp2
  have d0 : (((w4.setCell ⟨w.heap.size, 0, none⟩ (.bool B)).setCell ⟨w.heap.size, 1, none⟩ (.slice a1 n c1)).setCell ⟨w.heap.size, 2, none⟩ (.slice b1 m dd)).cell? ⟨w.heap.size, 0, none⟩ = some (.bool B) := by
    rw [cs_other (by decide), cs_other (by decide)]; exact cs_same e0
  have d1 : (((w4.setCell ⟨w.heap.size, 0, none⟩ (.bool B)).setCell ⟨w.heap.size, 1, none⟩ (.slice a1 n c1)).setCell ⟨w.heap.size, 2, none⟩ (.slice b1 m dd)).cell? ⟨w.heap.size, 1, none⟩ = some (.slice a1 n c1) := by
    rw [cs_other (by decide)]; exact cs_same (by rw [cs_other (by decide)]; exact e1)
  have d2 : (((w4.setCell ⟨w.heap.size, 0, none⟩ (.bool B)).setCell ⟨w.heap.size, 1, none⟩ (.slice a1 n c1)).setCell ⟨w.heap.size, 2, none⟩ (.slice b1 m dd)).cell? ⟨w.heap.size, 2, none⟩ = some (.slice b1 m dd) :=
    cs_same (by rw [cs_other (by decide), cs_other (by decide)]; exact e2)
  have kk : Chg (zRow w.heap.size 0 3) w4 (((w4.setCell ⟨w.heap.size, 0, none⟩ (.bool B)).setCell ⟨w.heap.size, 1, none⟩ (.slice a1 n c1)).setCell ⟨w.heap.size, 2, none⟩ (.slice b1 m dd)) :=
    (((Chg.refl _ _).setCell _ 0 _ (fun _ => ⟨rfl, by omega, by omega⟩)).setCell _ 1 _ (fun _ => ⟨rfl, by omega, by omega⟩)).setCell _ 2 _ (fun _ => ⟨rfl, by omega, by omega⟩)
  refine bodyPost_ret (v := .agg #[.bool B, .slice a1 n c1, (.slice b1 m dd)]) (by simp [results, Tryz.results43, go_sem, d0, d1, d2]) rfl ?_
  have hsz : w.heap.size < (w.alloc (.cells #[.bool false, .slice none 0 0, .slice none 0 0] 31)).heap.size := by
    show _ < (w.heap.push _).size
    simp
  obtain ⟨h1, h2, h3, h4, h5⟩ := H.out
  obtain ⟨j1, j2, j3, j4, j5⟩ := J.out
  have hsz2 := h5.size
  have up : ∀ {w0 : World} {x : Option Addr}, w.heap.size ≤ w0.heap.size → Fresh w0 x → Fresh w x := fun hle hf => by
    rcases hf with h | ⟨b, o, e, hb⟩
    · exact Or.inl h
    · exact Or.inr ⟨b, o, e, by omega⟩
  refine ⟨a1, c1, b1, dd, by rw [HBB.out], rd_far (rd_far h4 j5 (fun _ _ _ _ _ h => h)) kk ?_, rd_far j4 kk ?_, up (by omega) h3, up (by omega) j3, ((HK.out.trans h5 (fun _ _ _ h => h)).trans j5 (fun _ _ _ h => h)).trans kk (fun b o hb hh => by have := hh.1; omega)⟩
  · rintro b o i e _ hh
    exact fresh_far h3 hsz e hh.1
  · rintro b o i e _ hh
    exact fresh_far j3 (show w.heap.size < w2.heap.size by omega) e hh.1
end Go.Proofs.YtmgfajamanakcaaGreatDoor
