/-
  The greatest common divisor of 1 and of another word, walked: NewInt(0), lehmerGCD. Conditions: the cells as IntC says.
  slices.Grow for nat and for []Word, walked. Conditions: the slice is nil or lies at a plain address; its length and the number asked for are below 2^40 together.
  The temporary stack: what it holds; save, restore, free walked. Conditions: as Stk says.
-/
import Derived.Test.YtmgfajamanakcaaGreatDoorQ22
import Derived.Deep.QuietTactic
import Derived.Deep.LoopGhost
import Derived.Outline
import Derived.Test.YtmgfajamanakcaaGreatDoorQ13
import Derived.Lib.AppendZerosOnto
import Derived.Test.YtmgfajamanakcaaGreatDoorQ07
import Derived.Defers
import Derived.Laws.Pointers
namespace Go.Proofs.YtmgfajamanakcaaGreatDoor
open Go.RowKit
set_option maxRecDepth 100000
set_option linter.unusedVariables false
theorem NewInt_zero (w : World) : Calls Tryz.prog 142 #[.int .i64 0] w fun e w' => e = .returned (.pointer (some ⟨w.heap.size, 0, none⟩)) ∧ w' = w.alloc (.cells #[.bool false, .slice none 0 0] 122) := by
  go_enter Tryz.func142, Tryz.ntmps142
  go_wp2
  go_ret
  exact ⟨rfl, rfl⟩
theorem getStack_any (w : World) : Calls Tryz.prog 100 #[] w fun e w' => e = .returned (.pointer (some ⟨w.heap.size, 0, none⟩)) ∧ w' = w.alloc (.cells #[.pointer none] 208) := by
  go_enter Tryz.func100, Tryz.ntmps100
  go_wp2
  go_ret
  exact ⟨rfl, rfl⟩
theorem free_none (p : Nat) (u : FrameMode) (w : World) (h : w.cell? ⟨p, 0, none⟩ = some (.pointer none)) :
    CallsD Tryz.prog 101 #[.pointer (some ⟨p, 0, none⟩)] u w fun e u' w' => u' = u ∧ (e = .returned (.tuple #[]) ∧ w' = w) := by
  go_enter_d Tryz.func101, Tryz.ntmps101
  go_wp2
  go_end0
  exact ⟨rfl, rfl⟩
theorem intOne_any (w : World) : Calls Tryz.prog 145 #[] w fun e w' => e = .returned (.pointer (some ⟨w.heap.size + 1, 0, none⟩)) ∧ w' = (w.alloc (.cells #[.int .u64 1] 153)).alloc (.cells #[.bool false, .slice (some ⟨w.heap.size, 0, none⟩) 1 1] 122) := by
  go_enter Tryz.func145, Tryz.ntmps145
  go_wp2
  go_ret
  exact ⟨rfl, rfl⟩
theorem int_ptr_eq (w : World) {b o b' o' : Nat} (h : PB w b) (h' : PB w b') (hB : ¬ (b = b' ∧ o = o')) :
    (binOp .eql 130 (.pointer (some ⟨b, o, none⟩)) (.pointer (some ⟨b', o', none⟩))).run Tryz.prog w = .ok (.bool false) w := by
  cases hi : Tryz.prog.info? 122 with
  | none => have := info122; rw [hi] at this; cases this
  | some i =>
    have hs : i.size = 2 := by have := info122; rw [hi] at this; simpa using this
    obtain ⟨cs, t, h⟩ := h
    obtain ⟨cs', t', h'⟩ := h'
    exact run_eql_ptr_other w Tryz.underlying130 hi (by omega) (fun (e : (⟨b, o, none⟩ : Addr) = ⟨b', o', none⟩) => hB (by injection e with e1 e2; exact ⟨e1, e2⟩)) h h'
theorem NatIn.drewN {w : World} {a : Option Addr} {n c : Nat} {X : Nat → Int} (h : NatIn w a n c X) (k : Nat) : NatIn (w.drewN k) a n c X := ⟨h.rd, h.wf, h.le, h.small, h.aok⟩
set_option maxHeartbeats 2000000 in
/-- Cmp of two numbers that are not negative. -/
theorem Cmp_pos (xb xo yb yo : Nat) (ax ay : Option Addr) (xn xc yn yc : Nat) (X Y : Nat → Int) (w : World) (hx : IntC w xb xo false ax xn xc) (hy : IntC w yb yo false ay yn yc) (hxi : NatIn w ax xn xc X) (hyi : NatIn w ay yn yc Y) (hnx : Norm X xn) (hny : Norm Y yn)
    (hpx : PB w xb) (hpy : PB w yb) (hne : ¬ (xb = yb ∧ xo = yo)) :
    Calls Tryz.prog 144 #[.pointer (some ⟨xb, xo, none⟩), .pointer (some ⟨yb, yo, none⟩)] w (CmpPost w (val X xn) (val Y yn)) := by
  have hp := int_ptr_eq w hpx hpy hne
  have HC := Lib.hid (fun n => cmp_any ax ay xn xc yn yc X Y (w.drewN n) (hxi.drewN n) (hyi.drewN n) hnx hny)
  obtain ⟨x0, x1, x2, x3⟩ := hx
  obtain ⟨y0, y1, y2, y3⟩ := hy
  obtain ⟨cv, hcv⟩ : ∃ v, cmpV (val X xn) (val Y yn) = v := ⟨_, rfl⟩
  have Hcv := Lib.hid hcv
  clear hxi hyi hnx hny hpx hpy hne hcv
  go_enter Tryz.func144, Tryz.ntmps144
  go_wp2_with fail
  go_quiet (fail)
  go_wp2_with fail
  go_cut [4] (fun s4 wc => s4 = .int .i64 cv ∧ ∃ n, wc = w.drewN n)
  case first =>
    go_region_with (go_at_call 108; go_loud (refine (HC.out (nq + 1)).mono ?_; rintro e w1 ⟨rfl, n1, rfl⟩))
    all_goals rw [Hcv.out]
    all_goals go_wp2
    all_goals go_meet
    all_goals exact ⟨rfl, _, rfl⟩
  case rest =>
    obtain ⟨rfl, n, rfl⟩ := hcut
    go_wp2
    go_ret
    exact ⟨by rw [Hcv.out]; rfl, n, rfl⟩
end Go.Proofs.YtmgfajamanakcaaGreatDoor
namespace Go.Proofs.YtmgfajamanakcaaGreatDoor
open Go.RowKit
set_option maxRecDepth 100000
set_option linter.unusedVariables false
theorem room_zeros (w : World) (X : Nat → Int) (c m r : Nat) : Room (w.alloc (.cells ((wordVals X c).toArray ++ Builtin.zeroCells #[.int .u64 0] m ++ Builtin.zeroCells #[.int .u64 0] r) 153)) w.heap.size 0 (c + m + r) := by
  have e : (wordVals X c).toArray ++ Builtin.zeroCells #[.int .u64 0] m ++ Builtin.zeroCells #[.int .u64 0] r = (wordVals X c).toArray ++ Array.replicate (m + r) (.int .u64 0) := by
    rw [zeroCells_word, zeroCells_word, Array.append_assoc]
    congr 1
    apply Array.ext
    · simp
    · intro i h1 h2
      simp
  rw [e]
  have := (new_words w X c (m + r)).2
  rwa [← Nat.add_assoc] at this
def GrowPost (w : World) (a : Option Addr) (n c k : Nat) (e : Ending) (w' : World) : Prop :=
  ∃ a' c', e = .returned (.slice a' n c') ∧ n + k ≤ c' ∧ ZOK w' a' c' ∧ Home w a c a' c' ∧ Chg zNone w w'
theorem grow_new (w : World) (X : Nat → Int) (a : Option Addr) (n c k : Nat) (hc : c < n + k) (hn : n ≤ c) (hk : n + k < 1099511627776) :
    n + k ≤ grownCap w (n + k) c 153 ∧ ZOK (w.drew.alloc (.cells ((wordVals X c).toArray ++ Builtin.zeroCells #[.int .u64 0] (n + k - c) ++ Builtin.zeroCells #[.int .u64 0] (grownCap w (n + k) c 153 - (n + k))) 153)) (some ⟨w.heap.size, 0, none⟩) (grownCap w (n + k) c 153) ∧
    Home w a c (some ⟨w.heap.size, 0, none⟩) (grownCap w (n + k) c 153) := by
  have hg := grownCap_ge w (n + k) c 153 (by omega)
  refine ⟨hg.1, Or.inr ⟨_, _, rfl, PB.new w.drew _ _, ?_, hg.2⟩, Or.inr ⟨_, _, rfl, Nat.le_refl _⟩⟩
  have := room_zeros w.drew X c (n + k - c) (grownCap w (n + k) c 153 - (n + k))
  rwa [show c + (n + k - c) + (grownCap w (n + k) c 153 - (n + k)) = grownCap w (n + k) c 153 by omega] at this
theorem first_words {w : World} {b o c : Nat} {X : Nat → Int} (hw : Words w b o c X) : (Builtin.firstCells 1 c (.slice (some ⟨b, o, none⟩) c c)).run Tryz.prog w = .ok (wordVals X c).toArray w := by
  refine run_firstCells_some w 1 c ⟨b, o, none⟩ c c (wordVals X c) (by rw [wordVals_length, Nat.mul_one]) (fun j v h => ?_)
  obtain ⟨hj, rfl⟩ := wordVals_get X c j v h
  have := hw j hj
  by_cases h0 : j = 0
  · subst h0; simpa [Addr.add] using this
  · simpa [Addr.add, h0] using this
/-- An append of zeros onto a slice that is full. -/
theorem run_zeros (t : TypeId) (ty : TypeId) (hu : Tryz.prog.underlying t = some (.slice 153)) (a : Option Addr) (n c k : Nat) (w : World) (hz : ZOK w a c) (hn : n ≤ c) (hf : c < n + k) (hk : n + k < 1099511627776) :
    ∃ a' c' w', (Builtin.append_ #[t, 3] ty #[.slice a c c, .int .i64 ((n + k - c : Nat) : Int)]).run Tryz.prog w = .ok (.slice a' (n + k) c') w' ∧ n + k ≤ c' ∧ ZOK w' a' c' ∧ Home w a c a' c' ∧ Chg zNone w w' := by
  obtain ⟨i0, hi, hz0, hz1, hz2⟩ := info_parts info153
  rcases hz with ⟨rfl, rfl⟩ | ⟨b, o, rfl, hb, hroom, hcap⟩
  · obtain rfl : n = 0 := by omega
    have h := Lib.run_append_nil_zeros (P := Tryz.prog) w t 3 ty 153 i0 (.int .u64 0) .i64 .i64 hu Tryz.underlying3 hi hz0 k (by omega) (by omega) (by omega) (by rw [hz2]; omega)
    obtain ⟨g1, g2, g3⟩ := grow_new w (fun _ => 0) none 0 0 k (by omega) (by omega) (by omega)
    simp only [Nat.zero_add, Nat.sub_zero] at g1 g2 g3 ⊢
    have e : (wordVals (fun _ => 0) 0).toArray = #[] := rfl
    rw [e, Array.empty_append] at g2
    rw [show ((Value.int .u64 0).cells) = #[Value.int .u64 0] from rfl] at h
    exact ⟨_, _, _, h, g1, g2, g3, ((Chg.refl _ _).drew).alloc _⟩
  · obtain ⟨X, hX⟩ := hroom.words
    have h := Lib.run_append_grow_zeros (P := Tryz.prog) w t 3 ty 153 i0 (.int .u64 0) .i64 .i64 hu Tryz.underlying3 hi hz0 (some ⟨b, o, none⟩) c c (wordVals X c) (by rw [hz1]; exact first_words (w := w.drew) hX) (n + k - c) (by omega) (by omega) (by omega) (by omega) (by rw [hz2]; omega)
      (by rw [hz2]; exact growslice_fits (by omega) (by omega))
    rw [show c + (n + k - c) = n + k by omega, show ((Value.int .u64 0).cells) = #[Value.int .u64 0] from rfl] at h
    obtain ⟨g1, g2, g3⟩ := grow_new w X (some ⟨b, o, none⟩) n c k hf hn hk
    exact ⟨_, _, _, h, g1, g2, g3, ((Chg.refl _ _).drew).alloc _⟩

set_option maxHeartbeats 2000000 in
theorem grow220_any (a : Option Addr) (n c k : Nat) (w : World) (hz : ZOK w a c) (hn : n ≤ c) (hk : n + k < 1099511627776) :
    Calls Tryz.prog 220 #[.slice a n c, .int .i64 (k : Int)] w (GrowPost w a n c k) := by
  have hcap := hz.cap
  have h0 : decide ((k : Int) < 0) = false := by simp
  have s1 : IntKind.i64.wrap ((c : Int) - (n : Int)) = (c : Int) - (n : Int) := IntWalk.i64_in _ (by omega)
  have s2 : IntKind.i64.wrap ((k : Int) - ((c : Int) - (n : Int))) = (k : Int) - ((c : Int) - (n : Int)) := IntWalk.i64_in _ (by omega)
  by_cases hf : n + k ≤ c
  · have h1 : decide ((0 : Int) < (k : Int) - ((c : Int) - (n : Int))) = false := by simp; omega
    have HZ := Lib.hid hz
    clear hz
    go_enter Tryz.func220, Tryz.ntmps220
    go_wp2
    go_ret
    exact ⟨a, c, rfl, hf, HZ.out, Or.inl ⟨rfl, rfl⟩, Chg.refl _ _⟩
  · have h1 : decide ((0 : Int) < (k : Int) - ((c : Int) - (n : Int))) = true := by simp; omega
    have h2 : (k : Int) - ((c : Int) - (n : Int)) = ((n + k - c : Nat) : Int) := by omega
    have h3 : (0 : Int) ≤ (c : Int) := by omega
    go_enter Tryz.func220, Tryz.ntmps220
    obtain ⟨a', c', w', hrun, q1, q2, q3, q4⟩ := run_zeros 120 120 Tryz.underlying120 a n c k w hz hn (by omega) hk
    have HR := Lib.hid hrun
    have HQ := Lib.hid (And.intro q1 (And.intro q2 (And.intro q3 q4)))
    have h4 : (0 : Int) ≤ (n : Int) := by omega
    have h5 : (n : Int) ≤ (c' : Int) := by omega
    clear hrun q2 q3 q4 hz
    go_wp2_with (refine Lib.wpList_append_run _ rfl (.tmp 20) (.tmp 21) 120 3 rfl (.slice a c c) (.int .i64 ((n + k - c : Nat) : Int)) rfl rfl _ _ HR.out ?_)
    go_ret
    obtain ⟨q1, q2, q3, q4⟩ := HQ.out
    exact ⟨a', c', rfl, q1, q2, q3, q4⟩

set_option maxHeartbeats 2000000 in
theorem grow248_any (a : Option Addr) (n c k : Nat) (w : World) (hz : ZOK w a c) (hn : n ≤ c) (hk : n + k < 1099511627776) :
    Calls Tryz.prog 248 #[.slice a n c, .int .i64 (k : Int)] w (GrowPost w a n c k) := by
  have hcap := hz.cap
  have h0 : decide ((k : Int) < 0) = false := by simp
  have s1 : IntKind.i64.wrap ((c : Int) - (n : Int)) = (c : Int) - (n : Int) := IntWalk.i64_in _ (by omega)
  have s2 : IntKind.i64.wrap ((k : Int) - ((c : Int) - (n : Int))) = (k : Int) - ((c : Int) - (n : Int)) := IntWalk.i64_in _ (by omega)
  by_cases hf : n + k ≤ c
  · have h1 : decide ((0 : Int) < (k : Int) - ((c : Int) - (n : Int))) = false := by simp; omega
    have HZ := Lib.hid hz
    clear hz
    go_enter Tryz.func248, Tryz.ntmps248
    go_wp2
    go_ret
    exact ⟨a, c, rfl, hf, HZ.out, Or.inl ⟨rfl, rfl⟩, Chg.refl _ _⟩
  · have h1 : decide ((0 : Int) < (k : Int) - ((c : Int) - (n : Int))) = true := by simp; omega
    have h2 : (k : Int) - ((c : Int) - (n : Int)) = ((n + k - c : Nat) : Int) := by omega
    have h3 : (0 : Int) ≤ (c : Int) := by omega
    go_enter Tryz.func248, Tryz.ntmps248
    obtain ⟨a', c', w', hrun, q1, q2, q3, q4⟩ := run_zeros 119 119 Tryz.underlying119 a n c k w hz hn (by omega) hk
    have HR := Lib.hid hrun
    have HQ := Lib.hid (And.intro q1 (And.intro q2 (And.intro q3 q4)))
    have h4 : (0 : Int) ≤ (n : Int) := by omega
    have h5 : (n : Int) ≤ (c' : Int) := by omega
    clear hrun q2 q3 q4 hz
    go_wp2_with (refine Lib.wpList_append_run _ rfl (.tmp 20) (.tmp 21) 119 3 rfl (.slice a c c) (.int .i64 ((n + k - c : Nat) : Int)) rfl rfl _ _ HR.out ?_)
    go_ret
    obtain ⟨q1, q2, q3, q4⟩ := HQ.out
    exact ⟨a', c', rfl, q1, q2, q3, q4⟩
end Go.Proofs.YtmgfajamanakcaaGreatDoor
namespace Go.Proofs.YtmgfajamanakcaaGreatDoor
open Go.RowKit
set_option maxRecDepth 100000
set_option linter.unusedVariables false
/-- An inner stack: its block, its words. -/
structure SD where
  q : Nat
  a : Option Addr
  L : Nat
  c : Nat
/-- The stack at block p. -/
def Stk (w : World) (p : Nat) : Option SD → Prop
  | none => w.cell? ⟨p, 0, none⟩ = some (.pointer none) ∧ w.frozen? ⟨p, 0, none⟩ = false
  | some d => (w.cell? ⟨p, 0, none⟩ = some (.pointer (some ⟨d.q, 0, none⟩)) ∧ w.frozen? ⟨p, 0, none⟩ = false) ∧ (w.cell? ⟨d.q, 0, none⟩ = some (.slice d.a d.L d.c) ∧ w.frozen? ⟨d.q, 0, none⟩ = false) ∧ d.L ≤ d.c ∧ ZOK w d.a d.c ∧ d.q ≠ p ∧ ∀ b o, d.a = some ⟨b, o, none⟩ → b ≠ p ∧ b ≠ d.q
/-- What the stack's functions may write. -/
def zStk (p : Nat) : Option SD → Zone
  | none => zRow p 0 1
  | some d => fun b o => zRow p 0 1 b o ∨ zRow d.q 0 1 b o ∨ ∃ po, d.a = some ⟨b, po, none⟩ ∧ po + d.L ≤ o ∧ o < po + d.c
def stkL : Option SD → Nat
  | none => 0
  | some d => d.L
/-- The stack has grown from d to d'. -/
def StkFrom (w0 : World) : Option SD → Option SD → Prop
  | none, none => True
  | some _, none => False
  | none, some d' => w0.heap.size ≤ d'.q ∧ Fresh w0 d'.a
  | some d, some d' => d'.q = d.q ∧ d.L ≤ d'.L ∧ ((d'.a = d.a ∧ d'.c = d.c) ∨ Fresh w0 d'.a)
theorem Fresh.base {w0 w1 : World} {a : Option Addr} (h : Fresh w1 a) (hw : w0.heap.size ≤ w1.heap.size) : Fresh w0 a := by
  rcases h with h | ⟨b, o, e, hb⟩
  · exact Or.inl h
  · exact Or.inr ⟨b, o, e, by omega⟩
theorem StkFrom.refl {w0 : World} {d : Option SD} : StkFrom w0 d d := by
  cases d with
  | none => trivial
  | some d => exact ⟨rfl, Nat.le_refl _, Or.inl ⟨rfl, rfl⟩⟩
theorem StkFrom.trans {w0 w1 : World} {d d1 d2 : Option SD} (h : StkFrom w0 d d1) (k : StkFrom w1 d1 d2) (hw : w0.heap.size ≤ w1.heap.size) : StkFrom w0 d d2 := by
  cases d with
  | none => cases d1 with
    | none => cases d2 with
      | none => trivial
      | some d2 => exact ⟨by have := k.1; omega, k.2.base hw⟩
    | some d1 => cases d2 with
      | none => exact k.elim
      | some d2 =>
        refine ⟨by have := k.1; have := h.1; omega, ?_⟩
        rcases k.2.2 with ⟨e, _⟩ | e
        · rw [e]; exact h.2
        · exact e.base hw
  | some d => cases d1 with
    | none => exact h.elim
    | some d1 => cases d2 with
      | none => exact k.elim
      | some d2 =>
        refine ⟨k.1.trans h.1, Nat.le_trans h.2.1 k.2.1, ?_⟩
        rcases k.2.2 with ⟨e1, e2⟩ | e
        · rw [e1, e2]; exact h.2.2
        · exact Or.inr (e.base hw)
theorem StkFrom.zone {w0 : World} {p : Nat} {d d' : Option SD} (h : StkFrom w0 d d') : ∀ b o, b < w0.heap.size → zStk p d' b o → zStk p d b o := by
  intro b o hb hz
  cases d with
  | none => cases d' with
    | none => exact hz
    | some d' =>
      rcases hz with hz | hz | ⟨po, e, _⟩
      · exact hz
      · have := h.1; have := hz.1; omega
      · rcases h.2 with h | ⟨b', o', h, hb'⟩
        · rw [h] at e; cases e
        · rw [h] at e; injection e with e; injection e with e1 _; omega
  | some d => cases d' with
    | none => exact h.elim
    | some d' =>
      rcases hz with hz | hz | ⟨po, e, h1, h2⟩
      · exact Or.inl hz
      · exact Or.inr (Or.inl (by rw [← h.1]; exact hz))
      · rcases h.2.2 with ⟨e1, e2⟩ | hf
        · exact Or.inr (Or.inr ⟨po, by rw [← e1]; exact e, by have := h.2.1; omega, by rw [← e2]; exact h2⟩)
        · rcases hf with h | ⟨b', o', h, hb'⟩
          · rw [h] at e; cases e
          · rw [h] at e; injection e with e; injection e with e1 _; omega
theorem ZOK.ints {Z : Zone} {w w' : World} {a : Option Addr} {c : Nat} (h : ZOK w a c) (k : Chg Z w w') (hz : ∀ b o, zAddr a c b o → Z b o → ∃ x : Int, w'.cell? ⟨b, o, none⟩ = some (.int .u64 x)) : ZOK w' a c := by
  rcases h with h | ⟨b, o, rfl, hp, hr, hc⟩
  · exact Or.inl h
  · refine Or.inr ⟨b, o, rfl, hp.chg k, fun i hi => ?_, hc⟩
    obtain ⟨⟨x, hx⟩, hf⟩ := hr i hi
    refine ⟨?_, by rw [k.frozen hx]; exact hf⟩
    by_cases hh : Z b (o + i)
    · exact hz b (o + i) ⟨o, rfl, by omega, by omega⟩ hh
    · exact ⟨x, k.cell hx hh⟩
/-- The stack behind a change that leaves its two cells alone, and its words words. -/
theorem Stk.chg {Z : Zone} {w w' : World} {p : Nat} {d : Option SD} (h : Stk w p d) (k : Chg Z w w') (hp : ¬ Z p 0) (hq : ∀ s, d = some s → ¬ Z s.q 0 ∧ ∀ b o, zAddr s.a s.c b o → Z b o → ∃ x : Int, w'.cell? ⟨b, o, none⟩ = some (.int .u64 x)) : Stk w' p d := by
  cases d with
  | none => exact ⟨k.cell h.1 hp, (k.frozen h.1 _).trans h.2⟩
  | some d =>
    obtain ⟨⟨h1, h2⟩, ⟨h3, h4⟩, h5, h6, h7, h8⟩ := h
    obtain ⟨g1, g2⟩ := hq d rfl
    exact ⟨⟨k.cell h1 hp, (k.frozen h1 _).trans h2⟩, ⟨k.cell h3 g1, (k.frozen h3 _).trans h4⟩, h5, h6.ints k g2, h7, h8⟩
theorem save_any (p : Nat) (d : Option SD) (w : World) (h : Stk w p d) : Calls Tryz.prog 168 #[.pointer (some ⟨p, 0, none⟩)] w fun e w' => e = .returned (.int .i64 (stkL d)) ∧ w' = w := by
  cases d with
  | none =>
    obtain ⟨h1, h2⟩ := h
    go_enter Tryz.func168, Tryz.ntmps168
    go_wp2
    go_ret
    exact ⟨rfl, rfl⟩
  | some d =>
    obtain ⟨q, a, L, c⟩ := d
    obtain ⟨⟨h1, h2⟩, ⟨h3, h4⟩, h5, h6, h7, h8⟩ := h
    simp only at h1 h2 h3 h4
    clear h5 h6 h7 h8
    go_enter Tryz.func168, Tryz.ntmps168
    go_wp2
    go_ret
    exact ⟨rfl, rfl⟩
/-- restore, deferred. -/
def RestPost (w : World) (p : Nat) (d : Option SD) (k : Nat) (w' : World) : Prop :=
  ∃ d', Stk w' p d' ∧ d' = d.map (fun s => { s with L := k }) ∧ Chg (match d with | none => zNone | some s => zRow s.q 0 1) w w'
theorem restore_d (p : Nat) (d : Option SD) (k : Nat) (u : FrameMode) (w : World) (h : Stk w p d) (hk : k ≤ stkL d) :
    CallsD Tryz.prog 167 #[.pointer (some ⟨p, 0, none⟩), .int .i64 (k : Int)] u w fun e u' w' => u' = u ∧ (e = .returned (.tuple #[]) ∧ RestPost w p d k w') := by
  cases d with
  | none =>
    have H := Lib.hid h
    obtain ⟨h1, h2⟩ := h
    go_enter_d Tryz.func167, Tryz.ntmps167
    go_wp2
    refine bodyPost_ret (results_none rfl _ _ _) rfl ?_
    exact ⟨rfl, none, H.out, rfl, Chg.refl _ _⟩
  | some d =>
    obtain ⟨q, a, L, c⟩ := d
    have H := Lib.hid h
    obtain ⟨⟨h1, h2⟩, ⟨h3, h4⟩, h5, h6, h7, h8⟩ := h
    simp only [stkL] at h1 h2 h3 h4 h5 hk
    have hq1 : (0 : Int) ≤ (k : Int) := by omega
    have hq2 : (k : Int) ≤ (c : Int) := by omega
    have hq3 : (k : Int) ≤ (L : Int) := by omega
    clear h6 h7 h8
    go_enter_d Tryz.func167, Tryz.ntmps167
    go_wp2
    go_end0
    go_wp2
    go_end0
    refine ⟨rfl, some ⟨q, a, k, c⟩, ?_, rfl, chg_cell _ _ _ _⟩
    obtain ⟨⟨h1, h2⟩, ⟨h3, h4⟩, h5, h6, h7, h8⟩ := H.out
    have kk := chg_cell w q 0 (.slice a k c)
    refine ⟨⟨kk.cell h1 (fun h => h7 h.1.symm), by rw [fz_set]; exact h2⟩, ⟨cs_same h3, by rw [fz_set]; exact h4⟩, ?_, h6.chg kk ?_, h7, h8⟩
    · simp only at h5 ⊢; omega
    · rintro b o ⟨po, e, _⟩ hh
      exact (h8 b po e).2 hh.1
end Go.Proofs.YtmgfajamanakcaaGreatDoor
