/- Part of the proof of FnParse: what the functions that it reaches do, as contracts. Conditions: those that each theorem names. -/
import Derived.Test.YtmgfajamanakcaaGreatDoorD04
import Derived.ArgAppend
import Derived.Test.YtmgfajamanakcaaGreatDoorD18
import Derived.Deep.LoopGhost
import Derived.Outline
import Derived.Deep.QuietTactic
import Derived.Test.YtmgfajamanakcaaGreatDoorD11
import Derived.Lib.AppendZerosOnto
import Derived.Test.YtmgfajamanakcaaGreatDoorD05
import Derived.Defers
import Derived.Laws.Pointers
import Derived.Deep.DeepCutAuto
import Derived.Deep.CutBlock
import Derived.Deep.RegionHeld3
import Derived.StillTailTactics
import Derived.Test.YtmgfajamanakcaaGreatDoorD15
import Derived.Lib.TrailingZeros
import Derived.Test.YtmgfajamanakcaaGreatDoorD03
namespace Go.Proofs.YtmgfajamanakcaaGreatDoor
set_option linter.unusedVariables false
set_option linter.unusedSimpArgs false
open Go.RowKit
set_option maxRecDepth 100000
theorem info22 : (Tryz.prog.info? 22).map (fun i => (i.zero, i.size, i.bytes)) = some (some (.int .u64 0), 1, 8) := by kernel_rfl
theorem new_uints (w : World) (X : Nat → Int) (n k : Nat) :
    Words (w.alloc (.cells ((wordVals X n).toArray ++ Array.replicate k (.int .u64 0)) 22)) w.heap.size 0 n X ∧ Room (w.alloc (.cells ((wordVals X n).toArray ++ Array.replicate k (.int .u64 0)) 22)) w.heap.size 0 (n + k) := by
  have hget : ∀ i, i < n → ((wordVals X n).toArray ++ Array.replicate k (Value.int .u64 0))[i]? = some (.int .u64 (X i)) := fun i hi => by
    rw [Array.getElem?_append_left (by simpa [wordVals] using hi)]
    simp [wordVals, hi]
  have hget2 : ∀ i, n ≤ i → i < n + k → ((wordVals X n).toArray ++ Array.replicate k (Value.int .u64 0))[i]? = some (.int .u64 0) := fun i h1 h2 => by
    rw [Array.getElem?_append_right (by simpa [wordVals] using h1)]
    simp only [List.size_toArray, wordVals_length]
    rw [Array.getElem?_replicate, if_pos (by omega)]
  refine ⟨fun i hi => ?_, fun i hi => ⟨?_, frozen?_alloc_new w _ _ _⟩⟩
  · rw [Nat.zero_add]; exact cell?_alloc_new w _ _ _ _ (hget i hi)
  · rw [Nat.zero_add]
    by_cases h : i < n
    · exact ⟨_, cell?_alloc_new w _ _ _ _ (hget i h)⟩
    · exact ⟨_, cell?_alloc_new w _ _ _ _ (hget2 i (by omega) hi)⟩
theorem run_append_uint (a : Option Addr) (n c : Nat) (X : Nat → Int) (x : Int) (W : World) (hz : ZOK W a c) (hr : Rd W a n X) (hnc : n ≤ c) (hn : n < 1099511627776) (ad : Addr) (hx : W.cell? ad = some (.int .u64 x)) (ty : TypeId) :
    ∃ a' c' W', (Builtin.append_ #[23, 23] ty #[.slice a n c, .slice (some ad) 1 1]).run Tryz.prog W = .ok (.slice a' (n + 1) c') W' ∧ AppRes W a n c X x a' c' W' := by
  obtain ⟨i0, hi, hz0, hz1, hz2⟩ := info_parts info22
  have hnews : ∀ j v, [Value.int .u64 x][j]? = some v → W.cell? (ad.add j) = some v := fun j v h => by
    cases j with
    | zero => simp at h; subst h; simpa [Addr.add] using hx
    | succ j => simp at h
  have hupd : ∀ i, i < n → X i = upd X n x i := fun i hi => (upd_other X x (by omega)).symm
  rcases hz with ⟨rfl, rfl⟩ | ⟨b, o, rfl, hb, hroom, hcap⟩
  · obtain rfl : n = 0 := by omega
    have hrun := run_append_nil (P := Tryz.prog) W 23 ty 22 i0 (.int .u64 0) Tryz.underlying23 hi hz0 ad 1 1 [.int .u64 x] (by rw [hz1]; rfl) hnews (by omega) (by omega) (by rw [hz2]; omega)
    have hg := grownCap_ge W 1 0 22 (by omega)
    have hw := new_uints W.drew (fun _ => x) 1 (grownCap W 1 0 22 - 1)
    rw [show ((Value.int .u64 0).cells) = #[Value.int .u64 0] from rfl, zeroCells_word] at hrun
    refine ⟨_, _, _, hrun, by omega, Or.inr ⟨_, _, rfl, PB.new W.drew _ _, ?_, hg.2⟩, Or.inr ⟨_, _, rfl, ?_⟩, Or.inr ⟨_, _, rfl, Nat.le_refl _⟩, chg_drew_alloc _ _ _⟩
    · have := hw.2
      rwa [show 1 + (grownCap W 1 0 22 - 1) = grownCap W 1 0 22 by omega] at this
    · exact hw.1.congr (fun i hi => by obtain rfl : i = 0 := by omega
                                       exact (upd_same X 0 x).symm)
  · have hX : n = 0 ∨ Words W b o n X := by
      rcases hr with h | ⟨b', o', e, hw⟩
      · exact Or.inl h
      · injection e with e; injection e with e1 e2; subst e1; subst e2; exact Or.inr hw
    have hX' : Words W b o n X := by
      rcases hX with h | h
      · intro i hi; omega
      · exact h
    by_cases hfit : n + 1 ≤ c
    · have hrun := run_append_room_cells (P := Tryz.prog) W 23 ty 22 i0 Tryz.underlying23 hi b o n c ad 1 1 [.int .u64 x] (by rw [hz1]; rfl) hnews (fun u hu => by simp at hu; subst hu; rfl) hfit
        (fun j hj => by
          obtain rfl : j = 0 := by simp at hj; exact hj
          rw [hz1, Nat.mul_one, Nat.add_zero]
          obtain ⟨⟨y, hy⟩, _⟩ := hroom n (by omega)
          rw [hy]; rfl)
        (fun j hj => by
          obtain rfl : j = 0 := by simp at hj; exact hj
          rw [hz1, Nat.mul_one, Nat.add_zero]
          exact (hroom n (by omega)).2)
      rw [hz1, Nat.mul_one] at hrun
      have hwd : W.setCells b (o + n) [.int .u64 x] = W.setCell ⟨b, o + n, none⟩ (.int .u64 x) := rfl
      rw [hwd] at hrun
      refine ⟨_, _, _, hrun, hfit, ?_, Or.inr ⟨b, o, rfl, hX'.snoc ?_⟩, Or.inl ⟨rfl, rfl⟩, (Chg.refl _ _).setCell b (o + n) _ (fun _ => ⟨o, rfl, by omega, by omega⟩)⟩
      · exact ZOK.setInt (Or.inr ⟨b, o, rfl, hb, hroom, hcap⟩) b (o + n) x
      · obtain ⟨⟨y, hy⟩, _⟩ := hroom n (by omega)
        rw [hy]; rfl
    · have holds : ∀ j v, (wordVals X n)[j]? = some v → W.cell? ((⟨b, o, none⟩ : Addr).add j) = some v := fun j v h => by
        obtain ⟨hj, rfl⟩ := wordVals_get X n j v h
        have := hX' j hj
        by_cases h0 : j = 0
        · subst h0; simpa [Addr.add] using this
        · simpa [Addr.add, h0] using this
      have hrun := run_append_grow (P := Tryz.prog) W 23 ty 22 i0 (.int .u64 0) Tryz.underlying23 hi hz0 ⟨b, o, none⟩ n c (wordVals X n) (by rw [wordVals_length, hz1, Nat.mul_one]) holds ad 1 1 [.int .u64 x] (by rw [hz1]; rfl) hnews (by omega) (by omega)
        (by rw [hz2]; exact growslice_fits (by omega) (by omega))
      have hg := grownCap_ge W (n + 1) c 22 (by omega)
      have hcat : (wordVals X n).toArray ++ [Value.int .u64 x].toArray = (wordVals (upd X n x) (n + 1)).toArray := by
        unfold wordVals
        rw [List.range_succ, List.map_append]
        simp only [List.map_cons, List.map_nil, upd_same]
        rw [← List.append_toArray]
        congr 2
        apply List.map_congr_left
        intro i hi'
        rw [upd_other X x (by have := List.mem_range.1 hi'; omega)]
      rw [show ((Value.int .u64 0).cells) = #[Value.int .u64 0] from rfl, zeroCells_word, hcat] at hrun
      have hw := new_uints W.drew (upd X n x) (n + 1) (grownCap W (n + 1) c 22 - (n + 1))
      refine ⟨_, _, _, hrun, by omega, Or.inr ⟨_, _, rfl, PB.new W.drew _ _, ?_, hg.2⟩, Or.inr ⟨_, _, rfl, hw.1⟩, Or.inr ⟨_, _, rfl, Nat.le_refl _⟩, chg_drew_alloc _ _ _⟩
      have := hw.2
      rwa [show n + 1 + (grownCap W (n + 1) c 22 - (n + 1)) = grownCap W (n + 1) c 22 by omega] at this
theorem wpList_append_uint {ops : Array Oper} {rest : List Oper} {o : Oper} {act : Act} {w : World} {Q : Exit → Act → World → Prop} (hgd : o.guard = none) (s x : Operand)
    (ho : o.op = .call { callee := .builtin .append, args := #[s, x], argTypes := #[23, 23] })
    (a : Option Addr) (n c : Nat) (X : Nat → Int) (y : Int) (ad : Addr) (hs : act.eval s = .slice a n c) (hx : act.eval x = .slice (some ad) 1 1)
    (hz : ZOK w a c) (hr : Rd w a n X) (hnc : n ≤ c) (hn : n < 1099511627776) (hy : w.cell? ad = some (.int .u64 y))
    (h : ∀ a' c' w', AppRes w a n c X y a' c' w' → wpList Tryz.prog ops Q rest (act.put o.dst (.slice a' (n + 1) c')) w') : wpList Tryz.prog ops Q (o :: rest) act w :=
  wpList_plain hgd fun K hK => by
    obtain ⟨a', c', w', hrun, h2⟩ := run_append_uint a n c X y w hz hr hnc hn ad hy o.type
    unfold Oper.wp execOp
    simp only [ho, resolve, invoke, builtin, Sem.run_bind, Sem.run_pure, Result.andThen_ok, List.map_toArray, List.map_cons, List.map_nil, hs, hx, hrun]
    exact hK _ _ (h a' c' w' h2)
theorem fresh_home {w w1 : World} {a a' : Option Addr} {c c' : Nat} (h : Fresh w a) (hh : Home w1 a c a' c') (hw : w.heap.size ≤ w1.heap.size) : Fresh w a' := by
  rcases hh with ⟨rfl, _⟩ | ⟨b, o, e, hb⟩
  · exact h
  · exact Or.inr ⟨b, o, e, by omega⟩
theorem getStack_any (w : World) : Calls Tryz.prog 100 #[] w fun e w' => e = .returned (.pointer (some ⟨w.heap.size, 0, none⟩)) ∧ w' = w.alloc (.cells #[.pointer none] 208) := by
  go_enter Tryz.func100, Tryz.ntmps100
  go_wp2
  go_ret
  exact ⟨rfl, rfl⟩
theorem NatIn.drewN {w : World} {a : Option Addr} {n c : Nat} {X : Nat → Int} (h : NatIn w a n c X) (k : Nat) : NatIn (w.drewN k) a n c X := ⟨h.rd, h.wf, h.le, h.small, h.aok⟩
theorem room_zeros (w : World) (X : Nat → Int) (c m r : Nat) : Room (w.alloc (.cells ((wordVals X c).toArray ++ Builtin.zeroCells #[.int .u64 0] m ++ Builtin.zeroCells #[.int .u64 0] r) 153)) w.heap.size 0 (c + m + r) := by
  have e : (wordVals X c).toArray ++ Builtin.zeroCells #[.int .u64 0] m ++ Builtin.zeroCells #[.int .u64 0] r = (wordVals X c).toArray ++ Array.replicate (m + r) (.int .u64 0) := by
    rw [zeroCells_word, zeroCells_word, Array.append_assoc]
    congr 1
    apply Array.ext
    · simp
    · intro i h1 h2
      simp
  rw [e]
  have := (new_words w X c (m + r)).2
  rwa [← Nat.add_assoc] at this
def GrowPost (w : World) (a : Option Addr) (n c k : Nat) (e : Ending) (w' : World) : Prop :=
  ∃ a' c', e = .returned (.slice a' n c') ∧ n + k ≤ c' ∧ ZOK w' a' c' ∧ Home w a c a' c' ∧ Chg zNone w w'
theorem grow_new (w : World) (X : Nat → Int) (a : Option Addr) (n c k : Nat) (hc : c < n + k) (hn : n ≤ c) (hk : n + k < 1099511627776) :
    n + k ≤ grownCap w (n + k) c 153 ∧ ZOK (w.drew.alloc (.cells ((wordVals X c).toArray ++ Builtin.zeroCells #[.int .u64 0] (n + k - c) ++ Builtin.zeroCells #[.int .u64 0] (grownCap w (n + k) c 153 - (n + k))) 153)) (some ⟨w.heap.size, 0, none⟩) (grownCap w (n + k) c 153) ∧
    Home w a c (some ⟨w.heap.size, 0, none⟩) (grownCap w (n + k) c 153) := by
  have hg := grownCap_ge w (n + k) c 153 (by omega)
  refine ⟨hg.1, Or.inr ⟨_, _, rfl, PB.new w.drew _ _, ?_, hg.2⟩, Or.inr ⟨_, _, rfl, Nat.le_refl _⟩⟩
  have := room_zeros w.drew X c (n + k - c) (grownCap w (n + k) c 153 - (n + k))
  rwa [show c + (n + k - c) + (grownCap w (n + k) c 153 - (n + k)) = grownCap w (n + k) c 153 by omega] at this
theorem first_words {w : World} {b o c : Nat} {X : Nat → Int} (hw : Words w b o c X) : (Builtin.firstCells 1 c (.slice (some ⟨b, o, none⟩) c c)).run Tryz.prog w = .ok (wordVals X c).toArray w := by
  refine run_firstCells_some w 1 c ⟨b, o, none⟩ c c (wordVals X c) (by rw [wordVals_length, Nat.mul_one]) (fun j v h => ?_)
  obtain ⟨hj, rfl⟩ := wordVals_get X c j v h
  have := hw j hj
  by_cases h0 : j = 0
  · subst h0; simpa [Addr.add] using this
  · simpa [Addr.add, h0] using this
theorem run_zeros (t : TypeId) (ty : TypeId) (hu : Tryz.prog.underlying t = some (.slice 153)) (a : Option Addr) (n c k : Nat) (w : World) (hz : ZOK w a c) (hn : n ≤ c) (hf : c < n + k) (hk : n + k < 1099511627776) :
    ∃ a' c' w', (Builtin.append_ #[t, 3] ty #[.slice a c c, .int .i64 ((n + k - c : Nat) : Int)]).run Tryz.prog w = .ok (.slice a' (n + k) c') w' ∧ n + k ≤ c' ∧ ZOK w' a' c' ∧ Home w a c a' c' ∧ Chg zNone w w' := by
  obtain ⟨i0, hi, hz0, hz1, hz2⟩ := info_parts info153
  rcases hz with ⟨rfl, rfl⟩ | ⟨b, o, rfl, hb, hroom, hcap⟩
  · obtain rfl : n = 0 := by omega
    have h := Lib.run_append_nil_zeros (P := Tryz.prog) w t 3 ty 153 i0 (.int .u64 0) .i64 .i64 hu Tryz.underlying3 hi hz0 k (by omega) (by omega) (by omega) (by rw [hz2]; omega)
    obtain ⟨g1, g2, g3⟩ := grow_new w (fun _ => 0) none 0 0 k (by omega) (by omega) (by omega)
    simp only [Nat.zero_add, Nat.sub_zero] at g1 g2 g3 ⊢
    have e : (wordVals (fun _ => 0) 0).toArray = #[] := rfl
    rw [e, Array.empty_append] at g2
    rw [show ((Value.int .u64 0).cells) = #[Value.int .u64 0] from rfl] at h
    exact ⟨_, _, _, h, g1, g2, g3, ((Chg.refl _ _).drew).alloc _⟩
  · obtain ⟨X, hX⟩ := hroom.words
    have h := Lib.run_append_grow_zeros (P := Tryz.prog) w t 3 ty 153 i0 (.int .u64 0) .i64 .i64 hu Tryz.underlying3 hi hz0 (some ⟨b, o, none⟩) c c (wordVals X c) (by rw [hz1]; exact first_words (w := w.drew) hX) (n + k - c) (by omega) (by omega) (by omega) (by omega) (by rw [hz2]; omega)
      (by rw [hz2]; exact growslice_fits (by omega) (by omega))
    rw [show c + (n + k - c) = n + k by omega, show ((Value.int .u64 0).cells) = #[Value.int .u64 0] from rfl] at h
    obtain ⟨g1, g2, g3⟩ := grow_new w X (some ⟨b, o, none⟩) n c k hf hn hk
    exact ⟨_, _, _, h, g1, g2, g3, ((Chg.refl _ _).drew).alloc _⟩

set_option maxHeartbeats 2000000 in
theorem grow220_any (a : Option Addr) (n c k : Nat) (w : World) (hz : ZOK w a c) (hn : n ≤ c) (hk : n + k < 1099511627776) :
    Calls Tryz.prog 220 #[.slice a n c, .int .i64 (k : Int)] w (GrowPost w a n c k) := by
  have hcap := hz.cap
  have h0 : decide ((k : Int) < 0) = false := by simp
  have s1 : IntKind.i64.wrap ((c : Int) - (n : Int)) = (c : Int) - (n : Int) := IntWalk.i64_in _ (by omega)
  have s2 : IntKind.i64.wrap ((k : Int) - ((c : Int) - (n : Int))) = (k : Int) - ((c : Int) - (n : Int)) := IntWalk.i64_in _ (by omega)
  by_cases hf : n + k ≤ c
  · have h1 : decide ((0 : Int) < (k : Int) - ((c : Int) - (n : Int))) = false := by simp; omega
    have HZ := Lib.hid hz
    clear hz
    go_enter Tryz.func220, Tryz.ntmps220
    go_wp2
    go_ret
    exact ⟨a, c, rfl, hf, HZ.out, Or.inl ⟨rfl, rfl⟩, Chg.refl _ _⟩
  · have h1 : decide ((0 : Int) < (k : Int) - ((c : Int) - (n : Int))) = true := by simp; omega
    have h2 : (k : Int) - ((c : Int) - (n : Int)) = ((n + k - c : Nat) : Int) := by omega
    have h3 : (0 : Int) ≤ (c : Int) := by omega
    go_enter Tryz.func220, Tryz.ntmps220
    obtain ⟨a', c', w', hrun, q1, q2, q3, q4⟩ := run_zeros 120 120 Tryz.underlying120 a n c k w hz hn (by omega) hk
    have HR := Lib.hid hrun
    have HQ := Lib.hid (And.intro q1 (And.intro q2 (And.intro q3 q4)))
    have h4 : (0 : Int) ≤ (n : Int) := by omega
    have h5 : (n : Int) ≤ (c' : Int) := by omega
    clear hrun q2 q3 q4 hz
    go_wp2_with (refine Lib.wpList_append_run _ rfl (.tmp 20) (.tmp 21) 120 3 rfl (.slice a c c) (.int .i64 ((n + k - c : Nat) : Int)) rfl rfl _ _ HR.out ?_)
    go_ret
    obtain ⟨q1, q2, q3, q4⟩ := HQ.out
    exact ⟨a', c', rfl, q1, q2, q3, q4⟩

set_option maxHeartbeats 2000000 in
theorem grow248_any (a : Option Addr) (n c k : Nat) (w : World) (hz : ZOK w a c) (hn : n ≤ c) (hk : n + k < 1099511627776) :
    Calls Tryz.prog 248 #[.slice a n c, .int .i64 (k : Int)] w (GrowPost w a n c k) := by
  have hcap := hz.cap
  have h0 : decide ((k : Int) < 0) = false := by simp
  have s1 : IntKind.i64.wrap ((c : Int) - (n : Int)) = (c : Int) - (n : Int) := IntWalk.i64_in _ (by omega)
  have s2 : IntKind.i64.wrap ((k : Int) - ((c : Int) - (n : Int))) = (k : Int) - ((c : Int) - (n : Int)) := IntWalk.i64_in _ (by omega)
  by_cases hf : n + k ≤ c
  · have h1 : decide ((0 : Int) < (k : Int) - ((c : Int) - (n : Int))) = false := by simp; omega
    have HZ := Lib.hid hz
    clear hz
    go_enter Tryz.func248, Tryz.ntmps248
    go_wp2
    go_ret
    exact ⟨a, c, rfl, hf, HZ.out, Or.inl ⟨rfl, rfl⟩, Chg.refl _ _⟩
  · have h1 : decide ((0 : Int) < (k : Int) - ((c : Int) - (n : Int))) = true := by simp; omega
    have h2 : (k : Int) - ((c : Int) - (n : Int)) = ((n + k - c : Nat) : Int) := by omega
    have h3 : (0 : Int) ≤ (c : Int) := by omega
    go_enter Tryz.func248, Tryz.ntmps248
    obtain ⟨a', c', w', hrun, q1, q2, q3, q4⟩ := run_zeros 119 119 Tryz.underlying119 a n c k w hz hn (by omega) hk
    have HR := Lib.hid hrun
    have HQ := Lib.hid (And.intro q1 (And.intro q2 (And.intro q3 q4)))
    have h4 : (0 : Int) ≤ (n : Int) := by omega
    have h5 : (n : Int) ≤ (c' : Int) := by omega
    clear hrun q2 q3 q4 hz
    go_wp2_with (refine Lib.wpList_append_run _ rfl (.tmp 20) (.tmp 21) 119 3 rfl (.slice a c c) (.int .i64 ((n + k - c : Nat) : Int)) rfl rfl _ _ HR.out ?_)
    go_ret
    obtain ⟨q1, q2, q3, q4⟩ := HQ.out
    exact ⟨a', c', rfl, q1, q2, q3, q4⟩
structure SD where
  q : Nat
  a : Option Addr
  L : Nat
  c : Nat
def Stk (w : World) (p : Nat) : Option SD → Prop
  | none => w.cell? ⟨p, 0, none⟩ = some (.pointer none) ∧ w.frozen? ⟨p, 0, none⟩ = false
  | some d => (w.cell? ⟨p, 0, none⟩ = some (.pointer (some ⟨d.q, 0, none⟩)) ∧ w.frozen? ⟨p, 0, none⟩ = false) ∧ (w.cell? ⟨d.q, 0, none⟩ = some (.slice d.a d.L d.c) ∧ w.frozen? ⟨d.q, 0, none⟩ = false) ∧ d.L ≤ d.c ∧ ZOK w d.a d.c ∧ d.q ≠ p ∧ ∀ b o, d.a = some ⟨b, o, none⟩ → b ≠ p ∧ b ≠ d.q
def zStk (p : Nat) : Option SD → Zone
  | none => zRow p 0 1
  | some d => fun b o => zRow p 0 1 b o ∨ zRow d.q 0 1 b o ∨ ∃ po, d.a = some ⟨b, po, none⟩ ∧ po + d.L ≤ o ∧ o < po + d.c
def stkL : Option SD → Nat
  | none => 0
  | some d => d.L
def StkFrom (w0 : World) : Option SD → Option SD → Prop
  | none, none => True
  | some _, none => False
  | none, some d' => w0.heap.size ≤ d'.q ∧ Fresh w0 d'.a
  | some d, some d' => d'.q = d.q ∧ d.L ≤ d'.L ∧ ((d'.a = d.a ∧ d'.c = d.c) ∨ Fresh w0 d'.a)
theorem Fresh.base {w0 w1 : World} {a : Option Addr} (h : Fresh w1 a) (hw : w0.heap.size ≤ w1.heap.size) : Fresh w0 a := by
  rcases h with h | ⟨b, o, e, hb⟩
  · exact Or.inl h
  · exact Or.inr ⟨b, o, e, by omega⟩
theorem StkFrom.refl {w0 : World} {d : Option SD} : StkFrom w0 d d := by
  cases d with
  | none => trivial
  | some d => exact ⟨rfl, Nat.le_refl _, Or.inl ⟨rfl, rfl⟩⟩
theorem StkFrom.trans {w0 w1 : World} {d d1 d2 : Option SD} (h : StkFrom w0 d d1) (k : StkFrom w1 d1 d2) (hw : w0.heap.size ≤ w1.heap.size) : StkFrom w0 d d2 := by
  cases d with
  | none => cases d1 with
    | none => cases d2 with
      | none => trivial
      | some d2 => exact ⟨by have := k.1; omega, k.2.base hw⟩
    | some d1 => cases d2 with
      | none => exact k.elim
      | some d2 =>
        refine ⟨by have := k.1; have := h.1; omega, ?_⟩
        rcases k.2.2 with ⟨e, _⟩ | e
        · rw [e]; exact h.2
        · exact e.base hw
  | some d => cases d1 with
    | none => exact h.elim
    | some d1 => cases d2 with
      | none => exact k.elim
      | some d2 =>
        refine ⟨k.1.trans h.1, Nat.le_trans h.2.1 k.2.1, ?_⟩
        rcases k.2.2 with ⟨e1, e2⟩ | e
        · rw [e1, e2]; exact h.2.2
        · exact Or.inr (e.base hw)
theorem StkFrom.zone {w0 : World} {p : Nat} {d d' : Option SD} (h : StkFrom w0 d d') : ∀ b o, b < w0.heap.size → zStk p d' b o → zStk p d b o := by
  intro b o hb hz
  cases d with
  | none => cases d' with
    | none => exact hz
    | some d' =>
      rcases hz with hz | hz | ⟨po, e, _⟩
      · exact hz
      · have := h.1; have := hz.1; omega
      · rcases h.2 with h | ⟨b', o', h, hb'⟩
        · rw [h] at e; cases e
        · rw [h] at e; injection e with e; injection e with e1 _; omega
  | some d => cases d' with
    | none => exact h.elim
    | some d' =>
      rcases hz with hz | hz | ⟨po, e, h1, h2⟩
      · exact Or.inl hz
      · exact Or.inr (Or.inl (by rw [← h.1]; exact hz))
      · rcases h.2.2 with ⟨e1, e2⟩ | hf
        · exact Or.inr (Or.inr ⟨po, by rw [← e1]; exact e, by have := h.2.1; omega, by rw [← e2]; exact h2⟩)
        · rcases hf with h | ⟨b', o', h, hb'⟩
          · rw [h] at e; cases e
          · rw [h] at e; injection e with e; injection e with e1 _; omega
theorem ZOK.ints {Z : Zone} {w w' : World} {a : Option Addr} {c : Nat} (h : ZOK w a c) (k : Chg Z w w') (hz : ∀ b o, zAddr a c b o → Z b o → ∃ x : Int, w'.cell? ⟨b, o, none⟩ = some (.int .u64 x)) : ZOK w' a c := by
  rcases h with h | ⟨b, o, rfl, hp, hr, hc⟩
  · exact Or.inl h
  · refine Or.inr ⟨b, o, rfl, hp.chg k, fun i hi => ?_, hc⟩
    obtain ⟨⟨x, hx⟩, hf⟩ := hr i hi
    refine ⟨?_, by rw [k.frozen hx]; exact hf⟩
    by_cases hh : Z b (o + i)
    · exact hz b (o + i) ⟨o, rfl, by omega, by omega⟩ hh
    · exact ⟨x, k.cell hx hh⟩
theorem Stk.chg {Z : Zone} {w w' : World} {p : Nat} {d : Option SD} (h : Stk w p d) (k : Chg Z w w') (hp : ¬ Z p 0) (hq : ∀ s, d = some s → ¬ Z s.q 0 ∧ ∀ b o, zAddr s.a s.c b o → Z b o → ∃ x : Int, w'.cell? ⟨b, o, none⟩ = some (.int .u64 x)) : Stk w' p d := by
  cases d with
  | none => exact ⟨k.cell h.1 hp, (k.frozen h.1 _).trans h.2⟩
  | some d =>
    obtain ⟨⟨h1, h2⟩, ⟨h3, h4⟩, h5, h6, h7, h8⟩ := h
    obtain ⟨g1, g2⟩ := hq d rfl
    exact ⟨⟨k.cell h1 hp, (k.frozen h1 _).trans h2⟩, ⟨k.cell h3 g1, (k.frozen h3 _).trans h4⟩, h5, h6.ints k g2, h7, h8⟩
theorem save_any (p : Nat) (d : Option SD) (w : World) (h : Stk w p d) : Calls Tryz.prog 168 #[.pointer (some ⟨p, 0, none⟩)] w fun e w' => e = .returned (.int .i64 (stkL d)) ∧ w' = w := by
  cases d with
  | none =>
    obtain ⟨h1, h2⟩ := h
    go_enter Tryz.func168, Tryz.ntmps168
    go_wp2
    go_ret
    exact ⟨rfl, rfl⟩
  | some d =>
    obtain ⟨q, a, L, c⟩ := d
    obtain ⟨⟨h1, h2⟩, ⟨h3, h4⟩, h5, h6, h7, h8⟩ := h
    simp only at h1 h2 h3 h4
    clear h5 h6 h7 h8
    go_enter Tryz.func168, Tryz.ntmps168
    go_wp2
    go_ret
    exact ⟨rfl, rfl⟩
def RestPost (w : World) (p : Nat) (d : Option SD) (k : Nat) (w' : World) : Prop :=
  ∃ d', Stk w' p d' ∧ d' = d.map (fun s => { s with L := k }) ∧ Chg (match d with | none => zNone | some s => zRow s.q 0 1) w w'
theorem restore_d (p : Nat) (d : Option SD) (k : Nat) (u : FrameMode) (w : World) (h : Stk w p d) (hk : k ≤ stkL d) :
    CallsD Tryz.prog 167 #[.pointer (some ⟨p, 0, none⟩), .int .i64 (k : Int)] u w fun e u' w' => u' = u ∧ (e = .returned (.tuple #[]) ∧ RestPost w p d k w') := by
  cases d with
  | none =>
    have H := Lib.hid h
    obtain ⟨h1, h2⟩ := h
    go_enter_d Tryz.func167, Tryz.ntmps167
    go_wp2
    refine bodyPost_ret (results_none rfl _ _ _) rfl ?_
    exact ⟨rfl, none, H.out, rfl, Chg.refl _ _⟩
  | some d =>
    obtain ⟨q, a, L, c⟩ := d
    have H := Lib.hid h
    obtain ⟨⟨h1, h2⟩, ⟨h3, h4⟩, h5, h6, h7, h8⟩ := h
    simp only [stkL] at h1 h2 h3 h4 h5 hk
    have hq1 : (0 : Int) ≤ (k : Int) := by omega
    have hq2 : (k : Int) ≤ (c : Int) := by omega
    have hq3 : (k : Int) ≤ (L : Int) := by omega
    clear h6 h7 h8
    go_enter_d Tryz.func167, Tryz.ntmps167
    go_wp2
    go_end0
    go_wp2
    go_end0
    refine ⟨rfl, some ⟨q, a, k, c⟩, ?_, rfl, chg_cell _ _ _ _⟩
    obtain ⟨⟨h1, h2⟩, ⟨h3, h4⟩, h5, h6, h7, h8⟩ := H.out
    have kk := chg_cell w q 0 (.slice a k c)
    refine ⟨⟨kk.cell h1 (fun h => h7 h.1.symm), by rw [fz_set]; exact h2⟩, ⟨cs_same h3, by rw [fz_set]; exact h4⟩, ?_, h6.chg kk ?_, h7, h8⟩
    · simp only at h5 ⊢; omega
    · rintro b o ⟨po, e, _⟩ hh
      exact (h8 b po e).2 hh.1
end Go.Proofs.YtmgfajamanakcaaGreatDoor
namespace Go.Proofs.YtmgfajamanakcaaGreatDoor
set_option linter.unusedVariables false
set_option linter.unusedSimpArgs false
open Go
set_option maxRecDepth 100000
def LowZ (M : Int) (t : Nat) : Prop := ∃ q : Int, M = 2 ^ t * (2 * q + 1)
theorem LowZ.unique {M : Int} {t u : Nat} (h : LowZ M t) (k : LowZ M u) : t = u := by
  obtain ⟨q, hq⟩ := h
  obtain ⟨r, hr⟩ := k
  have key : ∀ (a b : Nat) (x y : Int), a < b → 2 ^ a * (2 * x + 1) = 2 ^ b * (2 * y + 1) → False := by
    intro a b x y hab he
    obtain ⟨d, rfl⟩ : ∃ d, b = a + (d + 1) := ⟨b - a - 1, by omega⟩
    rw [Int.pow_add, Int.mul_assoc] at he
    have h2 := Int.eq_of_mul_eq_mul_left (by have : (0 : Int) < 2 ^ a := Int.pow_pos (by decide); omega) he
    rw [Int.pow_succ, Int.mul_comm (2 ^ d), Int.mul_assoc] at h2
    omega
  rcases Nat.lt_trichotomy t u with h | h | h
  · exact (key _ _ _ _ h (hq.symm.trans hr)).elim
  · exact h
  · exact (key _ _ _ _ h (hr.symm.trans hq)).elim
theorem LowZ.div {M : Int} {t u : Nat} (h : LowZ M t) (hu : u ≤ t) : M % 2 ^ u = 0 := by
  obtain ⟨q, hq⟩ := h
  obtain ⟨d, rfl⟩ : ∃ d, t = u + d := ⟨t - u, by omega⟩
  rw [hq, Int.pow_add, Int.mul_assoc]
  exact Int.mul_emod_right _ _
theorem LowZ.lt {M : Int} {t L : Nat} (h : LowZ M t) (h0 : 0 < M) (hL : M < 2 ^ L) : t < L := by
  obtain ⟨q, hq⟩ := h
  rcases Nat.lt_or_ge t L with h1 | h1
  · exact h1
  · obtain ⟨d, rfl⟩ : ∃ d, t = L + d := ⟨t - L, by omega⟩
    have hp : (0 : Int) < 2 ^ L := Int.pow_pos (by decide)
    have hd : (0 : Int) < 2 ^ d := Int.pow_pos (by decide)
    rw [Int.pow_add, Int.mul_assoc] at hq
    have hk : 0 < 2 ^ d * (2 * q + 1) := by
      apply Int.pos_of_mul_pos_right (a := 2 ^ L) _ hp
      rw [← hq]; exact h0
    have := Int.mul_le_mul_of_nonneg_left (show 1 ≤ 2 ^ d * (2 * q + 1) by omega) (Int.le_of_lt hp)
    omega
theorem ipow_le {b : Int} (hb : 1 ≤ b) {i j : Nat} (h : i ≤ j) : b ^ i ≤ b ^ j := by
  obtain ⟨d, rfl⟩ : ∃ d, j = i + d := ⟨j - i, by omega⟩
  rw [Int.pow_add]
  have h1 : (0 : Int) < b ^ i := Int.pow_pos (by omega)
  have h2 : (0 : Int) < b ^ d := Int.pow_pos (by omega)
  have := Int.mul_le_mul_of_nonneg_left (show 1 ≤ b ^ d by omega) (Int.le_of_lt h1)
  omega
end Go.Proofs.YtmgfajamanakcaaGreatDoor
