/-
  append of one uint to a slice of uints: the law for the walk (my text for words, turned to uints). Conditions: lengths below 2^40.
-/
import Derived.Test.YtmgfajamanakcaaGreatDoorAp
import Derived.ArgAppend
namespace Go.Proofs.YtmgfajamanakcaaGreatDoor
open Go.RowKit
set_option maxRecDepth 100000
set_option linter.unusedVariables false
theorem info22 : (Tryz.prog.info? 22).map (fun i => (i.zero, i.size, i.bytes)) = some (some (.int .u64 0), 1, 8) := by kernel_rfl
/-- A block whose cells are words, that begins with the words of L. -/
theorem new_uints (w : World) (X : Nat → Int) (n k : Nat) :
    Words (w.alloc (.cells ((wordVals X n).toArray ++ Array.replicate k (.int .u64 0)) 22)) w.heap.size 0 n X ∧ Room (w.alloc (.cells ((wordVals X n).toArray ++ Array.replicate k (.int .u64 0)) 22)) w.heap.size 0 (n + k) := by
  have hget : ∀ i, i < n → ((wordVals X n).toArray ++ Array.replicate k (Value.int .u64 0))[i]? = some (.int .u64 (X i)) := fun i hi => by
    rw [Array.getElem?_append_left (by simpa [wordVals] using hi)]
    simp [wordVals, hi]
  have hget2 : ∀ i, n ≤ i → i < n + k → ((wordVals X n).toArray ++ Array.replicate k (Value.int .u64 0))[i]? = some (.int .u64 0) := fun i h1 h2 => by
    rw [Array.getElem?_append_right (by simpa [wordVals] using h1)]
    simp only [List.size_toArray, wordVals_length]
    rw [Array.getElem?_replicate, if_pos (by omega)]
  refine ⟨fun i hi => ?_, fun i hi => ⟨?_, frozen?_alloc_new w _ _ _⟩⟩
  · rw [Nat.zero_add]; exact cell?_alloc_new w _ _ _ _ (hget i hi)
  · rw [Nat.zero_add]
    by_cases h : i < n
    · exact ⟨_, cell?_alloc_new w _ _ _ _ (hget i h)⟩
    · exact ⟨_, cell?_alloc_new w _ _ _ _ (hget2 i (by omega) hi)⟩
theorem run_append_uint (a : Option Addr) (n c : Nat) (X : Nat → Int) (x : Int) (W : World) (hz : ZOK W a c) (hr : Rd W a n X) (hnc : n ≤ c) (hn : n < 1099511627776) (ad : Addr) (hx : W.cell? ad = some (.int .u64 x)) (ty : TypeId) :
    ∃ a' c' W', (Builtin.append_ #[23, 23] ty #[.slice a n c, .slice (some ad) 1 1]).run Tryz.prog W = .ok (.slice a' (n + 1) c') W' ∧ AppRes W a n c X x a' c' W' := by
  obtain ⟨i0, hi, hz0, hz1, hz2⟩ := info_parts info22
  have hnews : ∀ j v, [Value.int .u64 x][j]? = some v → W.cell? (ad.add j) = some v := fun j v h => by
    cases j with
    | zero => simp at h; subst h; simpa [Addr.add] using hx
    | succ j => simp at h
  have hupd : ∀ i, i < n → X i = upd X n x i := fun i hi => (upd_other X x (by omega)).symm
  rcases hz with ⟨rfl, rfl⟩ | ⟨b, o, rfl, hb, hroom, hcap⟩
  · obtain rfl : n = 0 := by omega
    have hrun := run_append_nil (P := Tryz.prog) W 23 ty 22 i0 (.int .u64 0) Tryz.underlying23 hi hz0 ad 1 1 [.int .u64 x] (by rw [hz1]; rfl) hnews (by omega) (by omega) (by rw [hz2]; omega)
    have hg := grownCap_ge W 1 0 22 (by omega)
    have hw := new_uints W.drew (fun _ => x) 1 (grownCap W 1 0 22 - 1)
    rw [show ((Value.int .u64 0).cells) = #[Value.int .u64 0] from rfl, zeroCells_word] at hrun
    refine ⟨_, _, _, hrun, by omega, Or.inr ⟨_, _, rfl, PB.new W.drew _ _, ?_, hg.2⟩, Or.inr ⟨_, _, rfl, ?_⟩, Or.inr ⟨_, _, rfl, Nat.le_refl _⟩, chg_drew_alloc _ _ _⟩
    · have := hw.2
      rwa [show 1 + (grownCap W 1 0 22 - 1) = grownCap W 1 0 22 by omega] at this
    · exact hw.1.congr (fun i hi => by obtain rfl : i = 0 := by omega
                                       exact (upd_same X 0 x).symm)
  · have hX : n = 0 ∨ Words W b o n X := by
      rcases hr with h | ⟨b', o', e, hw⟩
      · exact Or.inl h
      · injection e with e; injection e with e1 e2; subst e1; subst e2; exact Or.inr hw
    have hX' : Words W b o n X := by
      rcases hX with h | h
      · intro i hi; omega
      · exact h
    by_cases hfit : n + 1 ≤ c
    · have hrun := run_append_room_cells (P := Tryz.prog) W 23 ty 22 i0 Tryz.underlying23 hi b o n c ad 1 1 [.int .u64 x] (by rw [hz1]; rfl) hnews (fun u hu => by simp at hu; subst hu; rfl) hfit
        (fun j hj => by
          obtain rfl : j = 0 := by simp at hj; exact hj
          rw [hz1, Nat.mul_one, Nat.add_zero]
          obtain ⟨⟨y, hy⟩, _⟩ := hroom n (by omega)
          rw [hy]; rfl)
        (fun j hj => by
          obtain rfl : j = 0 := by simp at hj; exact hj
          rw [hz1, Nat.mul_one, Nat.add_zero]
          exact (hroom n (by omega)).2)
      rw [hz1, Nat.mul_one] at hrun
      have hwd : W.setCells b (o + n) [.int .u64 x] = W.setCell ⟨b, o + n, none⟩ (.int .u64 x) := rfl
      rw [hwd] at hrun
      refine ⟨_, _, _, hrun, hfit, ?_, Or.inr ⟨b, o, rfl, hX'.snoc ?_⟩, Or.inl ⟨rfl, rfl⟩, (Chg.refl _ _).setCell b (o + n) _ (fun _ => ⟨o, rfl, by omega, by omega⟩)⟩
      · exact ZOK.setInt (Or.inr ⟨b, o, rfl, hb, hroom, hcap⟩) b (o + n) x
      · obtain ⟨⟨y, hy⟩, _⟩ := hroom n (by omega)
        rw [hy]; rfl
    · have holds : ∀ j v, (wordVals X n)[j]? = some v → W.cell? ((⟨b, o, none⟩ : Addr).add j) = some v := fun j v h => by
        obtain ⟨hj, rfl⟩ := wordVals_get X n j v h
        have := hX' j hj
        by_cases h0 : j = 0
        · subst h0; simpa [Addr.add] using this
        · simpa [Addr.add, h0] using this
      have hrun := run_append_grow (P := Tryz.prog) W 23 ty 22 i0 (.int .u64 0) Tryz.underlying23 hi hz0 ⟨b, o, none⟩ n c (wordVals X n) (by rw [wordVals_length, hz1, Nat.mul_one]) holds ad 1 1 [.int .u64 x] (by rw [hz1]; rfl) hnews (by omega) (by omega)
        (by rw [hz2]; exact growslice_fits (by omega) (by omega))
      have hg := grownCap_ge W (n + 1) c 22 (by omega)
      have hcat : (wordVals X n).toArray ++ [Value.int .u64 x].toArray = (wordVals (upd X n x) (n + 1)).toArray := by
        unfold wordVals
        rw [List.range_succ, List.map_append]
        simp only [List.map_cons, List.map_nil, upd_same]
        rw [← List.append_toArray]
        congr 2
        apply List.map_congr_left
        intro i hi'
        rw [upd_other X x (by have := List.mem_range.1 hi'; omega)]
      rw [show ((Value.int .u64 0).cells) = #[Value.int .u64 0] from rfl, zeroCells_word, hcat] at hrun
      have hw := new_uints W.drew (upd X n x) (n + 1) (grownCap W (n + 1) c 22 - (n + 1))
      refine ⟨_, _, _, hrun, by omega, Or.inr ⟨_, _, rfl, PB.new W.drew _ _, ?_, hg.2⟩, Or.inr ⟨_, _, rfl, hw.1⟩, Or.inr ⟨_, _, rfl, Nat.le_refl _⟩, chg_drew_alloc _ _ _⟩
      have := hw.2
      rwa [show n + 1 + (grownCap W (n + 1) c 22 - (n + 1)) = grownCap W (n + 1) c 22 by omega] at this
/-- The walk's law: an append of one word. -/
theorem wpList_append_uint {ops : Array Oper} {rest : List Oper} {o : Oper} {act : Act} {w : World} {Q : Exit → Act → World → Prop} (hgd : o.guard = none) (s x : Operand)
    (ho : o.op = .call { callee := .builtin .append, args := #[s, x], argTypes := #[23, 23] })
    (a : Option Addr) (n c : Nat) (X : Nat → Int) (y : Int) (ad : Addr) (hs : act.eval s = .slice a n c) (hx : act.eval x = .slice (some ad) 1 1)
    (hz : ZOK w a c) (hr : Rd w a n X) (hnc : n ≤ c) (hn : n < 1099511627776) (hy : w.cell? ad = some (.int .u64 y))
    (h : ∀ a' c' w', AppRes w a n c X y a' c' w' → wpList Tryz.prog ops Q rest (act.put o.dst (.slice a' (n + 1) c')) w') : wpList Tryz.prog ops Q (o :: rest) act w :=
  wpList_plain hgd fun K hK => by
    obtain ⟨a', c', w', hrun, h2⟩ := run_append_uint a n c X y w hz hr hnc hn ad hy o.type
    unfold Oper.wp execOp
    simp only [ho, resolve, invoke, builtin, Sem.run_bind, Sem.run_pure, Result.andThen_ok, List.map_toArray, List.map_cons, List.map_nil, hs, hx, hrun]
    exact hK _ _ (h a' c' w' h2)
end Go.Proofs.YtmgfajamanakcaaGreatDoor
