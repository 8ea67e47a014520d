/-
  Memory: what may have turned between two worlds (Chg), rows of words, and the small laws on them. No condition; no program in sight.
-/
import Derived.WalkKit
namespace Go.Proofs.YtmgfajamanakcaaGreatDoor
open Go Go.RowKit

/-- Which cells may have turned: by block and place. -/
abbrev Zone := Nat → Nat → Prop
def zNone : Zone := fun _ _ => False
def zRow (b lo n : Nat) : Zone := fun b' o => b' = b ∧ lo ≤ o ∧ o < lo + n
def zBlock (b : Nat) : Zone := fun b' _ => b' = b
def zOr (Z Z' : Zone) : Zone := fun b o => Z b o ∨ Z' b o

/-- Between w and w' only cells in Z have turned; blocks may have come. -/
structure Chg (Z : Zone) (w w' : World) : Prop where
  os : w'.os = w.os
  tape : w'.tape = w.tape
  output : w'.output = w.output
  size : w.heap.size ≤ w'.heap.size
  same : ∀ b, b < w.heap.size → (∀ o, ¬ Z b o) → w'.heap[b]? = w.heap[b]?
  cells : ∀ b c e fr, w.heap[b]? = some (.cells c e fr) → ∃ c', w'.heap[b]? = some (.cells c' e fr) ∧ c'.size = c.size ∧ ∀ o, ¬ Z b o → c'[o]? = c[o]?

theorem Chg.refl (Z : Zone) (w : World) : Chg Z w w := ⟨rfl, rfl, rfl, Nat.le_refl _, fun _ _ _ => rfl, fun _ c _ _ h => ⟨c, h, rfl, fun _ _ => rfl⟩⟩

theorem lt_of_cells {w : World} {b : Nat} {o : Obj} (h : w.heap[b]? = some o) : b < w.heap.size := (Array.getElem?_eq_some_iff.1 h).1

/-- The one after the other; what is written in new blocks counts for nothing. -/
theorem Chg.trans {Z Z' : Zone} {w w1 w2 : World} (h : Chg Z w w1) (k : Chg Z' w1 w2) (hZ : ∀ b o, b < w.heap.size → Z' b o → Z b o) : Chg Z w w2 := by
  refine ⟨k.os.trans h.os, k.tape.trans h.tape, k.output.trans h.output, Nat.le_trans h.size k.size, fun b hb hn => ?_, fun b c e fr hc => ?_⟩
  · rw [k.same b (Nat.lt_of_lt_of_le hb h.size) (fun o hz => hn o (hZ b o hb hz)), h.same b hb hn]
  · obtain ⟨c1, h1, s1, e1⟩ := h.cells b c e fr hc
    obtain ⟨c2, h2, s2, e2⟩ := k.cells b c1 e fr h1
    have hb := lt_of_cells hc
    exact ⟨c2, h2, s2.trans s1, fun o ho => (e2 o (fun hz => ho (hZ b o hb hz))).trans (e1 o ho)⟩

theorem Chg.mono {Z Z' : Zone} {w w' : World} (h : Chg Z w w') (hZ : ∀ b o, b < w.heap.size → Z b o → Z' b o) : Chg Z' w w' :=
  (Chg.refl Z' w).trans h hZ

theorem Chg.drew {Z : Zone} {w w' : World} (h : Chg Z w w') : Chg Z w w'.drew := ⟨h.os, h.tape, h.output, h.size, h.same, h.cells⟩
theorem Chg.drewN {Z : Zone} {w w' : World} (h : Chg Z w w') (n : Nat) : Chg Z w { w' with drawn := w'.drawn + n } := ⟨h.os, h.tape, h.output, h.size, h.same, h.cells⟩

theorem Chg.of_below {w w' : World} (h : Below w.heap.size w w') (Z : Zone) : Chg Z w w' :=
  ⟨h.os, h.tape, h.output, h.size, fun b hb _ => h.block b hb, fun b c _ _ hc => ⟨c, (h.block b (lt_of_cells hc)).trans hc, rfl, fun _ _ => rfl⟩⟩

theorem Chg.below {Z : Zone} {w w' : World} (h : Chg Z w w') {B : Nat} (hB : B ≤ w.heap.size) (hZ : ∀ b o, b < B → ¬ Z b o) : Below B w w' :=
  ⟨h.os, h.tape, h.output, h.size, fun b hb => h.same b (Nat.lt_of_lt_of_le hb hB) (fun o => hZ b o hb)⟩

theorem Chg.alloc {Z : Zone} {w w' : World} (h : Chg Z w w') (o : Obj) : Chg Z w (w'.alloc o) :=
  h.trans (Chg.of_below ((Below.refl _ _).alloc (Nat.le_refl _) o) zNone) (fun _ _ _ hz => hz.elim)

theorem chg_setCell (w : World) (b o : Nat) (v : Value) : Chg (fun b' o' => b' = b ∧ o' = o) w (w.setCell ⟨b, o, none⟩ v) := by
  refine ⟨rfl, rfl, rfl, by simp [World.setCell], fun b' hb hn => ?_, fun b' c e fr hc => ?_⟩
  · have hne : b ≠ b' := fun h => hn o ⟨h.symm, rfl⟩
    simp only [World.setCell, Array.getElem?_modify]
    rw [if_neg hne]
  · by_cases hbb : b = b'
    · subst hbb
      refine ⟨c.setIfInBounds o v, ?_, by simp, fun o' ho' => ?_⟩
      · simp only [World.setCell, Array.getElem?_modify, if_true, hc, Option.map_some]
        simp
      · have hne : o ≠ o' := fun h => ho' ⟨rfl, h.symm⟩
        rw [Array.getElem?_setIfInBounds, if_neg hne]
    · refine ⟨c, ?_, rfl, fun _ _ => rfl⟩
      simp only [World.setCell, Array.getElem?_modify]
      rw [if_neg hbb]; exact hc

theorem Chg.setCell {Z : Zone} {w w' : World} (h : Chg Z w w') (b o : Nat) (v : Value) (hz : b < w.heap.size → Z b o) : Chg Z w (w'.setCell ⟨b, o, none⟩ v) :=
  h.trans (chg_setCell w' b o v) (fun b' o' hb hbo => by obtain ⟨rfl, rfl⟩ := hbo; exact hz hb)

/-- A cell that is there and not in the zone reads as it did. -/
theorem Chg.cell {Z : Zone} {w w' : World} (h : Chg Z w w') {b o : Nat} {v : Value} (hc : w.cell? ⟨b, o, none⟩ = some v) (hz : ¬ Z b o) : w'.cell? ⟨b, o, none⟩ = some v := by
  unfold World.cell? at hc ⊢
  cases hb : w.heap[b]? with
  | none => simp [hb] at hc
  | some ob =>
    cases ob with
    | cells c e fr =>
      obtain ⟨c', h1, _, h2⟩ := h.cells b c e fr hb
      simp [hb] at hc
      simp [h1, h2 o hz, hc]
    | _ => simp [hb] at hc

theorem Chg.isCell {Z : Zone} {w w' : World} (h : Chg Z w w') {b o : Nat} (hc : (w.cell? ⟨b, o, none⟩).isSome = true) : (w'.cell? ⟨b, o, none⟩).isSome = true := by
  unfold World.cell? at hc ⊢
  cases hb : w.heap[b]? with
  | none => simp [hb] at hc
  | some ob =>
    cases ob with
    | cells c e fr =>
      obtain ⟨c', h1, h2, _⟩ := h.cells b c e fr hb
      simp [hb] at hc
      simp [h1, h2, hc]
    | _ => simp [hb] at hc

theorem Chg.frozen {Z : Zone} {w w' : World} (h : Chg Z w w') {b o : Nat} {v : Value} (hc : w.cell? ⟨b, o, none⟩ = some v) (o' : Nat) : w'.frozen? ⟨b, o', none⟩ = w.frozen? ⟨b, o', none⟩ := by
  unfold World.cell? at hc
  unfold World.frozen?
  cases hb : w.heap[b]? with
  | none => simp [hb] at hc
  | some ob =>
    cases ob with
    | cells c e fr =>
      obtain ⟨c', h1, _, _⟩ := h.cells b c e fr hb
      simp [h1]
    | _ => simp [hb] at hc

theorem lt_of_cell {w : World} {b o : Nat} {v : Value} (h : w.cell? ⟨b, o, none⟩ = some v) : b < w.heap.size := by
  unfold World.cell? at h
  cases hb : w.heap[b]? with
  | none => simp [hb] at h
  | some ob => exact lt_of_cells hb

/-! ### Rows of words, by an index function -/
/-- n cells from off on hold the words X 0, X 1, .. -/
def Words (w : World) (b off n : Nat) (X : Nat → Int) : Prop := ∀ i, i < n → w.cell? ⟨b, off + i, none⟩ = some (.int .u64 (X i))
/-- n cells from off on may be written. -/
def Free (w : World) (b off n : Nat) : Prop := ∀ i, i < n → w.frozen? ⟨b, off + i, none⟩ = false
/-- n cells from off on hold some words, may be written. -/
def Room (w : World) (b off n : Nat) : Prop := ∀ i, i < n → (∃ x : Int, w.cell? ⟨b, off + i, none⟩ = some (.int .u64 x)) ∧ w.frozen? ⟨b, off + i, none⟩ = false

theorem Words.chg {Z : Zone} {w w' : World} {b off n : Nat} {X : Nat → Int} (h : Words w b off n X) (k : Chg Z w w') (hz : ∀ i, i < n → ¬ Z b (off + i)) : Words w' b off n X :=
  fun i hi => k.cell (h i hi) (hz i hi)
theorem Words.le {w : World} {b off n m : Nat} {X : Nat → Int} (h : Words w b off n X) (hm : m ≤ n) : Words w b off m X := fun i hi => h i (by omega)
theorem Words.drop {w : World} {b off n : Nat} {X : Nat → Int} (h : Words w b off n X) (k m : Nat) (hk : k + m ≤ n) : Words w b (off + k) m (fun i => X (k + i)) := fun i hi => by
  have := h (k + i) (by omega)
  rwa [← Nat.add_assoc] at this
theorem Words.congr {w : World} {b off n : Nat} {X Y : Nat → Int} (h : Words w b off n X) (e : ∀ i, i < n → X i = Y i) : Words w b off n Y := fun i hi => by rw [← e i hi]; exact h i hi
theorem Words.join {w : World} {b off n m : Nat} {X Y : Nat → Int} (h : Words w b off n X) (k : Words w b (off + n) m Y) : Words w b off (n + m) (fun i => if i < n then X i else Y (i - n)) := fun i hi => by
  by_cases hn : i < n
  · simp only [hn, if_true]; exact h i hn
  · simp only [hn, if_false]
    have := k (i - n) (by omega)
    rwa [show off + n + (i - n) = off + i by omega] at this
theorem Free.chg {Z : Zone} {w w' : World} {b off n : Nat} {X : Nat → Int} (hf : Free w b off n) (h : Words w b off n X) (k : Chg Z w w') : Free w' b off n :=
  fun i hi => by rw [k.frozen (h i hi)]; exact hf i hi
theorem Room.chg {Z : Zone} {w w' : World} {b off n : Nat} (h : Room w b off n) (k : Chg Z w w') (hz : ∀ i, i < n → ¬ Z b (off + i)) : Room w' b off n :=
  fun i hi => by
    obtain ⟨⟨x, hx⟩, hf⟩ := h i hi
    exact ⟨⟨x, k.cell hx (hz i hi)⟩, by rw [k.frozen hx]; exact hf⟩
theorem Room.le {w : World} {b off n m : Nat} (h : Room w b off n) (hm : m ≤ n) : Room w b off m := fun i hi => h i (by omega)
theorem Room.drop {w : World} {b off n : Nat} (h : Room w b off n) (k m : Nat) (hk : k + m ≤ n) : Room w b (off + k) m := fun i hi => by
  have := h (k + i) (by omega)
  rwa [← Nat.add_assoc] at this
theorem Room.join {w : World} {b off n m : Nat} (h : Room w b off n) (k : Room w b (off + n) m) : Room w b off (n + m) := fun i hi => by
  by_cases hn : i < n
  · exact h i hn
  · have := k (i - n) (by omega)
    rwa [show off + n + (i - n) = off + i by omega] at this
theorem Words.room {w : World} {b off n : Nat} {X : Nat → Int} (h : Words w b off n X) (hf : Free w b off n) : Room w b off n := fun i hi => ⟨⟨X i, h i hi⟩, hf i hi⟩
theorem Room.words {w : World} {b off n : Nat} (h : Room w b off n) : ∃ X : Nat → Int, Words w b off n X := by
  refine ⟨fun i => if hi : i < n then Classical.choose (h i hi).1 else 0, fun i hi => ?_⟩
  simp only [hi, dif_pos]
  exact Classical.choose_spec (h i hi).1
theorem Room.free {w : World} {b off n : Nat} (h : Room w b off n) : Free w b off n := fun i hi => (h i hi).2
end Go.Proofs.YtmgfajamanakcaaGreatDoor
