/-
  An Int in memory: its two cells. No walk in sight.
-/
import Derived.Test.YtmgfajamanakcaaGreatDoorScb
namespace Go.Proofs.YtmgfajamanakcaaGreatDoor
open Go.RowKit
set_option maxRecDepth 100000
set_option linter.unusedVariables false
/-- An Int's two cells, that may be written. -/
def IntC (w : World) (zb zo : Nat) (neg : Bool) (a : Option Addr) (n c : Nat) : Prop :=
  w.cell? ⟨zb, zo, none⟩ = some (.bool neg) ∧ w.cell? ⟨zb, zo + 1, none⟩ = some (.slice a n c) ∧ w.frozen? ⟨zb, zo, none⟩ = false ∧ w.frozen? ⟨zb, zo + 1, none⟩ = false
theorem IntC.chg {Z : Zone} {w w' : World} {zb zo : Nat} {neg : Bool} {a : Option Addr} {n c : Nat} (h : IntC w zb zo neg a n c) (k : Chg Z w w') (hz : ∀ o, o < 2 → ¬ Z zb (zo + o)) : IntC w' zb zo neg a n c := by
  obtain ⟨h0, h1, h2, h3⟩ := h
  exact ⟨k.cell h0 (hz 0 (by omega)), k.cell h1 (hz 1 (by omega)), by rw [k.frozen h0]; exact h2, by rw [k.frozen h0]; exact h3⟩
theorem IntC.abs {w : World} {zb zo : Nat} {neg : Bool} {a a' : Option Addr} {n c n' c' : Nat} (h : IntC w zb zo neg a n c) : IntC (w.setCell ⟨zb, zo + 1, none⟩ (.slice a' n' c')) zb zo neg a' n' c' := by
  obtain ⟨h0, h1, h2, h3⟩ := h
  exact ⟨by rw [cs_other (by omega)]; exact h0, cs_same h1, by rw [fz_set]; exact h2, by rw [fz_set]; exact h3⟩
theorem IntC.sign {w : World} {zb zo : Nat} {neg neg' : Bool} {a : Option Addr} {n c : Nat} (h : IntC w zb zo neg a n c) : IntC (w.setCell ⟨zb, zo, none⟩ (.bool neg')) zb zo neg' a n c := by
  obtain ⟨h0, h1, h2, h3⟩ := h
  exact ⟨cs_same h0, by rw [cs_other (by omega)]; exact h1, by rw [fz_set]; exact h2, by rw [fz_set]; exact h3⟩
theorem IntC.lt {w : World} {zb zo : Nat} {neg : Bool} {a : Option Addr} {n c : Nat} (h : IntC w zb zo neg a n c) : zb < w.heap.size := by
  have h0 := h.1
  unfold World.cell? at h0
  rcases Nat.lt_or_ge zb w.heap.size with hh | hh
  · exact hh
  · rw [Array.getElem?_eq_none hh] at h0
    cases h0
theorem chg_cell (w : World) (b o : Nat) (v : Value) : Chg (zRow b o 1) w (w.setCell ⟨b, o, none⟩ v) := (Chg.refl _ _).setCell b o v (fun _ => ⟨rfl, by omega, by omega⟩)
end Go.Proofs.YtmgfajamanakcaaGreatDoor
