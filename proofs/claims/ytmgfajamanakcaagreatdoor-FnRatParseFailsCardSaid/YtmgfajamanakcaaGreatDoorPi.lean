/-
  strconv.ParseInt(s, 10, 64), told in one: a number and no error, or an error. Conditions: a short text; the two errors are set.
-/
import Derived.Test.YtmgfajamanakcaaGreatDoorPlain
import Derived.Test.YtmgfajamanakcaaGreatDoorMem
namespace Go.Proofs.YtmgfajamanakcaaGreatDoor
open Go.RowKit
set_option linter.unusedVariables false
/-- What ParseInt leaves. -/
def PiPost (w : World) (s : ByteArray) (e : Ending) (w' : World) : Prop :=
  ∃ (v : Int) (ev : Value), e = .returned (.tuple #[.int .i64 v, ev]) ∧ Chg zNone w w' ∧ ((ev = .nilIface ∧ Lib.parseIntB 64 s.data.toList = .ok v) ∨ ((∃ N : Nat, ev = .iface 297 (.pointer (some ⟨N, 0, none⟩))) ∧ ∀ v, Lib.parseIntB 64 s.data.toList ≠ .ok v))
theorem ParseInt_any (s : ByteArray) (w : World) (hs : s.size < 1048576) (e1 e2 : Value) (h1 : w.cell? ⟨12, 0, none⟩ = some e1) (h2 : w.cell? ⟨13, 0, none⟩ = some e2) (k1 : e1 = .nilIface ∨ ∃ te pe, e1 = .iface te pe) (k2 : e2 = .nilIface ∨ ∃ te pe, e2 = .iface te pe) :
    Calls Tryz.prog 185 #[.string s, .int .i64 10, .int .i64 64] w (PiPost w s) := by
  cases h : Lib.parseIntB 64 s.data.toList
  case ok v =>
    refine (Tryz.strconv_ParseInt_10_at64_ok s (by omega) v h w).mono ?_
    rintro e w' ⟨rfl, hw⟩
    refine ⟨v, .nilIface, rfl, ?_, Or.inl ⟨rfl, h⟩⟩
    rcases hw with rfl | ⟨t, rfl⟩
    · exact Chg.refl _ _
    · exact Chg.of_below (⟨rfl, rfl, rfl, by rw [Lib.bytesWorld_size]; omega, fun j hj => Lib.bytesWorld_at_old w 5 t j hj⟩ : Below w.heap.size w (Lib.bytesWorld w 5 t)) _
  case range =>
    refine (Tryz.strconv_ParseInt_10_at64_range s (by omega) h e2 w h2 k2).mono ?_
    rintro e w' ⟨N, rfl, h3, h4, h5⟩
    exact ⟨_, _, rfl, Chg.of_below h5 _, Or.inr ⟨⟨N, rfl⟩, fun v hv => by rw [h] at hv; cases hv⟩⟩
  refine (Tryz.strconv_ParseInt_10_at64_syntax s (by omega) h e1 w h1 k1).mono ?_
  rintro e w' ⟨N, rfl, h3, h4, h5⟩
  exact ⟨0, _, rfl, Chg.of_below h5 _, Or.inr ⟨⟨N, rfl⟩, fun v hv => by rw [h] at hv; cases hv⟩⟩
end Go.Proofs.YtmgfajamanakcaaGreatDoor
