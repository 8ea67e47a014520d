/- Part of the proof of FnParse: what the functions that it reaches do, as contracts. Conditions: those that each theorem names. -/
import Derived.Test.YtmgfajamanakcaaGreatDoorD47
import Derived.Test.YtmgfajamanakcaaGreatDoorD41
namespace Go.Proofs.YtmgfajamanakcaaGreatDoor
set_option linter.unusedVariables false
set_option linter.unusedSimpArgs false
open Go Go.RowKit Si
set_option maxRecDepth 100000
theorem DecS.small {t : ByteArray} {V : Int} (h : DecS t V) (hV : V < BB ^ 20) : t.size ≤ 400 := by
  obtain ⟨_, h2, h3⟩ := h
  rcases Nat.lt_or_ge 400 t.size with h | h
  · exfalso
    rcases h3 with h3 | h3
    · omega
    · have h4 := ten_le (show 400 ≤ t.size - 1 by omega)
      have h5 : BB ^ 20 < (10 : Int) ^ 400 := by decide +kernel
      omega
  · exact h
end Go.Proofs.YtmgfajamanakcaaGreatDoor
