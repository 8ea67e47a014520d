/- Part of the proof of FnParse: what the functions that it reaches do, as contracts. Conditions: those that each theorem names. -/
import Derived.Test.YtmgfajamanakcaaGreatDoorD15
import Derived.Test.YtmgfajamanakcaaGreatDoorD16
import Derived.Test.YtmgfajamanakcaaGreatDoorD08
import Derived.Deep.DeepCutAuto
import Derived.Deep.CutBlock
import Derived.Deep.RegionHeld3
import Derived.StillTailTactics
import Derived.Outline
namespace Go.Proofs.YtmgfajamanakcaaGreatDoor
set_option linter.unusedVariables false
set_option linter.unusedSimpArgs false
open Go.RowKit
set_option maxRecDepth 100000
structure RndV (v : FV) (M : Int) (sb : Bool) (p : Nat) (v' : FV) (Y : Nat → Int) : Prop where
  pr : v'.p = v.p
  md : v'.md = v.md
  ng : v'.ng = v.ng
  ac : v'.ac = racc v.ng M (64 * v.n) p v.md sb
  vl : (rm v.ng M (64 * v.n) p v.md sb < 2 ^ p ∧ v'.fm = 1 ∧ v'.n = (p + 63) / 64 ∧ v'.e = v.e ∧ val Y v'.n = rm v.ng M (64 * v.n) p v.md sb * 2 ^ (64 * v'.n - p)) ∨
    (rm v.ng M (64 * v.n) p v.md sb = 2 ^ p ∧ v.e < 2147483647 ∧ v'.fm = 1 ∧ v'.n = (p + 63) / 64 ∧ v'.e = v.e + 1 ∧ val Y v'.n = 2 ^ (64 * v'.n - 1)) ∨
    (rm v.ng M (64 * v.n) p v.md sb = 2 ^ p ∧ v.e = 2147483647 ∧ v'.fm = 2)
def RoundPost (w : World) (b : Nat) (v : FV) (X : Nat → Int) (sb : Bool) (p : Nat) (w' : World) : Prop :=
  (64 * v.n ≤ p → FNum w' b { v with ac := 0 } X ∧ Chg (zRow b 0 7) w w') ∧
  (p < 64 * v.n → ∃ v' Y, RndV v (val X v.n) sb p v' Y ∧ FNum w' b v' Y ∧ v'.a = v.a ∧ v'.c = v.c ∧ Chg (zF b v) w w')
end Go.Proofs.YtmgfajamanakcaaGreatDoor
