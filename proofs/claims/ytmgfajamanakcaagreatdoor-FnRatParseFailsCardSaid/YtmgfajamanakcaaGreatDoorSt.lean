/-
  Step laws for regions that draw their order: a copy of words, a clear, an append of one word; pointers of a slice's first word held against each other.
-/
import Derived.Test.YtmgfajamanakcaaGreatDoorLv
import Derived.Deep.RegionLaw
namespace Go.Proofs.YtmgfajamanakcaaGreatDoor
open Go.RowKit
set_option maxRecDepth 100000
set_option linter.unusedVariables false
theorem step_copy_word {ops : Array Oper} {o : Oper} {a : Act} {w : World} {K : Act → World → Prop} {Q : Exit → Act → World → Prop} {E : Prop} (hg : o.guard = none) (d s : Operand) (t1 t2 : TypeId)
    (hop : o.op = .call { callee := .builtin .copy, args := #[d, s], argTypes := #[t1, t2] }) (hu : Tryz.prog.underlying t1 = some (.slice 153))
    (b off nd cd : Nat) (sa : Option Addr) (ns cs n : Nat) (X : Nat → Int) (hd : a.eval d = .slice (some ⟨b, off, none⟩) nd cd) (hs : a.eval s = .slice sa ns cs)
    (hn : n = Nat.min ns nd) (hz : Room w b off n) (hr : Rd w sa n X)
    (h : ∀ w', Chg (zRow b off n) w w' ∧ Words w' b off n X ∧ (∀ b' o' m, Room w b' o' m → Room w' b' o' m) → K (a.put o.dst (.int .i64 n)) w') :
    if Region.wanted o (yielded ops a.tmps) = true then Oper.wp Tryz.prog o a w K Q else E := by
  have hw : Region.wanted o (yielded ops a.tmps) = true := by simp [Region.wanted, hg]
  rw [if_pos hw]
  obtain ⟨w', hrun, h2⟩ := run_copy_word t1 t2 o.type hu b off nd cd sa ns cs n X w hn hz hr
  unfold Oper.wp
  simp [execOp, hop, resolve, invoke, builtin, hd, hs, hrun, Result.andThen]
  exact h w' h2
theorem step_copy_zero {ops : Array Oper} {o : Oper} {a : Act} {w : World} {K : Act → World → Prop} {Q : Exit → Act → World → Prop} {E : Prop} (hg : o.guard = none) (d s : Operand) (t1 t2 : TypeId)
    (hop : o.op = .call { callee := .builtin .copy, args := #[d, s], argTypes := #[t1, t2] }) (hu : Tryz.prog.underlying t1 = some (.slice 153))
    (da : Option Addr) (nd cd : Nat) (sa : Option Addr) (ns cs : Nat) (hd : a.eval d = .slice da nd cd) (hs : a.eval s = .slice sa ns cs)
    (hn : Nat.min ns nd = 0) (h : K (a.put o.dst (.int .i64 0)) w) :
    if Region.wanted o (yielded ops a.tmps) = true then Oper.wp Tryz.prog o a w K Q else E := by
  have hw : Region.wanted o (yielded ops a.tmps) = true := by simp [Region.wanted, hg]
  rw [if_pos hw]
  have hrun := run_copy_none (P := Tryz.prog) w t1 t2 o.type 153 da sa nd cd ns cs hu size153 hn
  unfold Oper.wp
  simp [execOp, hop, resolve, invoke, builtin, hd, hs, hrun, Result.andThen]
  exact h
theorem step_clear_word {ops : Array Oper} {o : Oper} {a : Act} {w : World} {K : Act → World → Prop} {Q : Exit → Act → World → Prop} {E : Prop} (hg : o.guard = none) (s : Operand) (t1 : TypeId)
    (hop : o.op = .call { callee := .builtin .clear, args := #[s], argTypes := #[t1] }) (hu : Tryz.prog.underlying t1 = some (.slice 153))
    (b off n c : Nat) (hs : a.eval s = .slice (some ⟨b, off, none⟩) n c) (hn : 0 < n) (hz : Room w b off n)
    (h : ∀ w', Chg (zRow b off n) w w' ∧ Words w' b off n (fun _ => 0) ∧ (∀ b' o' m, Room w b' o' m → Room w' b' o' m) → K (a.put o.dst (.tuple #[])) w') :
    if Region.wanted o (yielded ops a.tmps) = true then Oper.wp Tryz.prog o a w K Q else E := by
  have hw : Region.wanted o (yielded ops a.tmps) = true := by simp [Region.wanted, hg]
  rw [if_pos hw]
  obtain ⟨w', hrun, h2⟩ := run_clear_word t1 o.type hu b off n c w hn hz
  unfold Oper.wp
  simp [execOp, hop, resolve, invoke, builtin, hs, hrun, Result.andThen]
  exact h w' h2
theorem ptr_ne (w : World) {b o b' o' : Nat} {B : Bool} (h : PB w b) (h' : PB w b') (hB : B = !decide (b = b' ∧ o = o')) :
    (binOp .neq 241 (.pointer (some ⟨b, o, none⟩)) (.pointer (some ⟨b', o', none⟩))).run Tryz.prog w = .ok (.bool B) w := by
  have e := ptr_eq w h h' (rfl : decide (b = b' ∧ o = o') = decide (b = b' ∧ o = o'))
  subst hB
  simp only [binOp] at e ⊢
  cases hh : (Op.equal 241 (.pointer (some ⟨b, o, none⟩)) (.pointer (some ⟨b', o', none⟩))).run Tryz.prog w with
  | ok v w1 => simp [hh, Result.andThen] at e ⊢; exact ⟨by rw [e.1], e.2⟩
  | _ => simp [hh, Result.andThen] at e
end Go.Proofs.YtmgfajamanakcaaGreatDoor
