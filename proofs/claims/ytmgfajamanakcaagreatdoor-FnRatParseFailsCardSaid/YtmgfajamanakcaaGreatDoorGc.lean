/-
  The greatest common divisor of 1 and of another word, walked: NewInt(0), lehmerGCD. Conditions: the cells as IntC says.
-/
import Derived.Test.YtmgfajamanakcaaGreatDoorIw
import Derived.Deep.QuietTactic
import Derived.Deep.LoopGhost
import Derived.Outline
namespace Go.Proofs.YtmgfajamanakcaaGreatDoor
open Go.RowKit
set_option maxRecDepth 100000
set_option linter.unusedVariables false
theorem NewInt_zero (w : World) : Calls Tryz.prog 142 #[.int .i64 0] w fun e w' => e = .returned (.pointer (some ⟨w.heap.size, 0, none⟩)) ∧ w' = w.alloc (.cells #[.bool false, .slice none 0 0] 122) := by
  go_enter Tryz.func142, Tryz.ntmps142
  go_wp2
  go_ret
  exact ⟨rfl, rfl⟩
theorem getStack_any (w : World) : Calls Tryz.prog 100 #[] w fun e w' => e = .returned (.pointer (some ⟨w.heap.size, 0, none⟩)) ∧ w' = w.alloc (.cells #[.pointer none] 208) := by
  go_enter Tryz.func100, Tryz.ntmps100
  go_wp2
  go_ret
  exact ⟨rfl, rfl⟩
theorem free_none (p : Nat) (u : FrameMode) (w : World) (h : w.cell? ⟨p, 0, none⟩ = some (.pointer none)) :
    CallsD Tryz.prog 101 #[.pointer (some ⟨p, 0, none⟩)] u w fun e u' w' => u' = u ∧ (e = .returned (.tuple #[]) ∧ w' = w) := by
  go_enter_d Tryz.func101, Tryz.ntmps101
  go_wp2
  go_end0
  exact ⟨rfl, rfl⟩
theorem intOne_any (w : World) : Calls Tryz.prog 145 #[] w fun e w' => e = .returned (.pointer (some ⟨w.heap.size + 1, 0, none⟩)) ∧ w' = (w.alloc (.cells #[.int .u64 1] 153)).alloc (.cells #[.bool false, .slice (some ⟨w.heap.size, 0, none⟩) 1 1] 122) := by
  go_enter Tryz.func145, Tryz.ntmps145
  go_wp2
  go_ret
  exact ⟨rfl, rfl⟩
theorem int_ptr_eq (w : World) {b o b' o' : Nat} (h : PB w b) (h' : PB w b') (hB : ¬ (b = b' ∧ o = o')) :
    (binOp .eql 130 (.pointer (some ⟨b, o, none⟩)) (.pointer (some ⟨b', o', none⟩))).run Tryz.prog w = .ok (.bool false) w := by
  cases hi : Tryz.prog.info? 122 with
  | none => have := info122; rw [hi] at this; cases this
  | some i =>
    have hs : i.size = 2 := by have := info122; rw [hi] at this; simpa using this
    obtain ⟨cs, t, h⟩ := h
    obtain ⟨cs', t', h'⟩ := h'
    exact run_eql_ptr_other w Tryz.underlying130 hi (by omega) (fun (e : (⟨b, o, none⟩ : Addr) = ⟨b', o', none⟩) => hB (by injection e with e1 e2; exact ⟨e1, e2⟩)) h h'
theorem NatIn.drewN {w : World} {a : Option Addr} {n c : Nat} {X : Nat → Int} (h : NatIn w a n c X) (k : Nat) : NatIn (w.drewN k) a n c X := ⟨h.rd, h.wf, h.le, h.small, h.aok⟩
set_option maxHeartbeats 2000000 in
/-- Cmp of two numbers that are not negative. -/
theorem Cmp_pos (xb xo yb yo : Nat) (ax ay : Option Addr) (xn xc yn yc : Nat) (X Y : Nat → Int) (w : World) (hx : IntC w xb xo false ax xn xc) (hy : IntC w yb yo false ay yn yc) (hxi : NatIn w ax xn xc X) (hyi : NatIn w ay yn yc Y) (hnx : Norm X xn) (hny : Norm Y yn)
    (hpx : PB w xb) (hpy : PB w yb) (hne : ¬ (xb = yb ∧ xo = yo)) :
    Calls Tryz.prog 144 #[.pointer (some ⟨xb, xo, none⟩), .pointer (some ⟨yb, yo, none⟩)] w (CmpPost w (val X xn) (val Y yn)) := by
  have hp := int_ptr_eq w hpx hpy hne
  have HC := Lib.hid (fun n => cmp_any ax ay xn xc yn yc X Y (w.drewN n) (hxi.drewN n) (hyi.drewN n) hnx hny)
  obtain ⟨x0, x1, x2, x3⟩ := hx
  obtain ⟨y0, y1, y2, y3⟩ := hy
  obtain ⟨cv, hcv⟩ : ∃ v, cmpV (val X xn) (val Y yn) = v := ⟨_, rfl⟩
  have Hcv := Lib.hid hcv
  clear hxi hyi hnx hny hpx hpy hne hcv
  go_enter Tryz.func144, Tryz.ntmps144
  go_wp2_with fail
  go_quiet (fail)
  go_wp2_with fail
  go_cut [4] (fun s4 wc => s4 = .int .i64 cv ∧ ∃ n, wc = w.drewN n)
  case first =>
    go_region_with (go_at_call 108; go_loud (refine (HC.out (nq + 1)).mono ?_; rintro e w1 ⟨rfl, n1, rfl⟩))
    all_goals rw [Hcv.out]
    all_goals go_wp2
    all_goals go_meet
    all_goals exact ⟨rfl, _, rfl⟩
  case rest =>
    obtain ⟨rfl, n, rfl⟩ := hcut
    go_wp2
    go_ret
    exact ⟨by rw [Hcv.out]; rfl, n, rfl⟩
end Go.Proofs.YtmgfajamanakcaaGreatDoor
