/-
  What nat.scan computes, in plain Lean: the prefix, the run over the digits, the end. Conditions: none; no walk in sight.
-/
import Derived.Test.YtmgfajamanakcaaGreatDoorSg
namespace Go.Proofs.YtmgfajamanakcaaGreatDoor
open Go.RowKit
set_option linter.unusedVariables false
/-- What the run carries: the kind of the byte before, whether a '_' stood wrongly, whether a point may come, the digits' number, the point's place, the value. -/
structure SS where
  prev : Int
  inval : Bool
  frac : Bool
  cnt : Nat
  dp : Int
  V : Int
/-- A byte as a digit (bases up to 36); 63: none. -/
def digOf (c : Int) : Int := if 48 ≤ c ∧ c ≤ 57 then c - 48 else if 97 ≤ c ∧ c ≤ 122 then c - 87 else if 65 ≤ c ∧ c ≤ 90 then c - 55 else 63
def stepS (b0 : Bool) (b : Int) (st : SS) (c : Int) : Option SS :=
  if c = 46 ∧ st.frac = true then some { st with frac := false, inval := st.inval || st.prev == 95, prev := 46, dp := st.cnt }
  else if c = 95 ∧ b0 = true then some { st with inval := st.inval || st.prev != 48, prev := 95 }
  else if digOf c < b then some { st with prev := 48, cnt := st.cnt + 1, V := st.V * b + digOf c }
  else none
def runF (b0 : Bool) (b : Int) (s : ByteArray) : Nat → Nat → SS → Nat × SS
  | 0, p, st => (p, st)
  | k + 1, p, st =>
    match stepS b0 b st (byteAt s p) with
    | none => (p, st)
    | some st' => runF b0 b s k (p + 1) st'
def runS (b0 : Bool) (b : Int) (s : ByteArray) (p : Nat) (st : SS) : Nat × SS := runF b0 b s (s.size - p) p st
theorem runS_end {b0 : Bool} {b : Int} {s : ByteArray} {p : Nat} {st : SS} (h : s.size ≤ p) : runS b0 b s p st = (p, st) := by
  unfold runS; rw [show s.size - p = 0 by omega]; rfl
theorem runS_stop {b0 : Bool} {b : Int} {s : ByteArray} {p : Nat} {st : SS} (h : p < s.size) (hs : stepS b0 b st (byteAt s p) = none) : runS b0 b s p st = (p, st) := by
  unfold runS; rw [show s.size - p = (s.size - (p + 1)) + 1 by omega]; simp only [runF, hs]
theorem runS_step {b0 : Bool} {b : Int} {s : ByteArray} {p : Nat} {st st' : SS} (h : p < s.size) (hs : stepS b0 b st (byteAt s p) = some st') : runS b0 b s p st = runS b0 b s (p + 1) st' := by
  unfold runS; rw [show s.size - p = (s.size - (p + 1)) + 1 by omega]; simp only [runF, hs]
/-- The prefix: the base, the prefix's byte or 0, where the digits begin, the kind of the byte before, the digits' number. -/
structure Pre where
  b : Int
  pf : Int
  p : Nat
  prev : Int
  cnt : Nat
def preS (base : Int) (frac : Bool) (s : ByteArray) (p : Nat) : Pre :=
  if base ≠ 0 then ⟨base, 0, p, 46, 0⟩
  else if p < s.size ∧ byteAt s p = 48 then
    if p + 1 < s.size then
      if byteAt s (p + 1) = 98 ∨ byteAt s (p + 1) = 66 then ⟨2, 98, p + 2, 48, 0⟩
      else if byteAt s (p + 1) = 111 ∨ byteAt s (p + 1) = 79 then ⟨8, 111, p + 2, 48, 0⟩
      else if byteAt s (p + 1) = 120 ∨ byteAt s (p + 1) = 88 then ⟨16, 120, p + 2, 48, 0⟩
      else if frac = true then ⟨10, 0, p + 1, 48, 1⟩ else ⟨8, 48, p + 1, 48, 0⟩
    else ⟨10, 0, p + 1, 48, 1⟩
  else ⟨10, 0, p, 46, 0⟩
def startS (base : Int) (frac : Bool) (s : ByteArray) (p : Nat) : SS := ⟨(preS base frac s p).prev, false, frac, (preS base frac s p).cnt, -1, 0⟩
def lastS (base : Int) (frac : Bool) (s : ByteArray) (p : Nat) : Nat × SS := runS (base == 0) (preS base frac s p).b s (preS base frac s p).p (startS base frac s p)
/-- The result: the value, the base, the digits' number (or less the places behind the point), the error (1: a '_' stood wrongly, 2: no digits), the place behind. -/
structure Scan where
  V : Int
  b : Int
  cnt : Int
  err : Nat
  p : Nat
def sepOf (st : SS) : Bool := st.inval || st.prev == 95
def scanS (base : Int) (frac : Bool) (s : ByteArray) (p : Nat) : Scan :=
  let pr := preS base frac s p
  let (q, st) := lastS base frac s p
  if st.cnt = 0 ∧ pr.pf = 48 then ⟨0, 10, 1, if sepOf st then 1 else 0, q⟩
  else ⟨st.V, pr.b, if 0 ≤ st.dp then st.dp - st.cnt else st.cnt, if st.cnt = 0 then 2 else if sepOf st then 1 else 0, q⟩
/-! ### What holds along the run -/
structure RunOK (b : Int) (s : ByteArray) (q : Nat) (st : SS) : Prop where
  hq : q ≤ s.size
  hc : st.cnt ≤ q
  hV0 : 0 ≤ st.V
  hV : st.V < b ^ st.cnt
  hdp : -1 ≤ st.dp ∧ st.dp ≤ st.cnt
theorem digOf_nonneg {c : Int} : 0 ≤ digOf c := by unfold digOf; split <;> (try split) <;> (try split) <;> omega
theorem RunOK.step {b0 : Bool} {b : Int} {s : ByteArray} {q : Nat} {st st' : SS} (h : RunOK b s q st) (hb : 2 ≤ b) (hq : q < s.size) (hs : stepS b0 b st (byteAt s q) = some st') : RunOK b s (q + 1) st' := by
  obtain ⟨h1, h2, h3, h4, h5⟩ := h
  unfold stepS at hs
  split at hs
  · injection hs with hs; subst hs; exact ⟨by omega, by simp only; omega, h3, h4, by simp only; omega⟩
  · split at hs
    · injection hs with hs; subst hs; exact ⟨by omega, by simp only; omega, h3, h4, h5⟩
    · split at hs
      · rename_i hd
        injection hs with hs; subst hs
        have h0 := digOf_nonneg (c := byteAt s q)
        refine ⟨by omega, by simp only; omega, ?_, ?_, by simp only; omega⟩
        · have := Int.mul_nonneg h3 (show (0:Int) ≤ b by omega)
          simp only; omega
        · simp only
          rw [Int.pow_succ]
          have := Int.mul_le_mul_of_nonneg_right (show st.V ≤ b ^ st.cnt - 1 by omega) (show (0:Int) ≤ b by omega)
          rw [Int.sub_mul] at this
          omega
      · cases hs
end Go.Proofs.YtmgfajamanakcaaGreatDoor
