/-
  nat.scan: what its walk is made of: the errors, the byte ahead, the prefix. Conditions: none; no walk in sight but the reading of one byte.
-/
import Derived.Test.YtmgfajamanakcaaGreatDoorScn
import Derived.Test.YtmgfajamanakcaaGreatDoorRv
import Derived.Deep.DeepCutAuto
import Derived.Deep.CutBlock
namespace Go.Proofs.YtmgfajamanakcaaGreatDoor
open Go.RowKit
set_option maxRecDepth 100000
set_option linter.unusedVariables false
/-- The errors that the scanning names: io.EOF, errInvalSep, errNoDigits. -/
structure Errs (w : World) (eof e1 e2 : Value) : Prop where
  eof : w.cell? ⟨0, 0, none⟩ = some eof
  sep : w.cell? ⟨2, 0, none⟩ = some e1
  dig : w.cell? ⟨3, 0, none⟩ = some e2
theorem Errs.chg {Z : Zone} {w w' : World} {eof e1 e2 : Value} (h : Errs w eof e1 e2) (k : Chg Z w w') (hz : ∀ b, ¬ Z b 0) : Errs w' eof e1 e2 := ⟨k.cell h.eof (hz _), k.cell h.sep (hz _), k.cell h.dig (hz _)⟩
/-- The byte that was read at place q, or the end. -/
def Head (w : World) (br : Nat) (s : ByteArray) (q : Nat) (more : Bool) (c : Int) : Prop :=
  c = (if more then byteAt s q else 0) ∧ (more = true ↔ q < s.size) ∧ RdAt w br s (if more then q + 1 else q)
def errOf (more : Bool) (eof : Value) : Value := if more then .nilIface else eof
theorem errOf_true (v : Value) : errOf true v = .nilIface := rfl
theorem errOf_false (v : Value) : errOf false v = v := rfl
def HeadPost (w : World) (br : Nat) (s : ByteArray) (q : Nat) (eof : Value) (e : Ending) (w' : World) : Prop :=
  ∃ more c, e = .returned (.tuple #[.int .u8 c, errOf more eof]) ∧ Head w' br s q more c ∧ Chg (zRow br 1 2) w w'
theorem read_head (br : Nat) (s : ByteArray) (q : Nat) (eof : Value) (w : World) (h : RdAt w br s q) (hs : s.size < 4611686018427387904) (hq : q ≤ s.size) (hbr : br ≠ 0) (hE : w.cell? ⟨0, 0, none⟩ = some eof) :
    Calls Tryz.prog 113 #[.pointer (some ⟨br, 0, none⟩)] w (HeadPost w br s q eof) := by
  by_cases hi : q < s.size
  · refine (read_more br s q _ w h hi hs rfl).mono ?_
    rintro e w' ⟨rfl, h1, h2⟩
    exact ⟨true, _, rfl, ⟨rfl, by simp [hi], h1⟩, h2⟩
  · refine (ReadByte_end br s q eof w h (by omega) (by omega) hbr hE).mono ?_
    rintro e w' ⟨rfl, h1, h2⟩
    exact ⟨false, _, rfl, ⟨rfl, by simp [hi], h1⟩, h2⟩
def PreRel (w : World) (br : Nat) (s : ByteArray) (eof : Value) (PR : Pre) (s9 s10 s11 s13 s15 s16 : Value) (wc : World) : Prop :=
  ∃ more c, s9 = .int .i64 PR.b ∧ s10 = .int .i64 PR.cnt ∧ s11 = errOf more eof ∧ s13 = .int .i32 PR.prev ∧ s15 = .int .u8 c ∧ s16 = .int .i64 PR.pf ∧ Hid (Head wc br s PR.p more c ∧ Chg (zRow br 1 2) w wc)
theorem zrow_zero {br b : Nat} : ¬ zRow br 1 2 b 0 := fun ⟨_, h, _⟩ => by omega
theorem pre_two (frac : Bool) {s : ByteArray} {p : Nat} (h0 : p + 1 < s.size) (h1 : byteAt s p = 48) (h2 : byteAt s (p + 1) = 98 ∨ byteAt s (p + 1) = 66) : preS 0 frac s p = ⟨2, 98, p + 2, 48, 0⟩ := by
  unfold preS; rw [if_neg (by simp), if_pos ⟨by omega, h1⟩, if_pos h0, if_pos h2]
theorem pre_eight (frac : Bool) {s : ByteArray} {p : Nat} (h0 : p + 1 < s.size) (h1 : byteAt s p = 48) (h2 : byteAt s (p + 1) = 111 ∨ byteAt s (p + 1) = 79) : preS 0 frac s p = ⟨8, 111, p + 2, 48, 0⟩ := by
  unfold preS; rw [if_neg (by simp), if_pos ⟨by omega, h1⟩, if_pos h0, if_neg (by omega), if_pos h2]
theorem pre_sixteen (frac : Bool) {s : ByteArray} {p : Nat} (h0 : p + 1 < s.size) (h1 : byteAt s p = 48) (h2 : byteAt s (p + 1) = 120 ∨ byteAt s (p + 1) = 88) : preS 0 frac s p = ⟨16, 120, p + 2, 48, 0⟩ := by
  unfold preS; rw [if_neg (by simp), if_pos ⟨by omega, h1⟩, if_pos h0, if_neg (by omega), if_neg (by omega), if_pos h2]
theorem pre_other (frac : Bool) {s : ByteArray} {p : Nat} (h0 : p + 1 < s.size) (h1 : byteAt s p = 48) (h2 : byteAt s (p + 1) ≠ 98) (h3 : byteAt s (p + 1) ≠ 66) (h4 : byteAt s (p + 1) ≠ 111) (h5 : byteAt s (p + 1) ≠ 79) (h6 : byteAt s (p + 1) ≠ 120) (h7 : byteAt s (p + 1) ≠ 88) :
    preS 0 frac s p = if frac = true then ⟨10, 0, p + 1, 48, 1⟩ else ⟨8, 48, p + 1, 48, 0⟩ := by
  unfold preS; rw [if_neg (by simp), if_pos ⟨by omega, h1⟩, if_pos h0, if_neg (by omega), if_neg (by omega), if_neg (by omega)]
theorem pre_zero (frac : Bool) {s : ByteArray} {p : Nat} (h0 : ¬ p + 1 < s.size) (hp : p < s.size) (h1 : byteAt s p = 48) : preS 0 frac s p = ⟨10, 0, p + 1, 48, 1⟩ := by
  unfold preS; rw [if_neg (by simp), if_pos ⟨hp, h1⟩, if_neg h0]
theorem pre_none (frac : Bool) {s : ByteArray} {p : Nat} (h : ¬ (p < s.size ∧ byteAt s p = 48)) : preS 0 frac s p = ⟨10, 0, p, 46, 0⟩ := by
  unfold preS; rw [if_neg (by simp), if_neg h]
theorem pre_given {base : Int} (frac : Bool) {s : ByteArray} {p : Nat} (h : base ≠ 0) : preS base frac s p = ⟨base, 0, p, 46, 0⟩ := by
  unfold preS; rw [if_pos h]
/-- What the switch over the prefix's byte leaves. -/
def SwRel (frac : Bool) (s : ByteArray) (p : Nat) (w : World) (s9 s16 : Value) (wc : World) : Prop :=
  ∃ b pf : Int, s9 = .int .i64 b ∧ s16 = .int .i64 pf ∧ w = wc ∧ Hid (preS 0 frac s p = if pf = 0 then ⟨b, 0, p + 1, 48, 1⟩ else if pf = 48 then ⟨b, 48, p + 1, 48, 0⟩ else ⟨b, pf, p + 2, 48, 0⟩)
end Go.Proofs.YtmgfajamanakcaaGreatDoor
