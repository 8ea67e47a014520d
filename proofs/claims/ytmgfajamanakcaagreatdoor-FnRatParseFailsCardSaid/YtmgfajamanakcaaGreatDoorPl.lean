/-
  What a scan has read: bytes that a number has, and no stroke. Plain Lean; no walk in sight.
-/
import Derived.Test.YtmgfajamanakcaaGreatDoorScn
namespace Go.Proofs.YtmgfajamanakcaaGreatDoor
set_option linter.unusedVariables false
/-- A byte that a number has. -/
def okB (c : Int) : Prop := (48 ≤ c ∧ c ≤ 57) ∨ (97 ≤ c ∧ c ≤ 102) ∨ (65 ≤ c ∧ c ≤ 70) ∨ c = 46 ∨ c = 95 ∨ c = 43 ∨ c = 45 ∨ c = 112 ∨ c = 80 ∨ c = 120 ∨ c = 88 ∨ c = 111 ∨ c = 79
theorem okB_step {b0 : Bool} {b : Int} {st st' : SS} {c : Int} (hb : b ≤ 16) (h : stepS b0 b st c = some st') : okB c := by
  unfold stepS at h
  split at h
  · rename_i h1; unfold okB; omega
  · split at h
    · rename_i h1; unfold okB; omega
    · split at h
      · rename_i h1
        unfold digOf at h1
        unfold okB
        split at h1
        · omega
        · split at h1
          · omega
          · split at h1 <;> omega
      · cases h
theorem runF_ok {b0 : Bool} {b : Int} {s : ByteArray} (hb : b ≤ 16) : ∀ (k p : Nat) (st : SS), p ≤ (runF b0 b s k p st).1 ∧ (runF b0 b s k p st).1 ≤ p + k ∧ ∀ i, p ≤ i → i < (runF b0 b s k p st).1 → okB (byteAt s i)
  | 0, p, st => ⟨Nat.le_refl _, Nat.le_refl _, fun i h1 h2 => by simp only [runF] at h2; omega⟩
  | k + 1, p, st => by
    simp only [runF]
    split
    · exact ⟨Nat.le_refl _, by simp, fun i h1 h2 => by simp only at h2; omega⟩
    · rename_i st' hs
      obtain ⟨h1, h2, h3⟩ := runF_ok hb k (p + 1) st' (b0 := b0) (s := s)
      refine ⟨by omega, by omega, fun i h4 h5 => ?_⟩
      by_cases e : i = p
      · subst e; exact okB_step hb hs
      · exact h3 i (by omega) h5
theorem preS_ok {base : Int} {frac : Bool} {s : ByteArray} {p : Nat} (hp : p ≤ s.size) (hb : base ≤ 16) : (preS base frac s p).b ≤ 16 ∧ p ≤ (preS base frac s p).p ∧ (preS base frac s p).p ≤ s.size ∧ ∀ i, p ≤ i → i < (preS base frac s p).p → okB (byteAt s i) := by
  unfold preS
  split
  · exact ⟨hb, Nat.le_refl _, hp, fun i h1 h2 => by simp only at h2; omega⟩
  · split
    · rename_i h48
      have h0 : okB (byteAt s p) := by unfold okB; omega
      have h1 : ∀ i, p ≤ i → i < p + 1 → okB (byteAt s i) := fun i a b => (show i = p by omega) ▸ h0
      have h2 : okB (byteAt s (p + 1)) → ∀ i, p ≤ i → i < p + 2 → okB (byteAt s i) := fun hh i a b => by
        by_cases e : i = p
        · subst e; exact h0
        · obtain rfl : i = p + 1 := by omega
          exact hh
      split
      · split
        · exact ⟨by simp, by simp, by simp only; omega, h2 (by unfold okB; omega)⟩
        · split
          · exact ⟨by simp, by simp, by simp only; omega, h2 (by unfold okB; omega)⟩
          · split
            · exact ⟨by simp, by simp, by simp only; omega, h2 (by unfold okB; omega)⟩
            · split
              · exact ⟨by simp, by simp, by simp only; omega, h1⟩
              · exact ⟨by simp, by simp, by simp only; omega, h1⟩
      · exact ⟨by simp, by simp, by simp only; omega, h1⟩
    · exact ⟨by simp, Nat.le_refl _, hp, fun i h1 h2 => by simp only at h2; omega⟩
theorem lastS_ok {base : Int} {frac : Bool} {s : ByteArray} {p : Nat} (hp : p ≤ s.size) (hb : base ≤ 16) : p ≤ (lastS base frac s p).1 ∧ (lastS base frac s p).1 ≤ s.size ∧ ∀ i, p ≤ i → i < (lastS base frac s p).1 → okB (byteAt s i) := by
  obtain ⟨h1, h2, h3, h4⟩ := preS_ok (frac := frac) hp hb
  unfold lastS runS
  obtain ⟨g1, g2, g3⟩ := runF_ok h1 (b0 := base == 0) (s := s) (s.size - (preS base frac s p).p) (preS base frac s p).p (startS base frac s p)
  refine ⟨by omega, by omega, fun i a b => ?_⟩
  by_cases e : i < (preS base frac s p).p
  · exact h4 i a e
  · exact g3 i (by omega) b
theorem scanS_p {base : Int} {frac : Bool} {s : ByteArray} {p : Nat} : (scanS base frac s p).p = (lastS base frac s p).1 := by
  unfold scanS
  simp only
  split <;> rfl
theorem scanS_ok {base : Int} {frac : Bool} {s : ByteArray} {p : Nat} (hp : p ≤ s.size) (hb : base ≤ 16) : p ≤ (scanS base frac s p).p ∧ (scanS base frac s p).p ≤ s.size ∧ ∀ i, p ≤ i → i < (scanS base frac s p).p → okB (byteAt s i) := by
  rw [scanS_p]; exact lastS_ok hp hb
end Go.Proofs.YtmgfajamanakcaaGreatDoor
