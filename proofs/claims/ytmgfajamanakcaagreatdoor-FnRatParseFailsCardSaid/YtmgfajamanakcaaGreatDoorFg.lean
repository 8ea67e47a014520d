/-
  A scanned number has a figure. Plain Lean; no walk in sight.
-/
import Derived.Test.YtmgfajamanakcaaGreatDoorPl
namespace Go.Proofs.YtmgfajamanakcaaGreatDoor
set_option linter.unusedVariables false
def isFig (c : Int) : Prop := (48 ≤ c ∧ c ≤ 57) ∨ (97 ≤ c ∧ c ≤ 102) ∨ (65 ≤ c ∧ c ≤ 70)
theorem fig_of_digOf {c b : Int} (hb : b ≤ 16) (h : digOf c < b) : isFig c := by
  unfold digOf at h
  unfold isFig
  split at h
  · omega
  · split at h
    · omega
    · split at h <;> omega
theorem runF_fig {b0 : Bool} {b : Int} {s : ByteArray} (hb : b ≤ 16) : ∀ (k p : Nat) (st : SS), st.cnt < (runF b0 b s k p st).2.cnt → ∃ i, p ≤ i ∧ i < p + k ∧ isFig (byteAt s i)
  | 0, p, st, h => by simp only [runF] at h; omega
  | k + 1, p, st, h => by
    cases hs : stepS b0 b st (byteAt s p) with
    | none => simp only [runF, hs] at h; omega
    | some st' =>
      simp only [runF, hs] at h
      by_cases hc : st'.cnt = st.cnt
      · obtain ⟨i, h1, h2, h3⟩ := runF_fig (b0 := b0) (s := s) hb k (p + 1) st' (by omega)
        exact ⟨i, by omega, by omega, h3⟩
      · refine ⟨p, Nat.le_refl _, by omega, ?_⟩
        unfold stepS at hs
        split at hs
        · injection hs with hs; subst hs; exact absurd rfl hc
        · split at hs
          · injection hs with hs; subst hs; exact absurd rfl hc
          · split at hs
            · rename_i hd
              exact fig_of_digOf hb hd
            · cases hs
theorem preS_frac {base : Int} {s : ByteArray} {p : Nat} (hb : base ≤ 16) : (preS base true s p).b ≤ 16 ∧ (preS base true s p).pf ≠ 48 ∧ p ≤ (preS base true s p).p ∧ ((preS base true s p).cnt = 0 ∨ (p < s.size ∧ byteAt s p = 48)) := by
  unfold preS
  repeat' split
  all_goals simp_all
theorem scanS_fig {base : Int} {s : ByteArray} {p : Nat} (hb : base ≤ 16) (h : (scanS base true s p).err = 0) : ∃ i, p ≤ i ∧ i < s.size ∧ isFig (byteAt s i) := by
  obtain ⟨h1, h2, h3, h4⟩ := preS_frac (s := s) (p := p) hb
  unfold scanS at h
  have h5 : (lastS base true s p).2.cnt ≠ 0 := fun e => by
    simp only [e, h2] at h
    simp at h
  rcases h4 with h4 | ⟨h4, h6⟩
  · have h7 : (startS base true s p).cnt < (lastS base true s p).2.cnt := by
      show (preS base true s p).cnt < _
      omega
    unfold lastS runS at h7
    obtain ⟨i, g1, g2, g3⟩ := runF_fig h1 _ _ _ h7
    exact ⟨i, by omega, by omega, g3⟩
  · exact ⟨p, Nat.le_refl _, h4, by rw [h6]; unfold isFig; omega⟩
end Go.Proofs.YtmgfajamanakcaaGreatDoor
