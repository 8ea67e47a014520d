/- Part of the proof of FnParse: what the functions that it reaches do, as contracts. Conditions: those that each theorem names. -/
import Derived.Test.YtmgfajamanakcaaGreatDoorD03
namespace Go.Proofs.YtmgfajamanakcaaGreatDoor
set_option linter.unusedVariables false
set_option linter.unusedSimpArgs false
set_option maxRecDepth 100000
theorem ten_pos (k : Nat) : (0 : Int) < 10 ^ k := Int.pow_pos (by decide)
theorem ten_le {a b : Nat} (h : a ≤ b) : (10 : Int) ^ a ≤ 10 ^ b := by
  obtain ⟨d, rfl⟩ : ∃ d, b = a + d := ⟨b - a, by omega⟩
  rw [Int.pow_add]
  have := Int.mul_le_mul_of_nonneg_left (show (1 : Int) ≤ 10 ^ d by have := ten_pos d; omega) (Int.le_of_lt (ten_pos a))
  omega
def DigW (X : Nat → Int) (lo hi : Nat) (V : Int) : Prop := lo ≤ hi ∧ 0 ≤ V ∧ V < 10 ^ (hi - lo) ∧ ∀ j, j < hi - lo → X (hi - 1 - j) = 48 + V / 10 ^ j % 10
theorem DigW.nil {X : Nat → Int} {a : Nat} : DigW X a a 0 := ⟨Nat.le_refl _, by omega, by simp, fun j hj => by omega⟩
theorem DigW.congr {X Y : Nat → Int} {lo hi : Nat} {V : Int} (h : DigW X lo hi V) (e : ∀ i, lo ≤ i → i < hi → Y i = X i) : DigW Y lo hi V :=
  ⟨h.1, h.2.1, h.2.2.1, fun j hj => by rw [e _ (by omega) (by omega)]; exact h.2.2.2 j hj⟩
theorem DigW.join {X : Nat → Int} {lo mi hi : Nat} {q r : Int} (h1 : DigW X lo mi q) (h2 : DigW X mi hi r) : DigW X lo hi (q * 10 ^ (hi - mi) + r) := by
  obtain ⟨a1, a2, a3, a4⟩ := h1
  obtain ⟨b1, b2, b3, b4⟩ := h2
  have hp := ten_pos (hi - mi)
  have e : (10 : Int) ^ (hi - lo) = 10 ^ (mi - lo) * 10 ^ (hi - mi) := by rw [← Int.pow_add]; congr 1; omega
  refine ⟨by omega, ?_, ?_, ?_⟩
  · have := Int.mul_nonneg a2 (Int.le_of_lt hp); omega
  · rw [e]
    have := Int.mul_le_mul_of_nonneg_right (show q + 1 ≤ 10 ^ (mi - lo) by omega) (Int.le_of_lt hp)
    rw [Int.add_mul, Int.one_mul] at this
    omega
  · intro j hj
    by_cases hjm : j < hi - mi
    · rw [b4 j hjm]
      have hpj := ten_pos j
      obtain ⟨d, hd⟩ : ∃ d, hi - mi = j + (d + 1) := ⟨hi - mi - j - 1, by omega⟩
      have e1 : q * 10 ^ (hi - mi) = 10 ^ j * (10 * (q * 10 ^ d)) := by
        rw [hd, Int.pow_add, Int.pow_succ]
        generalize (10 : Int) ^ j = u
        generalize (10 : Int) ^ d = v
        grind
      rw [e1, Int.add_comm (10 ^ j * _), Int.add_mul_ediv_left _ _ (by omega), Int.add_mul_emod_self_left]
    · have e2 : hi - 1 - j = mi - 1 - (j - (hi - mi)) := by omega
      rw [e2, a4 (j - (hi - mi)) (by omega)]
      have e3 : (10 : Int) ^ j = 10 ^ (hi - mi) * 10 ^ (j - (hi - mi)) := by rw [← Int.pow_add]; congr 1; omega
      rw [e3, ← Int.ediv_ediv_of_nonneg (Int.le_of_lt hp), Int.add_comm (q * _), Int.mul_comm q, Int.add_mul_ediv_left _ _ (by omega), Int.ediv_eq_zero_of_lt b2 b3, Int.zero_add]
theorem DigW.cons {X : Nat → Int} {lo hi : Nat} {V d : Int} (h : DigW X (lo + 1) hi V) (hd : 0 ≤ d ∧ d ≤ 9) (hx : X lo = 48 + d) : DigW X lo hi (d * 10 ^ (hi - (lo + 1)) + V) := by
  refine DigW.join (mi := lo + 1) ⟨by omega, hd.1, ?_, ?_⟩ h
  · rw [show lo + 1 - lo = 1 by omega]; simp; omega
  · intro j hj
    obtain rfl : j = 0 := by omega
    rw [show lo + 1 - 1 - 0 = lo by omega, hx, Int.pow_zero, Int.ediv_one, Int.emod_eq_of_lt hd.1 (by omega)]
theorem DigW.dig {X : Nat → Int} {lo hi i : Nat} {V : Int} (h : DigW X lo hi V) (h1 : lo ≤ i) (h2 : i < hi) : 48 ≤ X i ∧ X i ≤ 57 ∧ X i = 48 + V / 10 ^ (hi - 1 - i) % 10 := by
  have e := h.2.2.2 (hi - 1 - i) (by omega)
  rw [show hi - 1 - (hi - 1 - i) = i by omega] at e
  have a := Int.emod_nonneg (V / 10 ^ (hi - 1 - i)) (show (10 : Int) ≠ 0 by decide)
  have b := Int.emod_lt_of_pos (V / 10 ^ (hi - 1 - i)) (show (0 : Int) < 10 by decide)
  exact ⟨by omega, by omega, e⟩
theorem DigW.drop {X : Nat → Int} {lo hi : Nat} {V : Int} (h : DigW X lo hi V) (hl : lo < hi) (hx : X lo = 48) : DigW X (lo + 1) hi V := by
  obtain ⟨h1, h2, h3, h4⟩ := h
  have e := h4 (hi - 1 - lo) (by omega)
  rw [show hi - 1 - (hi - 1 - lo) = lo by omega, hx] at e
  have hp := ten_pos (hi - 1 - lo)
  have hlt : V / 10 ^ (hi - 1 - lo) < 10 := by
    rw [Int.ediv_lt_iff_lt_mul hp]
    have : (10 : Int) ^ (hi - lo) = 10 ^ (hi - 1 - lo) * 10 := by rw [← Int.pow_succ]; congr 1; omega
    omega
  have h0 : 0 ≤ V / 10 ^ (hi - 1 - lo) := Int.ediv_nonneg h2 (Int.le_of_lt hp)
  have hz : V / 10 ^ (hi - 1 - lo) = 0 := by omega
  refine ⟨by omega, h2, ?_, fun j hj => h4 j (by omega)⟩
  have := Int.lt_mul_ediv_self_add hp (x := V)
  rw [hz] at this
  rw [show hi - (lo + 1) = hi - 1 - lo by omega]
  omega
theorem DigW.lead {X : Nat → Int} {lo hi : Nat} {V : Int} (h : DigW X lo hi V) (hl : lo < hi) (hx : X lo ≠ 48) : 10 ^ (hi - 1 - lo) ≤ V := by
  obtain ⟨_, _, e⟩ := h.dig (Nat.le_refl lo) hl
  rcases Int.lt_or_le V (10 ^ (hi - 1 - lo)) with g | g
  · exfalso
    rw [Int.ediv_eq_zero_of_lt h.2.1 g] at e
    omega
  · exact g
theorem DigW.zero {X : Nat → Int} {lo hi : Nat} {V : Int} (h : DigW X lo hi V) : ∀ k, lo + k ≤ hi → (∀ i, lo ≤ i → i < lo + k → X i = 48) → DigW X (lo + k) hi V := by
  intro k
  induction k with
  | zero => intro _ _; exact h
  | succ k ih =>
    intro h1 h2
    exact (ih (by omega) (fun i a b => h2 i a (by omega))).drop (by omega) (h2 _ (by omega) (by omega))
theorem ten_split {V : Int} (k : Nat) : V % 10 ^ (k + 1) = V / 10 ^ k % 10 * 10 ^ k + V % 10 ^ k := by
  have hp := ten_pos k
  have e1 := Int.emod_add_mul_ediv V (10 ^ k)
  have e2 := Int.emod_add_mul_ediv (V / 10 ^ k) 10
  have a0 := Int.emod_nonneg V (show (10 : Int) ^ k ≠ 0 by omega)
  have a1 := Int.emod_lt_of_pos V hp
  have b0 := Int.emod_nonneg (V / 10 ^ k) (show (10 : Int) ≠ 0 by decide)
  have b1 := Int.emod_lt_of_pos (V / 10 ^ k) (show (0 : Int) < 10 by decide)
  have e3 : V = (V / 10 ^ k % 10 * 10 ^ k + V % 10 ^ k) + 10 ^ (k + 1) * (V / 10 ^ k / 10) := by
    rw [Int.pow_succ]
    conv => lhs; rw [← e1]
    conv => lhs; rw [← e2]
    generalize V / 10 ^ k % 10 = d
    generalize V / 10 ^ k / 10 = q
    generalize (10 : Int) ^ k = u
    grind
  have h0 := Int.mul_nonneg b0 (Int.le_of_lt hp)
  have h1 : V / 10 ^ k % 10 * 10 ^ k ≤ 9 * 10 ^ k := Int.mul_le_mul_of_nonneg_right (by omega) (Int.le_of_lt hp)
  have hp1 : (10 : Int) ^ (k + 1) = 10 * 10 ^ k := by rw [Int.pow_succ]; omega
  conv => lhs; rw [e3]
  rw [Int.add_mul_emod_self_left, Int.emod_eq_of_lt (by omega) (by omega)]
theorem chunk_digit {Q : Int} {j n : Nat} (hj : j < n) : Q % 10 ^ n / 10 ^ j % 10 = Q / 10 ^ j % 10 := by
  obtain ⟨d, rfl⟩ : ∃ d, n = j + (d + 1) := ⟨n - j - 1, by omega⟩
  have hp := ten_pos j
  have e := Int.emod_add_mul_ediv Q (10 ^ (j + (d + 1)))
  have e2 : Q / 10 ^ j = Q % 10 ^ (j + (d + 1)) / 10 ^ j + 10 * (10 ^ d * (Q / 10 ^ (j + (d + 1)))) := by
    conv => lhs; rw [← e]
    have : (10 : Int) ^ (j + (d + 1)) * (Q / 10 ^ (j + (d + 1))) = 10 ^ j * (10 * (10 ^ d * (Q / 10 ^ (j + (d + 1))))) := by
      generalize Q / 10 ^ (j + (d + 1)) = x
      rw [Int.pow_add, Int.pow_succ]
      generalize (10 : Int) ^ j = u
      generalize (10 : Int) ^ d = v
      grind
    rw [this, Int.add_mul_ediv_left _ _ (by omega)]
  rw [e2, Int.add_mul_emod_self_left]
theorem DigW.next {X : Nat → Int} {i hi : Nat} {V : Int} (h : DigW X (i + 1) hi (V % 10 ^ (hi - (i + 1)))) (hl : i < hi) (hx : X i = 48 + V / 10 ^ (hi - (i + 1)) % 10) : DigW X i hi (V % 10 ^ (hi - i)) := by
  have b0 := Int.emod_nonneg (V / 10 ^ (hi - (i + 1))) (show (10 : Int) ≠ 0 by decide)
  have b1 := Int.emod_lt_of_pos (V / 10 ^ (hi - (i + 1))) (show (0 : Int) < 10 by decide)
  have := h.cons ⟨b0, by omega⟩ hx
  rw [show hi - i = hi - (i + 1) + 1 by omega, ten_split]
  exact this
def DecS (s : ByteArray) (V : Int) : Prop := DigW (byteAt s) 0 s.size V ∧ 0 < s.size ∧ (s.size = 1 ∨ 10 ^ (s.size - 1) ≤ V)
theorem bytes_ext {s t : ByteArray} (h : s.size = t.size) (e : ∀ i, i < s.size → byteAt s i = byteAt t i) : s = t := by
  apply ByteArray.ext
  apply Array.ext
  · exact h
  · intro i h1 h2
    have := e i h1
    unfold byteAt at this
    have e1 : s.data.toList.getD i 0 = s.data[i] := by
      rw [List.getD_eq_getElem?_getD, Array.getElem?_toList, Array.getElem?_eq_getElem h1]; rfl
    have e2 : t.data.toList.getD i 0 = t.data[i] := by
      rw [List.getD_eq_getElem?_getD, Array.getElem?_toList, Array.getElem?_eq_getElem h2]; rfl
    rw [e1, e2] at this
    exact UInt8.toNat_inj.1 (by omega)
theorem DecS.unique {s t : ByteArray} {V : Int} (h : DecS s V) (k : DecS t V) : s = t := by
  obtain ⟨⟨_, a2, a3, a4⟩, a5, a6⟩ := h
  obtain ⟨⟨_, b2, b3, b4⟩, b5, b6⟩ := k
  have hs : s.size = t.size := by
    rcases Nat.lt_trichotomy s.size t.size with g | g | g
    · exfalso
      rcases b6 with b6 | b6
      · omega
      · have := ten_le (show s.size - 0 ≤ t.size - 1 by omega); omega
    · exact g
    · exfalso
      rcases a6 with a6 | a6
      · omega
      · have := ten_le (show t.size - 0 ≤ s.size - 1 by omega); omega
  refine bytes_ext hs (fun i hi => ?_)
  have e1 := a4 (s.size - 1 - i) (by omega)
  have e2 := b4 (s.size - 1 - i) (by omega)
  rw [show s.size - 1 - (s.size - 1 - i) = i by omega] at e1
  rw [show t.size - 1 - (s.size - 1 - i) = i by omega] at e2
  rw [e1, e2]
theorem DigW.pad {X : Nat → Int} {lo hi : Nat} {V : Int} (h : DigW X (lo + 1) hi V) (hx : X lo = 48) : DigW X lo hi V := by
  have := h.cons (d := 0) ⟨by omega, by omega⟩ (by omega)
  rwa [Int.zero_mul, Int.zero_add] at this
structure Chunk (X : Nat → Int) (hi : Nat) (V : Int) (t i : Nat) (q : Int) : Prop where
  hi0 : i = hi - 19 * t
  hd : DigW X i hi (V % 10 ^ (hi - i))
  hq : q = V / 10 ^ (19 * t)
theorem Chunk.start {X : Nat → Int} {hi : Nat} {V : Int} (h0 : 0 ≤ V) : Chunk X hi V 0 hi V := by
  refine ⟨by omega, ?_, by simp⟩
  have : V % 10 ^ (hi - hi) = 0 := by rw [Nat.sub_self, Int.pow_zero, Int.emod_one]
  rw [this]
  exact DigW.nil
structure InChunk (X : Nat → Int) (hi : Nat) (V : Int) (t j i : Nat) (r : Int) : Prop where
  hj : j ≤ 19
  hij : i + (19 * t + j) = hi
  hd : DigW X i hi (V % 10 ^ (hi - i))
  hr : r = V / 10 ^ (19 * t) % 10 ^ 19 / 10 ^ j
theorem Chunk.into {X : Nat → Int} {hi : Nat} {V : Int} {t i : Nat} {q : Int} (h : Chunk X hi V t i q) (h0 : 0 ≤ V) (hV : V < 10 ^ hi) (hq : q ≠ 0) : InChunk X hi V t 0 i (q % 10 ^ 19) := by
  obtain ⟨h1, h2, h3⟩ := h
  have : 19 * t < hi := by
    apply Decidable.byContradiction
    intro hn
    apply hq
    rw [h3]
    have := ten_le (show hi ≤ 19 * t by omega)
    exact Int.ediv_eq_zero_of_lt h0 (by omega)
  exact ⟨by omega, by omega, h2, by rw [h3, Int.pow_zero, Int.ediv_one]⟩
theorem chunk_place {V : Int} (h0 : 0 ≤ V) {t j : Nat} (hj : j < 19) : V / 10 ^ (19 * t) % 10 ^ 19 / 10 ^ j % 10 = V / 10 ^ (19 * t + j) % 10 := by
  rw [chunk_digit hj, Int.ediv_ediv_of_nonneg (Int.le_of_lt (ten_pos _)), ← Int.pow_add]
theorem ten_next {r : Int} {j : Nat} : r / 10 ^ j / 10 = r / 10 ^ (j + 1) := by
  rw [Int.ediv_ediv_of_nonneg (Int.le_of_lt (ten_pos _)), ← Int.pow_succ]
theorem InChunk.step {X Y : Nat → Int} {hi : Nat} {V : Int} {t j i : Nat} {r : Int} (h : InChunk X hi V t j (i + 1) r) (h0 : 0 ≤ V) (hj : j < 19) (hy : Y i = 48 + (r - r / 10 * 10)) (hk : ∀ m, i < m → m < hi → Y m = X m) : InChunk Y hi V t (j + 1) i (r / 10) := by
  obtain ⟨h1, h2, h3, h4⟩ := h
  refine ⟨by omega, by omega, ?_, by rw [h4, ten_next]⟩
  refine DigW.next (h3.congr (fun m a b => hk m (by omega) b)) (by omega) ?_
  rw [hy, show hi - (i + 1) = 19 * t + j by omega, ← chunk_place h0 hj, ← h4]
  omega
theorem InChunk.done {X : Nat → Int} {hi : Nat} {V : Int} {t j i : Nat} {r : Int} (h : InChunk X hi V t j i r) (he : j = 19 ∨ i = 0) {q : Int} (hq : q = V / 10 ^ (19 * t)) : Chunk X hi V (t + 1) i (q / 10 ^ 19) := by
  obtain ⟨h1, h2, h3, h4⟩ := h
  refine ⟨?_, h3, ?_⟩
  · rcases he with he | he <;> omega
  · rw [hq, Int.ediv_ediv_of_nonneg (Int.le_of_lt (ten_pos _)), ← Int.pow_add]
    rfl
theorem Chunk.done {X : Nat → Int} {hi : Nat} {V : Int} {t i : Nat} (h : Chunk X hi V t i 0) (h0 : 0 ≤ V) (hV : V < 10 ^ hi) : DigW X i hi V := by
  obtain ⟨h1, h2, h3⟩ := h
  have hp := ten_pos (19 * t)
  have hlt : V < 10 ^ (hi - i) := by
    by_cases hl : 19 * t ≤ hi
    · have e := Int.emod_add_mul_ediv V (10 ^ (19 * t))
      have := Int.emod_lt_of_pos V hp
      rw [← h3, Int.mul_zero, Int.add_zero] at e
      rw [show hi - i = 19 * t by omega]
      omega
    · rw [show hi - i = hi by omega]; exact hV
  rwa [Int.emod_eq_of_lt h0 hlt] at h2
end Go.Proofs.YtmgfajamanakcaaGreatDoor
