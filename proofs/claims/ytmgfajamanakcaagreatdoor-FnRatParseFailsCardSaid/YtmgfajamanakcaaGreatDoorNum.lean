/-
  Numbers by their words: val X n is the sum of X i * 2^(64 i), i < n. Plain arithmetic; no program.
-/
namespace Go.Proofs.YtmgfajamanakcaaGreatDoor
/-- 2^64, behind a name. -/
def BB : Int := 18446744073709551616
def U64 (x : Int) : Prop := 0 ≤ x ∧ x < 18446744073709551616
/-- The first n are words. -/
def WF (X : Nat → Int) (n : Nat) : Prop := ∀ i, i < n → U64 (X i)
def val (X : Nat → Int) : Nat → Int
  | 0 => 0
  | n + 1 => val X n + X n * BB ^ n
theorem BB_pos : (0 : Int) < BB := by decide
theorem BBn_pos (n : Nat) : (0 : Int) < BB ^ n := Int.pow_pos BB_pos
theorem BB_succ (n : Nat) : BB ^ (n + 1) = BB ^ n * BB := Int.pow_succ ..
theorem WF.le {X : Nat → Int} {n m : Nat} (h : WF X n) (hm : m ≤ n) : WF X m := fun i hi => h i (by omega)
theorem val_congr {X Y : Nat → Int} {n : Nat} (h : ∀ i, i < n → X i = Y i) : val X n = val Y n := by
  induction n with
  | zero => rfl
  | succ n ih => simp only [val]; rw [ih (fun i hi => h i (by omega)), h n (by omega)]
theorem WF.congr {X Y : Nat → Int} {n : Nat} (h : WF X n) (e : ∀ i, i < n → X i = Y i) : WF Y n := fun i hi => by rw [← e i hi]; exact h i hi
theorem val_nonneg {X : Nat → Int} {n : Nat} (h : WF X n) : 0 ≤ val X n := by
  induction n with
  | zero => exact Int.le_refl _
  | succ n ih =>
    simp only [val]
    have := Int.mul_nonneg (h n (by omega)).1 (Int.le_of_lt (BBn_pos n))
    have := ih (h.le (by omega))
    omega
theorem val_lt {X : Nat → Int} {n : Nat} (h : WF X n) : val X n < BB ^ n := by
  induction n with
  | zero => simp [val]
  | succ n ih =>
    simp only [val]
    have h1 := ih (h.le (by omega))
    have h2 : X n ≤ BB - 1 := by have := (h n (by omega)).2; unfold BB; omega
    have h3 : X n * BB ^ n ≤ (BB - 1) * BB ^ n := Int.mul_le_mul_of_nonneg_right h2 (Int.le_of_lt (BBn_pos n))
    rw [BB_succ]
    have h4 : (BB - 1) * BB ^ n = BB ^ n * BB - BB ^ n := by grind
    omega
theorem val_add (X : Nat → Int) (k m : Nat) : val X (k + m) = val X k + BB ^ k * val (fun i => X (k + i)) m := by
  induction m with
  | zero => simp [val]
  | succ m ih =>
    rw [← Nat.add_assoc]
    simp only [val]
    rw [ih, Int.pow_add]
    grind
theorem val_one (X : Nat → Int) : val X 1 = X 0 := by simp [val]
theorem val_zeros {X : Nat → Int} {n : Nat} (h : ∀ i, i < n → X i = 0) : val X n = 0 := by
  induction n with
  | zero => rfl
  | succ n ih => simp only [val]; rw [ih (fun i hi => h i (by omega)), h n (by omega)]; simp
/-- Words 0 at the end count for nothing. -/
theorem val_top {X : Nat → Int} {m n : Nat} (hm : m ≤ n) (h : ∀ i, m ≤ i → i < n → X i = 0) : val X n = val X m := by
  obtain ⟨k, rfl⟩ : ∃ k, n = m + k := ⟨n - m, by omega⟩
  rw [val_add, val_zeros (fun i hi => h (m + i) (by omega) (by omega))]
  simp
end Go.Proofs.YtmgfajamanakcaaGreatDoor
