/-
  slices.Reverse on words, in place. Condition: the words may be written.
-/
import Derived.Test.YtmgfajamanakcaaGreatDoorRs
namespace Go.Proofs.YtmgfajamanakcaaGreatDoor
open Go.RowKit
set_option maxRecDepth 100000
set_option linter.unusedVariables false
theorem Words.upd {w : World} {b o n j : Nat} {Y : Nat → Int} (h : Words w b o n Y) (hj : j < n) (v : Int) : Words (w.setCell ⟨b, o + j, none⟩ (.int .u64 v)) b o n (upd Y j v) := fun i hi => by
  by_cases e : i = j
  · subst e; rw [upd_same]; exact World.cell?_setCell_same' _ _ _ (by rw [h i hi]; rfl)
  · rw [upd_other Y v e, World.cell?_setCell_other w _ _ _ (by intro h; injection h with _ h2 _; omega)]
    exact h i hi
/-- The outer k places on either side turned. -/
def turned (X : Nat → Int) (n k : Nat) : Nat → Int := fun i => if i < k ∨ n ≤ i + k then X (n - 1 - i) else X i
theorem turned_step {X : Nat → Int} {n k : Nat} (h : 2 * k + 1 < n) (i : Nat) (hi : i < n) : upd (upd (turned X n k) k (X (n - 1 - k))) (n - 1 - k) (X k) i = turned X n (k + 1) i := by
  unfold upd turned
  by_cases h1 : i = n - 1 - k
  · subst h1; simp only [if_true]; rw [if_pos (by omega)]; congr 1; omega
  · rw [if_neg h1]
    by_cases h2 : i = k
    · subst h2; simp only [if_true]; rw [if_pos (by omega)]
    · rw [if_neg h2]
      by_cases h3 : i < k ∨ n ≤ i + k
      · rw [if_pos h3, if_pos (by omega)]
      · rw [if_neg h3, if_neg (by omega)]
theorem turned_mid {X : Nat → Int} {n k : Nat} (i : Nat) (h1 : k ≤ i) (h2 : i + k < n) : turned X n k i = X i := by unfold turned; rw [if_neg (by omega)]
theorem turned_end {X : Nat → Int} {n k : Nat} (h : n ≤ 2 * k + 1) (i : Nat) (hi : i < n) : turned X n k i = X (n - 1 - i) := by
  unfold turned
  by_cases h1 : i < k ∨ n ≤ i + k
  · rw [if_pos h1]
  · rw [if_neg h1]; congr 1; omega
def RevPost (w : World) (b o n : Nat) (X : Nat → Int) (e : Ending) (w' : World) : Prop :=
  (∃ v, e = .returned v) ∧ Chg (zRow b o n) w w' ∧ Words w' b o n (fun i => X (n - 1 - i))
set_option maxHeartbeats 2000000 in
theorem reverse_any (b o n c : Nat) (X : Nat → Int) (w : World) (hn : n < 4611686018427387904) (hX : Words w b o n X) (hf : Free w b o n) :
    Calls Tryz.prog 184 #[.slice (some ⟨b, o, none⟩) n c] w (RevPost w b o n X) := by
  have HX := Lib.hid hX
  have HF := Lib.hid hf
  clear hX hf
  go_enter Tryz.func184, Tryz.ntmps184
  go_wp2_with fail
  go_loopw [2, 3] (fun si sj wr => ∃ (k : Nat), si = .int .i64 k ∧ sj = .int .i64 ((n : Int) - 1 - k) ∧ k ≤ n ∧ Hid (Chg (zRow b o n) w wr ∧ Words wr b o n (turned X n k))) (fun si sj _ => n - (intOf si).toNat)
  case atStart => exact ⟨0, rfl, by simp, Nat.zero_le _, Chg.refl _ _, HX.out.congr (fun i hi => (turned_mid i (Nat.zero_le _) hi).symm)⟩
  case round =>
    obtain ⟨k, rfl, rfl, hk, H⟩ := hrel
    by_cases hlt : 2 * k + 1 < n
    · have hb : decide ((k : Int) < (n : Int) - 1 - k) = true := by simp; omega
      have hq : (n : Int) - 1 - k = ((n - 1 - k : Nat) : Int) := by omega
      have hc1 := H.out.2 k (by omega)
      have hc2 := H.out.2 (n - 1 - k) (by omega)
      rw [turned_mid k (Nat.le_refl _) (by omega)] at hc1
      rw [turned_mid (n - 1 - k) (by omega) (by omega)] at hc2
      have hf1 := (H.out.1.frozen (HX.out k (by omega)) (o + k)).trans (HF.out k (by omega))
      have hf2 := (H.out.1.frozen (HX.out k (by omega)) (o + (n - 1 - k))).trans (HF.out (n - 1 - k) (by omega))
      have hk1 : k < n := by omega
      go_wp2_with fail
      go_region
      go_wp2
      refine ⟨⟨k + 1, by go_num, by go_num, by omega, ?_⟩, by simp [intOf]; omega⟩
      have h1 : (n - 1 - k) < n := by omega
      exact ⟨((H.out.1.setCell b (o + k) _ (fun _ => ⟨rfl, by omega, by omega⟩)).setCell b (o + (n - 1 - k)) _ (fun _ => ⟨rfl, by omega, by omega⟩)).drew, ((H.out.2.upd hk1 _).upd h1 _).congr (turned_step hlt)⟩
    · have hb : decide ((k : Int) < (n : Int) - 1 - k) = false := by simp; omega
      go_wp2_with fail
      go_end0
      exact ⟨⟨_, rfl⟩, H.out.1, H.out.2.congr (turned_end (by omega))⟩
end Go.Proofs.YtmgfajamanakcaaGreatDoor
