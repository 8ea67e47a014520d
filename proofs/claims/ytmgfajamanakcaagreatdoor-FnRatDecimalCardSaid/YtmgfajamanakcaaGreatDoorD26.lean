/- Part of the proof of FnParse: what the functions that it reaches do, as contracts. Conditions: those that each theorem names. -/
import Derived.Test.YtmgfajamanakcaaGreatDoorD25
namespace Go.Proofs.YtmgfajamanakcaaGreatDoor
set_option linter.unusedVariables false
set_option linter.unusedSimpArgs false
open Go.RowKit
set_option maxRecDepth 100000
theorem first_win {U0 V U' : Nat → Int} {n m : Nat} {S : Int} (h : LInvD U0 V n m (m + 1) S U') (hS : S = 0) (hU : WF U0 (m + n)) (h0 : U0 (m + n) = 0) (hn : 0 < n) (hV : WF V n) (htop : U0 (m + n - 1) < V (n - 1)) : val (fun i => U' (m + i)) (n + 1) < val V n := by
  have h1 := LInvD.start hU h0 hn hV htop
  have h2 := h1.first hn hV htop h0
  have h3 := h.sum
  rw [hS, Int.zero_mul, Int.zero_add, show m + n + 1 = m + (n + 1) by omega] at h3
  have t1 := val_add U0 m (n + 1)
  have t2 := val_add U' m (n + 1)
  have a1 : val U0 m < BB ^ m := val_lt (h1.wf.le (by omega))
  have a2 : 0 ≤ val U' m := val_nonneg (h.wf.le (by omega))
  by_cases hc : val (fun i => U' (m + i)) (n + 1) < val V n
  · exact hc
  · exfalso
    have b1 := Int.mul_le_mul_of_nonneg_left (show val V n ≤ val (fun i => U' (m + i)) (n + 1) by omega) (Int.le_of_lt (BBn_pos m))
    have b2 := Int.mul_le_mul_of_nonneg_left (show val (fun i => U0 (m + i)) (n + 1) + 1 ≤ val V n by omega) (Int.le_of_lt (BBn_pos m))
    rw [Int.mul_add] at b2
    omega
structure SubTop (wr W : World) (bu ou bh oh n m : Nat) (U' V Z : Nat → Int) (q : Int) : Prop where
  k : Chg (zRow bh oh (n + 1)) wr W
  hP : Words W bh oh n Z
  wP : WF Z n
  vP : val Z n = val V n * q
  hY : Words W bu (ou + m) n (fun i => U' (m + i))
  wY : WF (fun i => U' (m + i)) n
  rY : Room W bu (ou + m) n
  rh : Room W bh oh (n + 1)
theorem top_carry {Z V : Nat → Int} {n : Nat} {q c : Int} (hZ : WF Z n) (hc : 0 ≤ c) (hV : WF V n) (hq : 0 ≤ q ∧ q ≤ 1) (h : val Z n + c * BB ^ n = val V n * q + 0) : c = 0 := by
  have a1 := val_nonneg hZ
  have a2 := val_lt hV
  have a3 := val_nonneg hV
  have hqq : q = 0 ∨ q = 1 := by omega
  by_cases h0 : c = 0
  · exact h0
  · exfalso
    have b1 := Int.mul_le_mul_of_nonneg_right (show 1 ≤ c by omega) (Int.le_of_lt (BBn_pos n))
    have b2 := BBn_pos n
    rcases hqq with rfl | rfl <;> omega
theorem subtop_of {wr w2 : World} {bu ou bh oh m n k : Nat} {U' V Z : Nat → Int} {q : Int} (hU : Words wr bu ou (m + n) U') (hUf : Free wr bu ou (m + n)) (hUw : WF U' (m + n + 1)) (hR : Room wr bh oh (n + 1))
    (hhu : ∀ i j, i < n + 1 → j < m + n → ¬ (bh = bu ∧ oh + i = ou + j)) (h1 : Chg (zRow bh oh n) (wr.drewN k) w2) (h2 : Words w2 bh oh n Z) (h3 : WF Z n) (h5 : val Z n = val V n * q) (hz : (w2.cell? ⟨bh, oh + n, none⟩).isSome = true) :
    SubTop wr (w2.setCell ⟨bh, oh + n, none⟩ (.int .u64 0)) bu ou bh oh n m U' V Z q := by
  have hks : Chg (zRow bh oh (n + 1)) wr (w2.setCell ⟨bh, oh + n, none⟩ (.int .u64 0)) := (((Chg.refl _ wr).drewN k).trans h1 (fun b o _ hh => ⟨hh.1, by have := hh.2.1; omega, by have := hh.2.2; omega⟩)).setCell bh (oh + n) _ (fun _ => ⟨rfl, by omega, by omega⟩)
  have hYd := hU.drop m n (by omega)
  have hYw := hYd.chg hks (fun i hi hh => by
    obtain ⟨g1, g2, g3⟩ := hh
    exact hhu (ou + m + i - oh) (m + i) (by omega) (by omega) ⟨g1.symm, by omega⟩)
  have hPw : Words (w2.setCell ⟨bh, oh + n, none⟩ (.int .u64 0)) bh oh (n + 1) (upd Z n 0) := h2.snoc hz
  refine ⟨hks, (hPw.le (by omega)).congr (fun i hi => upd_other _ _ (by omega)), h3, h5, hYw, fun i hi => hUw _ (by omega), hYw.room (fun i hi => ?_), hPw.room (fun i hi => ?_)⟩
  · rw [hks.frozen (hYd i hi)]
    have := hUf (m + i) (by omega)
    rwa [← Nat.add_assoc] at this
  · obtain ⟨⟨y, hy⟩, hf⟩ := hR i hi
    rw [hks.frozen hy]; exact hf
theorem SubTop.drew {wr W : World} {bu ou bh oh n m : Nat} {U' V Z : Nat → Int} {q : Int} (h : SubTop wr W bu ou bh oh n m U' V Z q) : SubTop wr W.drew bu ou bh oh n m U' V Z q := by
  have kd : Chg zNone W W.drew := (Chg.refl _ _).drew
  exact ⟨h.k.drew, h.hP.chg kd (fun _ _ h => h), h.wP, h.vP, h.hY.chg kd (fun _ _ h => h), h.wY, h.rY.chg kd (fun _ _ h => h), h.rh.chg kd (fun _ _ h => h)⟩
theorem SubTop.fwd {wr W : World} {bu ou bh oh n m : Nat} {U' V Z : Nat → Int} {q : Int} (_ : SubTop wr W bu ou bh oh n m U' V Z q) (hn : 0 < n) (hhu : ∀ i j, i < n + 1 → j < m + n → ¬ (bh = bu ∧ oh + i = ou + j)) : bh ≠ bu ∨ ou + m ≤ oh ∨ oh + n ≤ ou + m := by
  by_cases e : bh = bu
  · refine Or.inr ?_
    by_cases h1 : ou + m ≤ oh
    · exact Or.inl h1
    · by_cases h2 : oh + n ≤ ou + m
      · exact Or.inr h2
      · exact absurd ⟨e, by omega⟩ (hhu (ou + m - oh) m (by omega) (by omega))
  · exact Or.inl e
theorem top_digit {U' V D : Nat → Int} {n m : Nat} {q cb : Int} (hV : WF V n) (hVp : 0 < val V n) (hD : WF D n) (hcb : 0 ≤ cb ∧ cb ≤ 1) (h0 : U' (m + n) = 0) (hW : val (fun i => U' (m + i)) (n + 1) < val V n) (hUw : WF (fun i => U' (m + i)) (n + 1)) (hq : q = 0 ∨ q = 1)
    (h : val D n - cb * BB ^ n = val (fun i => U' (m + i)) n - val V n * q) :
    (q = 0 → cb = 0 ∧ val D n = val (fun i => U' (m + i)) (n + 1) % val V n) ∧ (q = 1 → cb = 1 ∧ ∀ (E : Nat → Int) (c2 : Int), WF E n → 0 ≤ c2 ∧ c2 ≤ 1 → val E n + c2 * BB ^ n = val D n + val V n → val E n = val (fun i => U' (m + i)) (n + 1) % val V n) := by
  have e1 : val (fun i => U' (m + i)) (n + 1) = val (fun i => U' (m + i)) n := val_top (by omega) (fun i h1 h2 => by
    obtain rfl : i = n := by omega
    exact h0)
  have e2 : val (fun i => U' (m + i)) (n + 1) % val V n = val (fun i => U' (m + i)) n := by
    rw [Int.emod_eq_of_lt (val_nonneg hUw) hW, e1]
  have a1 := val_lt hV
  have a2 := val_nonneg hD
  have a3 := val_lt hD
  have a4 : 0 ≤ val (fun i => U' (m + i)) n := val_nonneg (hUw.le (by omega))
  rw [e1] at hW
  have hc : cb = 0 ∨ cb = 1 := by omega
  constructor
  · rintro rfl
    rw [e2]
    rcases hc with rfl | rfl
    · exact ⟨rfl, by omega⟩
    · exfalso; omega
  · rintro rfl
    rcases hc with rfl | rfl
    · exfalso; omega
    · refine ⟨rfl, fun E c2 hE hc2 hs => ?_⟩
      rw [e2]
      have b1 := val_nonneg hE
      have b2 := val_lt hE
      have hc3 : c2 = 0 ∨ c2 = 1 := by omega
      rcases hc3 with rfl | rfl <;> omega
end Go.Proofs.YtmgfajamanakcaaGreatDoor
