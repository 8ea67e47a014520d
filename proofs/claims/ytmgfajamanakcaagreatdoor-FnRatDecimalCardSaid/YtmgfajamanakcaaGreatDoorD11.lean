/- Part of the proof of FnParse: what the functions that it reaches do, as contracts. Conditions: those that each theorem names. -/
import Derived.Test.YtmgfajamanakcaaGreatDoorD10
namespace Go.Proofs.YtmgfajamanakcaaGreatDoor
set_option linter.unusedVariables false
set_option linter.unusedSimpArgs false
open Go.RowKit
set_option maxRecDepth 100000
def cmpV (a b : Int) : Int := if a < b then -1 else if b < a then 1 else 0
theorem cmpV_lt {a b : Int} (h : a < b) : cmpV a b = -1 := by unfold cmpV; rw [if_pos h]
theorem cmpV_gt {a b : Int} (h : b < a) : cmpV a b = 1 := by unfold cmpV; rw [if_neg (by omega), if_pos h]
theorem cmpV_eq {a b : Int} (h : a = b) : cmpV a b = 0 := by unfold cmpV; rw [if_neg (by omega), if_neg (by omega)]
theorem val_cmp {X Y : Nat → Int} {n k : Nat} (hX : WF X n) (hY : WF Y n) (hk : k < n) (heq : ∀ i, k < i → i < n → X i = Y i) (hlt : X k < Y k) : val X n < val Y n := by
  obtain ⟨d, rfl⟩ : ∃ d, n = (k + 1) + d := ⟨n - (k + 1), by omega⟩
  rw [val_add X (k + 1) d, val_add Y (k + 1) d, val_congr (X := fun i => X (k + 1 + i)) (Y := fun i => Y (k + 1 + i)) (fun i hi => heq (k + 1 + i) (by omega) (by omega))]
  have a2 := val_lt (hX.le (show k ≤ k + 1 + d by omega))
  have b1 := val_nonneg (hY.le (show k ≤ k + 1 + d by omega))
  simp only [val]
  have := Int.mul_le_mul_of_nonneg_right (show X k + 1 ≤ Y k by omega) (Int.le_of_lt (BBn_pos k))
  rw [Int.add_mul] at this
  omega
theorem norm_ge {X : Nat → Int} {n : Nat} (h : WF X n) (hn : Norm X n) (h0 : 0 < n) : BB ^ (n - 1) ≤ val X n := by
  obtain ⟨m, rfl⟩ : ∃ m, n = m + 1 := ⟨n - 1, by omega⟩
  simp only [Norm, val, Nat.add_sub_cancel] at *
  rcases hn with hn | hn
  · omega
  · have h1 := val_nonneg (h.le (show m ≤ m + 1 by omega))
    have h3 := Int.mul_le_mul_of_nonneg_right (show 1 ≤ X m by have := (h m (by omega)).1; omega) (Int.le_of_lt (BBn_pos m))
    omega
theorem BB_mono {m n : Nat} (h : m ≤ n) : BB ^ m ≤ BB ^ n := by
  obtain ⟨k, rfl⟩ : ∃ k, n = m + k := ⟨n - m, by omega⟩
  rw [Int.pow_add]
  have h1 := BBn_pos k
  have h2 := Int.mul_le_mul_of_nonneg_left (show 1 ≤ BB ^ k by omega) (Int.le_of_lt (BBn_pos m))
  omega
theorem val_lt_of_len {X Y : Nat → Int} {n m : Nat} (hX : WF X n) (hY : WF Y m) (hY2 : Norm Y m) (h : n < m) : val X n < val Y m := by
  have h1 := val_lt hX
  have h2 := norm_ge hY hY2 (by omega)
  have h3 := BB_mono (show n ≤ m - 1 by omega)
  omega
def CmpPost (w : World) (a b : Int) (e : Ending) (w' : World) : Prop := e = .returned (.int .i64 (cmpV a b)) ∧ ∃ n, w' = w.drewN n
set_option maxHeartbeats 2000000 in
theorem cmp_any (ax ay : Option Addr) (xn xc yn yc : Nat) (X Y : Nat → Int) (w : World) (hx : NatIn w ax xn xc X) (hy : NatIn w ay yn yc Y) (hnx : Norm X xn) (hny : Norm Y yn) :
    Calls Tryz.prog 108 #[.slice ax xn xc, .slice ay yn yc] w (CmpPost w (val X xn) (val Y yn)) := by
  have hxn := hx.small
  have hyn := hy.small
  rcases Nat.lt_trichotomy xn yn with h | h | h
  · have HV := Lib.hid (cmpV_lt (val_lt_of_len hx.wf hy.wf hny h))
    have h1 : decide (xn < yn) = true := by simp [h]
    have h2 : ((xn : Int) != (yn : Int)) = true := by simp; omega
    have h3 : (xn : Int) < (yn : Int) := by omega
    clear hx hy hnx hny h
    go_enter Tryz.func108, Tryz.ntmps108
    go_wp2
    go_ret
    exact ⟨by rw [HV.out]; first | done | rfl, 0, rfl⟩
  · subst h
    by_cases h0 : xn = 0
    · have HV := Lib.hid (cmpV_eq (a := val X xn) (b := val Y xn) (by rw [h0]; rfl))
      subst h0
      go_enter Tryz.func108, Tryz.ntmps108
      go_wp2
      go_ret
      exact ⟨by rw [HV.out]; first | done | rfl, 0, rfl⟩
    · obtain ⟨bx, ox, rfl, hX⟩ := hx.words (by omega)
      obtain ⟨bY, oY, rfl, hY⟩ := hy.words (by omega)
      have HX := Lib.hid (And.intro hX hx.wf)
      have HY := Lib.hid (And.intro hY hy.wf)
      have h1 : ((xn : Int) == 0) = false := by simp [h0]
      have h2 : ((xn : Int) != (xn : Int)) = false := by simp
      clear hX hY hx hy hnx hny
      go_enter Tryz.func108, Tryz.ntmps108
      go_wp2_with fail
      go_loopw [7] (fun si wr => ∃ k : Nat, si = .int .i64 k ∧ k < xn ∧ Hid ((∀ j, k < j → j < xn → X j = Y j) ∧ ∃ N, wr = w.drewN N)) (fun si _ => (intOf si).toNat)
      case atStart => exact ⟨xn - 1, by go_num, by omega, fun j h1 h2 => by omega, 0, rfl⟩
      case round =>
        obtain ⟨k, rfl, hk, H⟩ := hrel
        obtain ⟨N, hN⟩ := H.out.2
        subst hN
        obtain ⟨xk, hxe⟩ : ∃ x, X k = x := ⟨_, rfl⟩
        obtain ⟨yk, hye⟩ : ∃ x, Y k = x := ⟨_, rfl⟩
        have hcx := HX.out.1 k hk
        have hcy := HY.out.1 k hk
        rw [hxe] at hcx
        rw [hye] at hcy
        have HE := Lib.hid (And.intro hxe hye)
        clear hxe hye
        by_cases hk0 : 0 < k
        · by_cases heq : xk = yk
          · have Heq := Lib.hid heq
            have hb : (xk == yk) = true := by simp [heq]
            have hd : decide (0 < k) = true := by simp [hk0]
            clear heq
            go_wp2_with fail
            go_quiet (fail)
            go_wp2
            go_roundw
            case rel =>
              refine ⟨k - 1, by go_num, by omega, fun j h1 h2 => ?_, _, rfl⟩
              by_cases e : j = k
              · rw [e, HE.out.1, HE.out.2, Heq.out]
              · exact H.out.1 j (by omega) h2
            case measure => simp [intOf]; omega
          · have hb : (xk == yk) = false := by simp [heq]
            have hd : decide (0 < k) = true := by simp [hk0]
            rcases Int.lt_or_gt_of_ne heq with hlt | hgt
            · have HV := Lib.hid (cmpV_lt (val_cmp HX.out.2 HY.out.2 hk H.out.1 (by rw [HE.out.1, HE.out.2]; exact hlt)))
              clear heq
              go_wp2_with fail
              go_quiet (fail)
              go_wp2_with fail
              go_quiet (fail)
              go_wp2
              go_ret
              exact ⟨by rw [HV.out]; first | done | rfl, by simp only [World.drewN_drewN]; exact ⟨_, rfl⟩⟩
            · have HV := Lib.hid (cmpV_gt (val_cmp HY.out.2 HX.out.2 hk (fun j h1 h2 => (H.out.1 j h1 h2).symm) (by rw [HE.out.1, HE.out.2]; exact hgt)))
              have hnlt : ¬ xk < yk := by omega
              clear heq
              go_wp2_with fail
              go_quiet (fail)
              go_wp2_with fail
              go_quiet (fail)
              go_wp2_with fail
              go_quiet (fail)
              go_wp2
              go_ret
              exact ⟨by rw [HV.out]; first | done | rfl, by simp only [World.drewN_drewN]; exact ⟨_, rfl⟩⟩
        · obtain rfl : k = 0 := by omega
          have hd : decide (0 < 0) = false := by simp
          simp only [Nat.add_zero] at hcx hcy
          rcases Int.lt_trichotomy xk yk with hlt | heq | hgt
          · have HV := Lib.hid (cmpV_lt (val_cmp HX.out.2 HY.out.2 hk H.out.1 (by rw [HE.out.1, HE.out.2]; exact hlt)))
            go_wp2_with fail
            go_quiet (fail)
            go_wp2_with fail
            go_quiet (fail)
            go_wp2
            go_ret
            exact ⟨by rw [HV.out]; first | done | rfl, by simp only [World.drewN_drewN]; exact ⟨_, rfl⟩⟩
          · have HV := Lib.hid (cmpV_eq (a := val X xn) (b := val Y xn) (val_congr (fun j hj => by
              by_cases e : j = 0
              · rw [e, HE.out.1, HE.out.2, heq]
              · exact H.out.1 j (by omega) hj)))
            have hn1 : ¬ xk < yk := by omega
            have hn2 : ¬ yk < xk := by omega
            clear heq
            go_wp2_with fail
            go_quiet (fail)
            go_wp2_with fail
            go_quiet (fail)
            go_wp2_with fail
            go_quiet (fail)
            go_wp2
            go_ret
            exact ⟨by rw [HV.out]; first | done | rfl, by simp only [World.drewN_drewN]; exact ⟨_, rfl⟩⟩
          · have HV := Lib.hid (cmpV_gt (val_cmp HY.out.2 HX.out.2 hk (fun j h1 h2 => (H.out.1 j h1 h2).symm) (by rw [HE.out.1, HE.out.2]; exact hgt)))
            have hnlt : ¬ xk < yk := by omega
            go_wp2_with fail
            go_quiet (fail)
            go_wp2_with fail
            go_quiet (fail)
            go_wp2_with fail
            go_quiet (fail)
            go_wp2
            go_ret
            exact ⟨by rw [HV.out]; first | done | rfl, by simp only [World.drewN_drewN]; exact ⟨_, rfl⟩⟩
  · have HV := Lib.hid (cmpV_gt (val_lt_of_len hy.wf hx.wf hnx h))
    have h1 : decide (xn < yn) = false := by simp; omega
    have h1' : decide (yn < xn) = true := by simp; omega
    have h2 : ((xn : Int) != (yn : Int)) = true := by simp; omega
    have h3 : (yn : Int) < (xn : Int) := by omega
    clear hx hy hnx hny h
    go_enter Tryz.func108, Tryz.ntmps108
    go_wp2
    go_ret
    exact ⟨by rw [HV.out]; first | done | rfl, 0, rfl⟩
theorem Place.bwd {bx ox xn b o c q m : Nat} (h : Place bx ox xn b o c) (hm : m = xn) (hc : q + m ≤ c) : Bwd bx ox b (o + q) m := by
  subst hm
  rcases h with ⟨h1, h2⟩ | h | h | h
  · exact Or.inr (Or.inl (by omega))
  · exact Or.inl h
  · exact Or.inr (Or.inl (by omega))
  · exact Or.inr (Or.inr (by omega))
end Go.Proofs.YtmgfajamanakcaaGreatDoor
