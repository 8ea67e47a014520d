/-
  nat.cmp. Conditions: both numbers are without a 0 at their end.
  nat.lsh. Conditions: 0 < s < 2^32, x lies at z's own place or apart from z.
-/
import Derived.Test.YtmgfajamanakcaaGreatDoorQ12
namespace Go.Proofs.YtmgfajamanakcaaGreatDoor
open Go.RowKit
set_option maxRecDepth 100000
set_option linter.unusedVariables false
def cmpV (a b : Int) : Int := if a < b then -1 else if b < a then 1 else 0
theorem cmpV_lt {a b : Int} (h : a < b) : cmpV a b = -1 := by unfold cmpV; rw [if_pos h]
theorem cmpV_gt {a b : Int} (h : b < a) : cmpV a b = 1 := by unfold cmpV; rw [if_neg (by omega), if_pos h]
theorem cmpV_eq {a b : Int} (h : a = b) : cmpV a b = 0 := by unfold cmpV; rw [if_neg (by omega), if_neg (by omega)]
theorem val_cmp {X Y : Nat → Int} {n k : Nat} (hX : WF X n) (hY : WF Y n) (hk : k < n) (heq : ∀ i, k < i → i < n → X i = Y i) (hlt : X k < Y k) : val X n < val Y n := by
  obtain ⟨d, rfl⟩ : ∃ d, n = (k + 1) + d := ⟨n - (k + 1), by omega⟩
  rw [val_add X (k + 1) d, val_add Y (k + 1) d, val_congr (X := fun i => X (k + 1 + i)) (Y := fun i => Y (k + 1 + i)) (fun i hi => heq (k + 1 + i) (by omega) (by omega))]
  have a2 := val_lt (hX.le (show k ≤ k + 1 + d by omega))
  have b1 := val_nonneg (hY.le (show k ≤ k + 1 + d by omega))
  simp only [val]
  have := Int.mul_le_mul_of_nonneg_right (show X k + 1 ≤ Y k by omega) (Int.le_of_lt (BBn_pos k))
  rw [Int.add_mul] at this
  omega
theorem norm_ge {X : Nat → Int} {n : Nat} (h : WF X n) (hn : Norm X n) (h0 : 0 < n) : BB ^ (n - 1) ≤ val X n := by
  obtain ⟨m, rfl⟩ : ∃ m, n = m + 1 := ⟨n - 1, by omega⟩
  simp only [Norm, val, Nat.add_sub_cancel] at *
  rcases hn with hn | hn
  · omega
  · have h1 := val_nonneg (h.le (show m ≤ m + 1 by omega))
    have h3 := Int.mul_le_mul_of_nonneg_right (show 1 ≤ X m by have := (h m (by omega)).1; omega) (Int.le_of_lt (BBn_pos m))
    omega
theorem BB_mono {m n : Nat} (h : m ≤ n) : BB ^ m ≤ BB ^ n := by
  obtain ⟨k, rfl⟩ : ∃ k, n = m + k := ⟨n - m, by omega⟩
  rw [Int.pow_add]
  have h1 := BBn_pos k
  have h2 := Int.mul_le_mul_of_nonneg_left (show 1 ≤ BB ^ k by omega) (Int.le_of_lt (BBn_pos m))
  omega
theorem val_lt_of_len {X Y : Nat → Int} {n m : Nat} (hX : WF X n) (hY : WF Y m) (hY2 : Norm Y m) (h : n < m) : val X n < val Y m := by
  have h1 := val_lt hX
  have h2 := norm_ge hY hY2 (by omega)
  have h3 := BB_mono (show n ≤ m - 1 by omega)
  omega
def CmpPost (w : World) (a b : Int) (e : Ending) (w' : World) : Prop := e = .returned (.int .i64 (cmpV a b)) ∧ ∃ n, w' = w.drewN n
set_option maxHeartbeats 2000000 in
theorem cmp_any (ax ay : Option Addr) (xn xc yn yc : Nat) (X Y : Nat → Int) (w : World) (hx : NatIn w ax xn xc X) (hy : NatIn w ay yn yc Y) (hnx : Norm X xn) (hny : Norm Y yn) :
    Calls Tryz.prog 108 #[.slice ax xn xc, .slice ay yn yc] w (CmpPost w (val X xn) (val Y yn)) := by
  have hxn := hx.small
  have hyn := hy.small
  rcases Nat.lt_trichotomy xn yn with h | h | h
  · have HV := Lib.hid (cmpV_lt (val_lt_of_len hx.wf hy.wf hny h))
    have h1 : decide (xn < yn) = true := by simp [h]
    have h2 : ((xn : Int) != (yn : Int)) = true := by simp; omega
    have h3 : (xn : Int) < (yn : Int) := by omega
    clear hx hy hnx hny h
    go_enter Tryz.func108, Tryz.ntmps108
    go_wp2
    go_ret
    exact ⟨by rw [HV.out]; first | done | rfl, 0, rfl⟩
  · subst h
    by_cases h0 : xn = 0
    · have HV := Lib.hid (cmpV_eq (a := val X xn) (b := val Y xn) (by rw [h0]; rfl))
      subst h0
      go_enter Tryz.func108, Tryz.ntmps108
      go_wp2
      go_ret
      exact ⟨by rw [HV.out]; first | done | rfl, 0, rfl⟩
    · obtain ⟨bx, ox, rfl, hX⟩ := hx.words (by omega)
      obtain ⟨bY, oY, rfl, hY⟩ := hy.words (by omega)
      have HX := Lib.hid (And.intro hX hx.wf)
      have HY := Lib.hid (And.intro hY hy.wf)
      have h1 : ((xn : Int) == 0) = false := by simp [h0]
      have h2 : ((xn : Int) != (xn : Int)) = false := by simp
      clear hX hY hx hy hnx hny
      go_enter Tryz.func108, Tryz.ntmps108
      go_wp2_with fail
      go_loopw [7] (fun si wr => ∃ k : Nat, si = .int .i64 k ∧ k < xn ∧ Hid ((∀ j, k < j → j < xn → X j = Y j) ∧ ∃ N, wr = w.drewN N)) (fun si _ => (intOf si).toNat)
      case atStart => exact ⟨xn - 1, by go_num, by omega, fun j h1 h2 => by omega, 0, rfl⟩
      case round =>
        obtain ⟨k, rfl, hk, H⟩ := hrel
        obtain ⟨N, hN⟩ := H.out.2
        subst hN
        obtain ⟨xk, hxe⟩ : ∃ x, X k = x := ⟨_, rfl⟩
        obtain ⟨yk, hye⟩ : ∃ x, Y k = x := ⟨_, rfl⟩
        have hcx := HX.out.1 k hk
        have hcy := HY.out.1 k hk
        rw [hxe] at hcx
        rw [hye] at hcy
        have HE := Lib.hid (And.intro hxe hye)
        clear hxe hye
        by_cases hk0 : 0 < k
        · by_cases heq : xk = yk
          · have Heq := Lib.hid heq
            have hb : (xk == yk) = true := by simp [heq]
            have hd : decide (0 < k) = true := by simp [hk0]
            clear heq
            go_wp2_with fail
            go_quiet (fail)
            go_wp2
            go_roundw
            case rel =>
              refine ⟨k - 1, by go_num, by omega, fun j h1 h2 => ?_, _, rfl⟩
              by_cases e : j = k
              · rw [e, HE.out.1, HE.out.2, Heq.out]
              · exact H.out.1 j (by omega) h2
            case measure => simp [intOf]; omega
          · have hb : (xk == yk) = false := by simp [heq]
            have hd : decide (0 < k) = true := by simp [hk0]
            rcases Int.lt_or_gt_of_ne heq with hlt | hgt
            · have HV := Lib.hid (cmpV_lt (val_cmp HX.out.2 HY.out.2 hk H.out.1 (by rw [HE.out.1, HE.out.2]; exact hlt)))
              clear heq
              go_wp2_with fail
              go_quiet (fail)
              go_wp2_with fail
              go_quiet (fail)
              go_wp2
              go_ret
              exact ⟨by rw [HV.out]; first | done | rfl, by simp only [World.drewN_drewN]; exact ⟨_, rfl⟩⟩
            · have HV := Lib.hid (cmpV_gt (val_cmp HY.out.2 HX.out.2 hk (fun j h1 h2 => (H.out.1 j h1 h2).symm) (by rw [HE.out.1, HE.out.2]; exact hgt)))
              have hnlt : ¬ xk < yk := by omega
              clear heq
              go_wp2_with fail
              go_quiet (fail)
              go_wp2_with fail
              go_quiet (fail)
              go_wp2_with fail
              go_quiet (fail)
              go_wp2
              go_ret
              exact ⟨by rw [HV.out]; first | done | rfl, by simp only [World.drewN_drewN]; exact ⟨_, rfl⟩⟩
        · obtain rfl : k = 0 := by omega
          have hd : decide (0 < 0) = false := by simp
          simp only [Nat.add_zero] at hcx hcy
          rcases Int.lt_trichotomy xk yk with hlt | heq | hgt
          · have HV := Lib.hid (cmpV_lt (val_cmp HX.out.2 HY.out.2 hk H.out.1 (by rw [HE.out.1, HE.out.2]; exact hlt)))
            go_wp2_with fail
            go_quiet (fail)
            go_wp2_with fail
            go_quiet (fail)
            go_wp2
            go_ret
            exact ⟨by rw [HV.out]; first | done | rfl, by simp only [World.drewN_drewN]; exact ⟨_, rfl⟩⟩
          · have HV := Lib.hid (cmpV_eq (a := val X xn) (b := val Y xn) (val_congr (fun j hj => by
              by_cases e : j = 0
              · rw [e, HE.out.1, HE.out.2, heq]
              · exact H.out.1 j (by omega) hj)))
            have hn1 : ¬ xk < yk := by omega
            have hn2 : ¬ yk < xk := by omega
            clear heq
            go_wp2_with fail
            go_quiet (fail)
            go_wp2_with fail
            go_quiet (fail)
            go_wp2_with fail
            go_quiet (fail)
            go_wp2
            go_ret
            exact ⟨by rw [HV.out]; first | done | rfl, by simp only [World.drewN_drewN]; exact ⟨_, rfl⟩⟩
          · have HV := Lib.hid (cmpV_gt (val_cmp HY.out.2 HX.out.2 hk (fun j h1 h2 => (H.out.1 j h1 h2).symm) (by rw [HE.out.1, HE.out.2]; exact hgt)))
            have hnlt : ¬ xk < yk := by omega
            go_wp2_with fail
            go_quiet (fail)
            go_wp2_with fail
            go_quiet (fail)
            go_wp2_with fail
            go_quiet (fail)
            go_wp2
            go_ret
            exact ⟨by rw [HV.out]; first | done | rfl, by simp only [World.drewN_drewN]; exact ⟨_, rfl⟩⟩
  · have HV := Lib.hid (cmpV_gt (val_lt_of_len hy.wf hx.wf hnx h))
    have h1 : decide (xn < yn) = false := by simp; omega
    have h1' : decide (yn < xn) = true := by simp; omega
    have h2 : ((xn : Int) != (yn : Int)) = true := by simp; omega
    have h3 : (yn : Int) < (xn : Int) := by omega
    clear hx hy hnx hny h
    go_enter Tryz.func108, Tryz.ntmps108
    go_wp2
    go_ret
    exact ⟨by rw [HV.out]; first | done | rfl, 0, rfl⟩
end Go.Proofs.YtmgfajamanakcaaGreatDoor
namespace Go.Proofs.YtmgfajamanakcaaGreatDoor
open Go.RowKit
set_option maxRecDepth 100000
set_option linter.unusedVariables false
theorem run_clear_zero (t1 ty : TypeId) (hu : Tryz.prog.underlying t1 = some (.slice 153)) (a : Option Addr) (c : Nat) (W : World) :
    (Builtin.clear_ #[t1] ty #[.slice a 0 c]).run Tryz.prog W = .ok (.tuple #[]) W := by
  cases a <;> simp [Builtin.clear_, run_underlying hu]
theorem wpList_clear_zero {ops : Array Oper} {rest : List Oper} {op : Oper} {act : Act} {w : World} {Q : Exit → Act → World → Prop} (hgd : op.guard = none) (s : Operand) (t1 : TypeId)
    (ho : op.op = .call { callee := .builtin .clear, args := #[s], argTypes := #[t1] }) (hu : Tryz.prog.underlying t1 = some (.slice 153))
    (a : Option Addr) (c : Nat) (hs : act.eval s = .slice a 0 c) (h : wpList Tryz.prog ops Q rest (act.put op.dst (.tuple #[])) w) : wpList Tryz.prog ops Q (op :: rest) act w :=
  wpList_plain hgd fun K hK => by
    have hrun := run_clear_zero t1 op.type hu a c w
    unfold Oper.wp execOp
    simp only [ho, resolve, invoke, builtin, Sem.run_bind, Sem.run_pure, Result.andThen_ok, List.map_toArray, List.map_cons, List.map_nil, hs, hrun]
    exact hK _ _ h
theorem Place.bwd {bx ox xn b o c q m : Nat} (h : Place bx ox xn b o c) (hm : m = xn) (hc : q + m ≤ c) : Bwd bx ox b (o + q) m := by
  subst hm
  rcases h with ⟨h1, h2⟩ | h | h | h
  · exact Or.inr (Or.inl (by omega))
  · exact Or.inl h
  · exact Or.inr (Or.inl (by omega))
  · exact Or.inr (Or.inr (by omega))
def LshMid (w1 : World) (b o q m : Nat) (R : Int) (cc : Int) (w' : World) : Prop :=
  ∃ Z, Chg (zRow b o (q + m + 1)) w1 w' ∧ Words w' b (o + q) m Z ∧ w'.cell? ⟨b, o + (q + m), none⟩ = some (.int .u64 cc) ∧ WF Z m ∧ U64 cc ∧ val Z m + cc * BB ^ m = R
/-- Behind the shifted words the low ones are cleared: the words of the result. -/
theorem lsh_fin {w1 w2 w3 : World} {b o q m : Nat} {R cc : Int} (h : LshMid w1 b o q m R cc w2) (k : Chg (zRow b o q) w2 w3) (hw : Words w3 b o q (fun _ => 0)) :
    ∃ Z, Chg (zRow b o (q + m + 1)) w1 w3 ∧ Words w3 b o (q + m + 1) Z ∧ WF Z (q + m + 1) ∧ val Z (q + m + 1) = BB ^ q * R := by
  obtain ⟨Z, h1, h2, h3, h4, h5, h6⟩ := h
  have g2 := h2.chg k (fun i hi ⟨_, _, e⟩ => by omega)
  have g3 := k.cell h3 (fun ⟨_, _, e⟩ => by omega)
  have hj := hw.join g2
  have hwf : WF (fun i => if i < q then (fun _ => (0:Int)) i else Z (i - q)) (q + m) := fun i hi => by
    by_cases e : i < q
    · simp only [e, if_true]; exact ⟨Int.le_refl _, by decide⟩
    · simp only [e, if_false]; exact h4 _ (by omega)
  refine ⟨upd (fun i => if i < q then (fun _ => (0:Int)) i else Z (i - q)) (q + m) cc, h1.trans k (fun bb oo _ ⟨e1, e2, e3⟩ => ⟨e1, e2, by omega⟩), ?_, WF_upd hwf h5, ?_⟩
  · intro i hi
    by_cases e : i = q + m
    · subst e; rw [upd_same]; exact g3
    · rw [upd_other _ _ e]; exact hj i (by omega)
  · simp only [val, val_upd, upd_same]
    have ev : val (fun i => if i < q then (fun _ => (0:Int)) i else Z (i - q)) (q + m) = BB ^ q * val Z m := by
      rw [val_add, val_zeros (fun i hi => by simp only [hi, if_true])]
      rw [val_congr (X := fun i => (fun i => if i < q then (fun _ => (0:Int)) i else Z (i - q)) (q + i)) (Y := Z) (fun i hi => by
        show (if q + i < q then (0:Int) else Z (q + i - q)) = Z i
        rw [if_neg (by omega)]; congr 1; omega)]
      omega
    rw [ev, ← h6, Int.pow_add]; grind
/-- Cells of the row may be written behind words of it. -/
theorem room_setcell {w1 w2 : World} {b o n c k m : Nat} {Z : Nat → Int} {v : Int} (h : Room w1 b o c) (hk : Chg (zRow b k m) w1 w2) (hZ : Words w2 b k m Z) (b' o' : Nat) (hn : n ≤ c) : Room (w2.setCell ⟨b', o', none⟩ (.int .u64 v)) b o n := by
  refine Room.setInt (fun i hi => ?_) b' o' v
  obtain ⟨⟨y0, hy0⟩, hf0⟩ := h i (by omega)
  refine ⟨?_, by rw [hk.frozen hy0]; exact hf0⟩
  by_cases e : k ≤ o + i ∧ o + i < k + m
  · have := hZ (o + i - k) (by omega)
    rw [show k + (o + i - k) = o + i by omega] at this
    exact ⟨_, this⟩
  · exact ⟨y0, hk.cell hy0 (fun ⟨_, h2, h3⟩ => e ⟨h2, h3⟩)⟩
set_option maxHeartbeats 4000000 in
theorem lsh_any (az ax : Option Addr) (zl zc xn xc : Nat) (X : Nat → Int) (s : Nat) (w : World) (hz : ZOK w az zc) (hx : NatIn w ax xn xc X) (hap : Apart az zc ax xn) (hs0 : 0 < s) (hs : s < 4294967296) :
    Calls Tryz.prog 76 #[.slice az zl zc, .slice ax xn xc, .int .u64 s] w (NatRes w az zc (val X xn * 2 ^ s)) := by
  have Hz := Lib.hid hz
  have Hx := Lib.hid hx
  have Ha := Lib.hid hap
  have hxn := hx.small
  have hsb : ((s : Int) == 0) = false := by simp; omega
  clear hz hx hap
  by_cases hx0 : xn = 0
  · subst hx0
    go_enter Tryz.func76, Tryz.ntmps76
    go_wp2
    go_ret
    exact ⟨az, 0, zc, fun _ => 0, rfl, Nat.zero_le _, Hz.out, Or.inl rfl, fun i hi => by omega, Or.inl rfl, by simp [val], Or.inl ⟨rfl, rfl⟩, Chg.refl _ _⟩
  · have hxb : ((xn : Int) == 0) = false := by simp [hx0]
    obtain ⟨bx, ox, rfl, hX⟩ := Hx.out.words (by omega)
    have Hb := Lib.hid (lt_of_cell (hX 0 (by omega)))
    have HX := Lib.hid hX
    clear hX
    obtain ⟨q, hq⟩ : ∃ q, s / 64 = q := ⟨_, rfl⟩
    have hqI : (s : Int) / 64 = (q : Int) := by omega
    have hqI2 : (s : Int).tdiv 64 = (q : Int) := by rw [Int.tdiv_eq_ediv_of_nonneg (by omega)]; exact hqI
    have hqb : q < 67108864 := by omega
    obtain ⟨r, hr⟩ : ∃ r, s % 64 = r := ⟨_, rfl⟩
    have hrI : (s : Int) % 64 = (r : Int) := by omega
    have hrI2 : (s : Int).tmod 64 = (r : Int) := by rw [Int.tmod_eq_emod_of_nonneg (by omega)]; exact hrI
    have hrb : r < 64 := by omega
    have Hv : Hid (val X xn * 2 ^ s = BB ^ q * (val X xn * 2 ^ r)) := by
      unfold Hid
      rw [two_split s, hq, hr]; grind
    have Hq := Lib.hid hq
    clear hq hr
    go_enter Tryz.func76, Tryz.ntmps76
    go_wp2_with fail
    rw [show ((xn : Int) + (q : Int) + 1) = ((q + xn + 1 : Nat) : Int) from by omega]
    refine (make_any az zl zc (q + xn + 1) _ Hz.out (by omega)).mono ?_
    rintro e w1 ⟨a, c, rfl, h1, h2, h3, h4⟩
    obtain ⟨b, o, rfl, hb1, hroom⟩ := h2.room (by omega)
    have hcap := h2.cap
    have H := Lib.hid (And.intro h1 (And.intro h2 (And.intro h3 (And.intro h4 (And.intro hb1 hroom)))))
    have h1' : q + xn + 1 ≤ c := h1
    have HPx := Lib.hid (place_of h3 Ha.out Hb.out (by omega) (by omega))
    clear h1 h2 h3 h4 hroom hb1
    have e1 : ((xn : Int) + (q : Int) - (xn : Int)) = (q : Int) := by omega
    have e2 : ((xn : Int) + (q : Int)).toNat = q + xn := by omega
    have e3 : ¬ c = q := by omega
    have e4 : (q : Int) ≤ (xn : Int) + (q : Int) := by omega
    have e5 : (xn : Int) + (q : Int) ≤ (c : Int) := by omega
    have e6 : q + xn - q = xn := by omega
    have HXw : Hid (Words w1 bx ox xn X) := HX.out.chg H.out.2.2.2.1 (fun _ _ h => h)
    obtain ⟨⟨z0, hz0⟩, hf0⟩ := H.out.2.2.2.2.2 (q + xn) (by omega)
    have Hz0 := Lib.hid (And.intro hz0 hf0)
    clear hz0 hf0
    by_cases hr0 : r = 0
    · subst hr0
      have hc1 : ((0 : Int) == 0) = true := rfl
      have HRz : Hid (Room w1 b (o + q) xn) := (H.out.2.2.2.2.2.drop q xn (by omega))
      go_upto_region 16 with (refine wpList_copy_word rfl (.tmp 46) (.tmp 47) 120 120 rfl Tryz.underlying120 b (o + q) xn (c - q) (some ⟨bx, ox, none⟩) xn xc xn X rfl rfl (Nat.min_self xn).symm HRz.out (Or.inr ⟨bx, ox, rfl, HXw.out⟩) ?_; rintro w2 hw2; have HW2 := Lib.hid hw2; clear hw2; have hz2 := HW2.out.1.cell Hz0.out.1 (fun ⟨_, _, h3⟩ => by omega); have hf2 : w2.frozen? ⟨b, o + (q + xn), none⟩ = false := by rw [HW2.out.1.frozen Hz0.out.1]; exact Hz0.out.2)
      have HM : Hid (LshMid w1 b o q xn (val X xn * 2 ^ 0) 0 (w2.setCell ⟨b, o + (q + xn), none⟩ (.int .u64 0))) := by
        refine ⟨X, (HW2.out.1.mono (fun bb oo _ ⟨e1, e2, e3⟩ => ⟨e1, by omega, by omega⟩)).setCell b (o + (q + xn)) _ (fun _ => ⟨rfl, by omega, by omega⟩), ?_, World.cell?_setCell_same' _ _ _ (by rw [hz2]; rfl), Hx.out.wf, ⟨by omega, by omega⟩, by simp⟩
        exact HW2.out.2.1.chg (chg_setCell w2 b (o + (q + xn)) _) (fun i hi ⟨_, h⟩ => by omega)
      by_cases hq0 : q = 0
      · have HF : Hid (∃ Z, Chg (zRow b o (q + xn + 1)) w1 (w2.setCell ⟨b, o + (q + xn), none⟩ (.int .u64 0)) ∧ Words (w2.setCell ⟨b, o + (q + xn), none⟩ (.int .u64 0)) b o (q + xn + 1) Z ∧ WF Z (q + xn + 1) ∧ val Z (q + xn + 1) = BB ^ q * (val X xn * 2 ^ 0)) :=
          lsh_fin HM.out (Chg.refl _ _) (fun i hi => by omega)
        obtain ⟨Z, hHF⟩ := HF.out
        subst hq0
        simp only [Nat.zero_add] at hz2 hf2 hHF h1' H
        have HG := Lib.hid hHF
        clear HF hHF
        go_wp2_with (with_reducible refine wpList_clear_zero rfl (.tmp 68) 120 rfl Tryz.underlying120 (some ⟨b, o, none⟩) c rfl ?_)
        refine (norm_any (some ⟨b, o, none⟩) (xn + 1) c Z _ (Or.inr ⟨b, o, rfl, HG.out.2.1⟩) h1' hcap).mono ?_
        rintro e w5 ⟨i, rfl, n1, n2, n3, rfl⟩
        have HN := Lib.hid (And.intro n1 (And.intro n2 n3))
        clear n1 n2 n3
        go_wp2
        go_ret
        exact (natres_close H.out HG.out.1 HG.out.2.1 HG.out.2.2.1 HG.out.2.2.2 HN.out.1 HN.out.2.1 HN.out.2.2).val_eq Hv.out.symm
      · have HRm : Hid (Room (w2.setCell ⟨b, o + (q + xn), none⟩ (.int .u64 0)) b o q) := room_setcell H.out.2.2.2.2.2 HW2.out.1 HW2.out.2.1 b (o + (q + xn)) (by omega)
        go_wp2_with (with_reducible refine wpList_clear_word rfl (.tmp 68) 120 rfl Tryz.underlying120 b o q c rfl (by omega) HRm.out ?_; rintro w4 hw4; have HW := Lib.hid hw4; clear hw4)
        have HF := Lib.hid (lsh_fin HM.out HW.out.1 HW.out.2.1)
        obtain ⟨Z, hHF⟩ := HF.out
        have HG := Lib.hid hHF
        clear HF hHF
        refine (norm_any (some ⟨b, o, none⟩) (q + xn + 1) c Z _ (Or.inr ⟨b, o, rfl, HG.out.2.1⟩) h1' hcap).mono ?_
        rintro e w5 ⟨i, rfl, n1, n2, n3, rfl⟩
        have HN := Lib.hid (And.intro n1 (And.intro n2 n3))
        clear n1 n2 n3
        go_wp2
        go_ret
        exact (natres_close H.out HG.out.1 HG.out.2.1 HG.out.2.2.1 HG.out.2.2.2 HN.out.1 HN.out.2.1 HN.out.2.2).val_eq Hv.out.symm
    · have hrb0 : ((r : Int) == 0) = false := by simp [hr0]
      go_wp2_with fail
      refine (lshVU_any bx ox b (o + q) xn xc (c - q) X r _ (by omega) (by omega) HXw.out Hx.out.wf (H.out.2.2.2.2.2.drop q xn (by omega)) (HPx.out.bwd rfl (by omega)) (by omega) hrb).mono ?_
      rintro e w2 ⟨cc, rfl, Z0, l1, l2, l3, l4, l5⟩
      have HL := Lib.hid (And.intro l1 (And.intro l2 (And.intro l3 (And.intro l4 l5))))
      clear l1 l2 l3 l4 l5
      have hz2 := HL.out.1.cell Hz0.out.1 (fun ⟨_, _, h3⟩ => by omega)
      have hf2 : w2.frozen? ⟨b, o + (q + xn), none⟩ = false := by rw [HL.out.1.frozen Hz0.out.1]; exact Hz0.out.2
      have HM : Hid (LshMid w1 b o q xn (val X xn * 2 ^ r) cc (w2.setCell ⟨b, o + (q + xn), none⟩ (.int .u64 cc))) := by
        refine ⟨Z0, (HL.out.1.mono (fun bb oo _ ⟨e1, e2, e3⟩ => ⟨e1, by omega, by omega⟩)).setCell b (o + (q + xn)) _ (fun _ => ⟨rfl, by omega, by omega⟩), ?_, World.cell?_setCell_same' _ _ _ (by rw [hz2]; rfl), HL.out.2.2.1, HL.out.2.2.2.1, HL.out.2.2.2.2⟩
        exact HL.out.2.1.chg (chg_setCell w2 b (o + (q + xn)) _) (fun i hi ⟨_, h⟩ => by omega)

      by_cases hq0 : q = 0
      · have HF : Hid (∃ Z, Chg (zRow b o (q + xn + 1)) w1 (w2.setCell ⟨b, o + (q + xn), none⟩ (.int .u64 cc)) ∧ Words (w2.setCell ⟨b, o + (q + xn), none⟩ (.int .u64 cc)) b o (q + xn + 1) Z ∧ WF Z (q + xn + 1) ∧ val Z (q + xn + 1) = BB ^ q * (val X xn * 2 ^ r)) :=
          lsh_fin HM.out (Chg.refl _ _) (fun i hi => by omega)
        obtain ⟨Z, hHF⟩ := HF.out
        subst hq0
        simp only [Nat.zero_add] at hz2 hf2 hHF h1' H
        have HG := Lib.hid hHF
        clear HF hHF
        go_wp2_with (with_reducible refine wpList_clear_zero rfl (.tmp 68) 120 rfl Tryz.underlying120 (some ⟨b, o, none⟩) c rfl ?_)
        refine (norm_any (some ⟨b, o, none⟩) (xn + 1) c Z _ (Or.inr ⟨b, o, rfl, HG.out.2.1⟩) h1' hcap).mono ?_
        rintro e w5 ⟨i, rfl, n1, n2, n3, rfl⟩
        have HN := Lib.hid (And.intro n1 (And.intro n2 n3))
        clear n1 n2 n3
        go_wp2
        go_ret
        exact (natres_close H.out HG.out.1 HG.out.2.1 HG.out.2.2.1 HG.out.2.2.2 HN.out.1 HN.out.2.1 HN.out.2.2).val_eq Hv.out.symm
      · have HRm : Hid (Room (w2.setCell ⟨b, o + (q + xn), none⟩ (.int .u64 cc)) b o q) := room_setcell H.out.2.2.2.2.2 HL.out.1 HL.out.2.1 b (o + (q + xn)) (by omega)
        go_wp2_with (with_reducible refine wpList_clear_word rfl (.tmp 68) 120 rfl Tryz.underlying120 b o q c rfl (by omega) HRm.out ?_; rintro w4 hw4; have HW := Lib.hid hw4; clear hw4)
        have HF := Lib.hid (lsh_fin HM.out HW.out.1 HW.out.2.1)
        obtain ⟨Z, hHF⟩ := HF.out
        have HG := Lib.hid hHF
        clear HF hHF
        refine (norm_any (some ⟨b, o, none⟩) (q + xn + 1) c Z _ (Or.inr ⟨b, o, rfl, HG.out.2.1⟩) h1' hcap).mono ?_
        rintro e w5 ⟨i, rfl, n1, n2, n3, rfl⟩
        have HN := Lib.hid (And.intro n1 (And.intro n2 n3))
        clear n1 n2 n3
        go_wp2
        go_ret
        exact (natres_close H.out HG.out.1 HG.out.2.1 HG.out.2.2.1 HG.out.2.2.2 HN.out.1 HN.out.2.1 HN.out.2.2).val_eq Hv.out.symm
end Go.Proofs.YtmgfajamanakcaaGreatDoor
