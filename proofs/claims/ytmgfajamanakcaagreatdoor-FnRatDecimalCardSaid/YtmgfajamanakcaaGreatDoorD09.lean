/- Part of the proof of FnParse: what the functions that it reaches do, as contracts. Conditions: those that each theorem names. -/
import Derived.Test.YtmgfajamanakcaaGreatDoorD08
namespace Go.Proofs.YtmgfajamanakcaaGreatDoor
set_option linter.unusedVariables false
set_option linter.unusedSimpArgs false
open Go.RowKit
set_option maxRecDepth 100000
def SVWPost (w : World) (bz oz n : Nat) (X : Nat → Int) (y c : Int) (w' : World) : Prop :=
  ∃ Z, Chg (zRow bz oz n) w w' ∧ Words w' bz oz n Z ∧ WF Z n ∧ (0 ≤ c ∧ c ≤ 1) ∧ val Z n - c * BB ^ n = val X n - y
theorem svw_close {w w' : World} {bz oz n m : Nat} {X Z : Nat → Int} {y : Int} (hm : m ≤ n) (hX : WF X n) (k : Chg (zRow bz oz n) w w') (h1 : Words w' bz oz m Z) (hZ : WF Z m) (h2 : Words w' bz (oz + m) (n - m) (fun i => X (m + i))) (hv : val Z m = val X m - y) :
    SVWPost w bz oz n X y 0 w' := by
  have hj := h1.join h2
  rw [show m + (n - m) = n by omega] at hj
  refine ⟨_, k, hj, fun i hi => ?_, by omega, ?_⟩
  · by_cases e : i < m
    · simp only [e, if_true]; exact hZ i e
    · simp only [e, if_false]; rw [show m + (i - m) = i by omega]; exact hX i hi
  · obtain ⟨d, rfl⟩ : ∃ d, n = m + d := ⟨n - m, by omega⟩
    rw [val_add, val_add X, val_congr (X := fun i => if i < m then Z i else X (m + (i - m))) (Y := Z) (fun i hi => by simp only [hi, if_true])]
    rw [val_congr (X := fun i => (fun i => if i < m then Z i else X (m + (i - m))) (m + i)) (Y := fun i => X (m + i)) (fun i hi => by
      show (if m + i < m then Z (m + i) else X (m + (m + i - m))) = X (m + i)
      rw [if_neg (by omega)]; congr 1; omega)]
    rw [hv]; grind
set_option maxHeartbeats 4000000 in
theorem subVW_any (bx ox bz oz n cx cz : Nat) (X : Nat → Int) (y : Int) (w : World) (hn1 : 0 < n) (hn : n < 1099511627776) (hX : Words w bx ox n X) (hXw : WF X n) (hz : Room w bz oz n) (hf : Fwd bx ox bz oz n) (hy : U64 y) (hcz : n ≤ cz) (hcx : n ≤ cx) (hpz : PB w bz) (hpx : PB w bx) :
    Calls Tryz.prog 174 #[.slice (some ⟨bz, oz, none⟩) n cz, .slice (some ⟨bx, ox, none⟩) n cx, .int .u64 y] w (OneWord (SVWPost w bz oz n X y)) := by
  have hnb : ((n : Int) == 0) = false := by simp; omega
  obtain ⟨x0, hx0⟩ : ∃ x, X 0 = x := ⟨_, rfl⟩
  have hc0 := hX 0 hn1
  obtain ⟨⟨z0, hz0⟩, hzf0⟩ := hz 0 hn1
  simp only [Nat.add_zero] at hc0 hz0 hzf0
  rw [hx0] at hc0
  have hxw : Hid (U64 x0) := by rw [← hx0]; exact hXw 0 hn1
  have Hx0 := Lib.hid hx0
  have HX := Lib.hid (And.intro hX (And.intro hXw hf))
  have Hz := Lib.hid hz
  have Hy := Lib.hid hy
  have HP := Lib.hid (And.intro hpz hpx)
  clear hX hXw hz hf hy hx0 hpz hpx
  go_enter Tryz.func174, Tryz.ntmps174
  go_wp2_with fail
  refine (Sub_any x0 y 0 _ hxw.out Hy.out (by omega)).mono ?_
  rintro e w' ⟨s, c, rfl, hq, rfl⟩
  have HQ := Lib.hid hq
  have hc : c = 0 ∨ c = 1 := by have := hq.2.1; omega
  clear hq
  rcases hc with rfl | rfl
  · -- no carry
    have HC : Hid (Chg (zRow bz oz n) w (w.setCell ⟨bz, oz, none⟩ (.int .u64 s)) ∧ Words (w.setCell ⟨bz, oz, none⟩ (.int .u64 s)) bz oz 1 (upd (fun _ => 0) 0 s) ∧ WF (upd (fun _ => 0) 0 s) 1 ∧ val (upd (fun _ => 0) 0 s) 1 = val X 1 - y) := by
      refine ⟨(Chg.refl _ _).setCell bz oz _ (fun _ => ⟨rfl, by omega, by omega⟩), ?_, ?_, ?_⟩
      · have := Words.snoc (w := w) (b := bz) (off := oz) (k := 0) (Z := fun _ => 0) (v := s) (fun i hi => by omega) (by rw [Nat.add_zero, hz0]; rfl)
        exact this
      · intro i hi; obtain rfl : i = 0 := by omega
        rw [upd_same]; exact HQ.out.1
      · rw [val_one, val_one, upd_same, Hx0.out]; have := HQ.out.2.2; omega
    by_cases he : bz = bx ∧ oz = ox
    · have hpe : ∀ n, (binOp .neq 241 (.pointer (some ⟨bz, oz, none⟩)) (.pointer (some ⟨bx, ox, none⟩))).run Tryz.prog ((w.setCell ⟨bz, oz, none⟩ (.int .u64 s)).drewN n) = .ok (.bool false) ((w.setCell ⟨bz, oz, none⟩ (.int .u64 s)).drewN n) :=
        fun n => ptr_ne _ (HP.out.1.chg ((chg_setCell w bz oz (.int .u64 s)).drewN n)) (HP.out.2.chg ((chg_setCell w bz oz (.int .u64 s)).drewN n)) (by simp [he])
      have HE := Lib.hid he
      clear he
      go_wp2_with fail
      go_quiet (fail)
      go_wp2
      go_ret
      have he := HE.out
      refine ⟨0, rfl, svw_close (m := 1) (Z := upd (fun _ => 0) 0 s) hn1 HX.out.2.1 (HC.out.1.drewN _) HC.out.2.1 HC.out.2.2.1 ?_ HC.out.2.2.2⟩
      intro i hi
      have h1 := HX.out.1 (1 + i) (by omega)
      rw [← he.1, ← he.2] at h1
      have h2 : (w.setCell ⟨bz, oz, none⟩ (.int .u64 s)).cell? ⟨bz, oz + (1 + i), none⟩ = some (.int .u64 (X (1 + i))) := by
        rw [cs_other (by omega)]; exact h1
      rw [Nat.add_assoc]
      exact h2
    · have hpe : ∀ n, (binOp .neq 241 (.pointer (some ⟨bz, oz, none⟩)) (.pointer (some ⟨bx, ox, none⟩))).run Tryz.prog ((w.setCell ⟨bz, oz, none⟩ (.int .u64 s)).drewN n) = .ok (.bool true) ((w.setCell ⟨bz, oz, none⟩ (.int .u64 s)).drewN n) :=
        fun n => ptr_ne _ (HP.out.1.chg ((chg_setCell w bz oz (.int .u64 s)).drewN n)) (HP.out.2.chg ((chg_setCell w bz oz (.int .u64 s)).drewN n)) (by simp [he])
      clear he
      have HR0 : Room (w.setCell ⟨bz, oz, none⟩ (.int .u64 s)) bz (oz + 1) (n - 1) ∧ Rd (w.setCell ⟨bz, oz, none⟩ (.int .u64 s)) (some ⟨bx, ox + 1, none⟩) (n - 1) (fun i => X (1 + i)) := by
        refine ⟨(Hz.out.drop 1 (n - 1) (by omega)).setInt bz oz s, Or.inr ⟨bx, ox + 1, rfl, ?_⟩⟩
        refine (HX.out.1.drop 1 (n - 1) (by omega)).chg (chg_setCell w bz oz (.int .u64 s)) (fun i hi ⟨h1, h2⟩ => ?_)
        rcases HX.out.2.2 with h | h | h <;> omega
      have HR := Lib.hid (room_drawn HR0.1 HR0.2)
      clear HR0
      by_cases h1 : n = 1
      · subst h1
        have Hfin := Lib.hid (show ∀ W : World, W.heap = (w.setCell ⟨bz, oz, none⟩ (.int .u64 s)).heap → W.os = w.os → W.tape = w.tape → W.output = w.output → SVWPost w bz oz 1 X y 0 W from fun W e1 e2 e3 e4 => by
          have kk : Chg zNone (w.setCell ⟨bz, oz, none⟩ (.int .u64 s)) W := ⟨e2, e3, e4, by rw [e1]; exact Nat.le_refl _, fun b _ _ => by rw [e1], fun b c e fr h => ⟨c, by rw [e1]; exact h, rfl, fun _ _ => rfl⟩⟩
          exact svw_close (m := 1) (Z := upd (fun _ => 0) 0 s) (Nat.le_refl _) HX.out.2.1 (HC.out.1.trans kk (fun _ _ _ h => h.elim)) (HC.out.2.1.chg kk (fun _ _ h => h)) HC.out.2.2.1 (fun i hi => by omega) HC.out.2.2.2)
        rcases Nat.lt_or_ge 1 cz with c1 | c1
        · have c1' : ¬ cz = 1 := by omega
          rcases Nat.lt_or_ge 1 cx with c2 | c2
          · have c2' : ¬ cx = 1 := by omega
            go_wp2_with fail
            go_quiet (fail)
            go_wp2_with fail
            go_region_law (refine step_copy_zero rfl (.tmp 40) (.tmp 42) 119 119 rfl Tryz.underlying119 (some ⟨bz, oz + 1, none⟩) 0 (cz - 1) (some ⟨bx, ox + 1, none⟩) 0 (cx - 1) (by simp [go_sem]) (by simp [go_sem]) rfl ?_)
            all_goals (go_wp2; go_ret; exact ⟨0, rfl, Hfin.out _ rfl rfl rfl rfl⟩)
          · have c2' : cx = 1 := by omega
            go_wp2_with fail
            go_quiet (fail)
            go_wp2_with fail
            go_region_law (refine step_copy_zero rfl (.tmp 40) (.tmp 42) 119 119 rfl Tryz.underlying119 (some ⟨bz, oz + 1, none⟩) 0 (cz - 1) (some ⟨bx, ox, none⟩) 0 0 (by simp [go_sem]) (by simp [go_sem]) rfl ?_)
            all_goals (go_wp2; go_ret; exact ⟨0, rfl, Hfin.out _ rfl rfl rfl rfl⟩)
        · have c1' : cz = 1 := by omega
          rcases Nat.lt_or_ge 1 cx with c2 | c2
          · have c2' : ¬ cx = 1 := by omega
            go_wp2_with fail
            go_quiet (fail)
            go_wp2_with fail
            go_region_law (refine step_copy_zero rfl (.tmp 40) (.tmp 42) 119 119 rfl Tryz.underlying119 (some ⟨bz, oz, none⟩) 0 0 (some ⟨bx, ox + 1, none⟩) 0 (cx - 1) (by simp [go_sem]) (by simp [go_sem]) rfl ?_)
            all_goals (go_wp2; go_ret; exact ⟨0, rfl, Hfin.out _ rfl rfl rfl rfl⟩)
          · have c2' : cx = 1 := by omega
            go_wp2_with fail
            go_quiet (fail)
            go_wp2_with fail
            go_region_law (refine step_copy_zero rfl (.tmp 40) (.tmp 42) 119 119 rfl Tryz.underlying119 (some ⟨bz, oz, none⟩) 0 0 (some ⟨bx, ox, none⟩) 0 0 (by simp [go_sem]) (by simp [go_sem]) rfl ?_)
            all_goals (go_wp2; go_ret; exact ⟨0, rfl, Hfin.out _ rfl rfl rfl rfl⟩)
      · have c1 : ¬ cz = 1 := by omega
        have c2 : ¬ cx = 1 := by omega
        have c3 : (1 : Int) ≤ (n : Int) := by omega
        go_wp2_with fail
        go_quiet (fail)
        go_wp2_with fail
        go_region_law (refine step_copy_word rfl (.tmp 40) (.tmp 42) 119 119 rfl Tryz.underlying119 bz (oz + 1) (n - 1) (cz - 1) (some ⟨bx, ox + 1, none⟩) (n - 1) (cx - 1) (n - 1) (fun i => X (1 + i)) (by simp [go_sem]) (by simp [go_sem]) (Nat.min_self _).symm (HR.out _).1 (HR.out _).2 ?_; intro w2 hw2; have HW := Lib.hid hw2; clear hw2)
        all_goals
          go_wp2
          go_ret
          refine ⟨0, rfl, svw_close (m := 1) (Z := upd (fun _ => 0) 0 s) hn1 HX.out.2.1 ?_ ?_ HC.out.2.2.1 HW.out.2.1 HC.out.2.2.2⟩
          · exact (((HC.out.1.drewN _).drew).trans HW.out.1 (fun b o _ ⟨h1, h2, h3⟩ => ⟨h1, by omega, by omega⟩))
          · exact Words.chg (w := ((w.setCell ⟨bz, oz, none⟩ (.int .u64 s)).drewN nq).drew) HC.out.2.1 HW.out.1 (fun i hi ⟨h1, h2, h3⟩ => by omega)
  · -- carry
    have h0w : Hid (Words (w.setCell ⟨bz, oz, none⟩ (.int .u64 s)) bz oz 1 (upd (fun _ => 0) 0 s)) := by
      have := Words.snoc (w := w) (b := bz) (off := oz) (k := 0) (Z := fun _ => 0) (v := s) (fun i hi => by omega) (by rw [Nat.add_zero, hz0]; rfl)
      exact this
    go_wp2_with fail
    go_loopw [9] (fun si wr => ∃ (k : Nat) (Z : Nat → Int), si = .int .i64 k ∧ 1 ≤ k ∧ k ≤ n ∧ Hid (Chg (zRow bz oz k) w wr ∧ Words wr bz oz k Z ∧ WF Z k ∧ val Z k - BB ^ k = val X k - y)) (fun si _ => n - (intOf si).toNat)
    case atStart =>
      refine ⟨1, upd (fun _ => 0) 0 s, rfl, Nat.le_refl _, hn1, (Chg.refl _ _).setCell bz oz _ (fun _ => ⟨rfl, by omega, by omega⟩), h0w.out, ?_, ?_⟩
      · intro i hi; obtain rfl : i = 0 := by omega
        rw [upd_same]; exact HQ.out.1
      · rw [val_one, val_one, upd_same, Hx0.out]; have := HQ.out.2.2; rw [Int.pow_succ, Int.pow_zero]; omega
    case round =>
      obtain ⟨k, Z, rfl, hk1, hk, H⟩ := hrel
      by_cases hlt : k < n
      · have hxk := fwd_keep HX.out.2.2 hlt H.out.1 (HX.out.1 k hlt)
        obtain ⟨⟨zk, hzk0⟩, hzf1⟩ := Hz.out k hlt
        have hzk1 := H.out.1.isCell (by rw [hzk0]; rfl)
        obtain ⟨zv, hzk⟩ := Option.isSome_iff_exists.1 hzk1
        have hzf := (H.out.1.frozen hzk0 (oz + k)).trans hzf1
        clear hzk0 hzf1 hzk1
        obtain ⟨xk, hxe⟩ : ∃ x, X k = x := ⟨_, rfl⟩
        rw [hxe] at hxk
        have Hxe := Lib.hid hxe
        have hxkw : Hid (U64 xk) := by rw [← hxe]; exact HX.out.2.1 k hlt
        clear hxe
        by_cases hmax : xk = 0
        · have Hmax := Lib.hid hmax
          have hb : (xk != 0) = false := by simp [hmax]
          clear hmax
          go_wp2
          go_roundw
          case rel =>
            refine ⟨k + 1, upd Z k 18446744073709551615, by go_num, by omega, hlt, chg_snoc H.out.1 _, H.out.2.1.snoc (by rw [hzk]; rfl), WF_upd H.out.2.2.1 ⟨by omega, by omega⟩, ?_⟩
            simp only [val, val_upd, upd_same, Hxe.out, Hmax.out, BB_succ]
            have := H.out.2.2.2
            unfold BB at *
            omega
          case measure => simp [intOf]; omega
        · have hb : (xk != 0) = true := by simp [hmax]
          have hxr : xk ≤ 18446744073709551615 := by have := hxkw.out.2; omega
          have hx0' : 1 ≤ xk := by have := hxkw.out.1; omega
          clear hmax
          have HC : Hid (Chg (zRow bz oz n) w (wr.setCell ⟨bz, oz + k, none⟩ (.int .u64 (xk - 1))) ∧ Words (wr.setCell ⟨bz, oz + k, none⟩ (.int .u64 (xk - 1))) bz oz (k + 1) (upd Z k (xk - 1)) ∧ WF (upd Z k (xk - 1)) (k + 1) ∧ val (upd Z k (xk - 1)) (k + 1) = val X (k + 1) - y) := by
            refine ⟨(chg_snoc H.out.1 _).mono (fun b o _ ⟨h1, h2, h3⟩ => ⟨h1, h2, by omega⟩), H.out.2.1.snoc (by rw [hzk]; rfl), WF_upd H.out.2.2.1 ⟨by omega, by omega⟩, ?_⟩
            simp only [val, val_upd, upd_same, Hxe.out]
            have := H.out.2.2.2
            rw [Int.sub_mul]; omega
          by_cases he : bz = bx ∧ oz = ox
          · have hpe : ∀ n, (binOp .neq 241 (.pointer (some ⟨bz, oz, none⟩)) (.pointer (some ⟨bx, ox, none⟩))).run Tryz.prog ((wr.setCell ⟨bz, oz + k, none⟩ (.int .u64 (xk - 1))).drewN n) = .ok (.bool false) ((wr.setCell ⟨bz, oz + k, none⟩ (.int .u64 (xk - 1))).drewN n) :=
              fun n => ptr_ne _ ((HP.out.1.chg H.out.1).chg ((chg_setCell wr bz (oz + k) (.int .u64 (xk - 1))).drewN n)) ((HP.out.2.chg H.out.1).chg ((chg_setCell wr bz (oz + k) (.int .u64 (xk - 1))).drewN n)) (by simp [he])
            have HE := Lib.hid he
            clear he
            go_wp2_with fail
            go_quiet (fail)
            go_wp2
            go_ret
            have he := HE.out
            refine ⟨0, rfl, svw_close (m := k + 1) (Z := upd Z k (xk - 1)) hlt HX.out.2.1 (HC.out.1.drewN _) HC.out.2.1 HC.out.2.2.1 ?_ HC.out.2.2.2⟩
            intro i hi
            have h1 := H.out.1.cell (HX.out.1 (k + 1 + i) (by omega)) (fun ⟨_, _, h3⟩ => by omega)
            rw [← he.1, ← he.2] at h1
            have h2 : (wr.setCell ⟨bz, oz + k, none⟩ (.int .u64 (xk - 1))).cell? ⟨bz, oz + (k + 1 + i), none⟩ = some (.int .u64 (X (k + 1 + i))) := by
              rw [cs_other (by omega)]; exact h1
            rw [Nat.add_assoc]
            exact h2
          · have hpe : ∀ n, (binOp .neq 241 (.pointer (some ⟨bz, oz, none⟩)) (.pointer (some ⟨bx, ox, none⟩))).run Tryz.prog ((wr.setCell ⟨bz, oz + k, none⟩ (.int .u64 (xk - 1))).drewN n) = .ok (.bool true) ((wr.setCell ⟨bz, oz + k, none⟩ (.int .u64 (xk - 1))).drewN n) :=
              fun n => ptr_ne _ ((HP.out.1.chg H.out.1).chg ((chg_setCell wr bz (oz + k) (.int .u64 (xk - 1))).drewN n)) ((HP.out.2.chg H.out.1).chg ((chg_setCell wr bz (oz + k) (.int .u64 (xk - 1))).drewN n)) (by simp [he])
            clear he
            have HR0 : Room (wr.setCell ⟨bz, oz + k, none⟩ (.int .u64 (xk - 1))) bz (oz + (k + 1)) (n - (k + 1)) ∧ Rd (wr.setCell ⟨bz, oz + k, none⟩ (.int .u64 (xk - 1))) (some ⟨bx, ox + (k + 1), none⟩) (n - (k + 1)) (fun i => X (k + 1 + i)) := by
              refine ⟨((Hz.out.drop (k + 1) (n - (k + 1)) (by omega)).chg H.out.1 (fun i hi ⟨_, _, h3⟩ => by omega)).setInt bz (oz + k) (xk - 1), Or.inr ⟨bx, ox + (k + 1), rfl, ?_⟩⟩
              refine ((HX.out.1.drop (k + 1) (n - (k + 1)) (by omega)).chg H.out.1 (fun i hi ⟨h1, h2, h3⟩ => ?_)).chg (chg_setCell wr bz (oz + k) (.int .u64 (xk - 1))) (fun i hi ⟨h1, h2⟩ => ?_)
              · rcases HX.out.2.2 with h | h | h <;> omega
              · rcases HX.out.2.2 with h | h | h <;> omega
            have HR := Lib.hid (room_drawn HR0.1 HR0.2)
            clear HR0
            have hs1 : IntKind.i64.wrap ((k : Int) + 1) = (k : Int) + 1 := IntWalk.i64_in _ (by omega)
            have hs2 : ((k : Int) + 1).toNat = k + 1 := by omega
            have hs3 : (0 : Int) ≤ (k : Int) + 1 := by omega
            have hs4 : (k : Int) + 1 ≤ (n : Int) := by omega
            by_cases h1 : k + 1 = n
            · have h1' : n = k + 1 := h1.symm
              have HK1 := Lib.hid (And.intro hk1 hk)
              clear hs1 hs2 hs3 hs4 h1 hk hk1
              subst h1'
              have hs1 : IntKind.i64.wrap ((k : Int) + 1) = (k : Int) + 1 := IntWalk.i64_in _ (by omega)
              have hs2 : ((k : Int) + 1).toNat = k + 1 := by omega
              have hs3 : (0 : Int) ≤ (k : Int) + 1 := by omega
              have Hfin := Lib.hid (show ∀ W : World, W.heap = (wr.setCell ⟨bz, oz + k, none⟩ (.int .u64 (xk - 1))).heap → W.os = wr.os → W.tape = wr.tape → W.output = wr.output → SVWPost w bz oz (k + 1) X y 0 W from fun W e1 e2 e3 e4 => by
                have kk : Chg zNone (wr.setCell ⟨bz, oz + k, none⟩ (.int .u64 (xk - 1))) W := ⟨e2, e3, e4, by rw [e1]; exact Nat.le_refl _, fun b _ _ => by rw [e1], fun b c e fr h => ⟨c, by rw [e1]; exact h, rfl, fun _ _ => rfl⟩⟩
                exact svw_close (m := k + 1) (Z := upd Z k (xk - 1)) (Nat.le_refl _) HX.out.2.1 (HC.out.1.trans kk (fun _ _ _ h => h.elim)) (HC.out.2.1.chg kk (fun _ _ h => h)) HC.out.2.2.1 (fun i hi => by omega) HC.out.2.2.2)
              rcases Nat.lt_or_ge (k + 1) cz with c1 | c1
              · have c1' : ¬ cz = k + 1 := by clear hs1 hs2 hs3; omega
                rcases Nat.lt_or_ge (k + 1) cx with c2 | c2
                · have c2' : ¬ cx = k + 1 := by clear hs1 hs2 hs3; omega
                  go_wp2_with fail
                  go_quiet (fail)
                  go_wp2_with fail
                  go_region_law (refine step_copy_zero rfl (.tmp 69) (.tmp 73) 119 119 rfl Tryz.underlying119 (some ⟨bz, oz + (k + 1), none⟩) 0 (cz - (k + 1)) (some ⟨bx, ox + (k + 1), none⟩) 0 (cx - (k + 1)) (by simp [go_sem]) (by simp [go_sem]) rfl ?_)
                  all_goals (clear hs1 hs2 hs3; go_wp2; go_ret; exact ⟨0, rfl, Hfin.out _ rfl rfl rfl rfl⟩)
                · have c2' : cx = k + 1 := by clear hs1 hs2 hs3; omega
                  go_wp2_with fail
                  go_quiet (fail)
                  go_wp2_with fail
                  go_region_law (refine step_copy_zero rfl (.tmp 69) (.tmp 73) 119 119 rfl Tryz.underlying119 (some ⟨bz, oz + (k + 1), none⟩) 0 (cz - (k + 1)) (some ⟨bx, ox, none⟩) 0 0 (by simp [go_sem]) (by simp [go_sem]) rfl ?_)
                  all_goals (clear hs1 hs2 hs3; go_wp2; go_ret; exact ⟨0, rfl, Hfin.out _ rfl rfl rfl rfl⟩)
              · have c1' : cz = k + 1 := by clear hs1 hs2 hs3; omega
                rcases Nat.lt_or_ge (k + 1) cx with c2 | c2
                · have c2' : ¬ cx = k + 1 := by clear hs1 hs2 hs3; omega
                  go_wp2_with fail
                  go_quiet (fail)
                  go_wp2_with fail
                  go_region_law (refine step_copy_zero rfl (.tmp 69) (.tmp 73) 119 119 rfl Tryz.underlying119 (some ⟨bz, oz, none⟩) 0 0 (some ⟨bx, ox + (k + 1), none⟩) 0 (cx - (k + 1)) (by simp [go_sem]) (by simp [go_sem]) rfl ?_)
                  all_goals (clear hs1 hs2 hs3; go_wp2; go_ret; exact ⟨0, rfl, Hfin.out _ rfl rfl rfl rfl⟩)
                · have c2' : cx = k + 1 := by clear hs1 hs2 hs3; omega
                  go_wp2_with fail
                  go_quiet (fail)
                  go_wp2_with fail
                  go_region_law (refine step_copy_zero rfl (.tmp 69) (.tmp 73) 119 119 rfl Tryz.underlying119 (some ⟨bz, oz, none⟩) 0 0 (some ⟨bx, ox, none⟩) 0 0 (by simp [go_sem]) (by simp [go_sem]) rfl ?_)
                  all_goals (clear hs1 hs2 hs3; go_wp2; go_ret; exact ⟨0, rfl, Hfin.out _ rfl rfl rfl rfl⟩)
            · have c1 : ¬ cz = k + 1 := by omega
              have c2 : ¬ cx = k + 1 := by omega
              go_wp2_with fail
              go_quiet (fail)
              go_wp2_with fail
              go_region_law (refine step_copy_word rfl (.tmp 69) (.tmp 73) 119 119 rfl Tryz.underlying119 bz (oz + (k + 1)) (n - (k + 1)) (cz - (k + 1)) (some ⟨bx, ox + (k + 1), none⟩) (n - (k + 1)) (cx - (k + 1)) (n - (k + 1)) (fun i => X (k + 1 + i)) (by simp [go_sem]) (by simp [go_sem]) (Nat.min_self _).symm (HR.out _).1 (HR.out _).2 ?_; intro w2 hw2; have HW := Lib.hid hw2; clear hw2)
              all_goals
                clear hs1 hs2 hs3 hs4
                go_wp2
                go_ret
                refine ⟨0, rfl, svw_close (m := k + 1) (Z := upd Z k (xk - 1)) hlt HX.out.2.1 ?_ ?_ HC.out.2.2.1 HW.out.2.1 HC.out.2.2.2⟩
                · exact (((HC.out.1.drewN _).drew).trans HW.out.1 (fun b o _ ⟨h1, h2, h3⟩ => ⟨h1, by omega, by omega⟩))
                · exact Words.chg (w := ((wr.setCell ⟨bz, oz + k, none⟩ (.int .u64 (xk - 1))).drewN nq).drew) HC.out.2.1 HW.out.1 (fun i hi ⟨h1, h2, h3⟩ => by omega)
      · have hkn : Hid (k = n) := by unfold Hid; omega
        go_wp2
        go_ret
        have e := hkn.out
        subst e
        exact ⟨1, rfl, Z, H.out.1, H.out.2.1, H.out.2.2.1, by omega, by have := H.out.2.2.2; omega⟩
end Go.Proofs.YtmgfajamanakcaaGreatDoor
