/- Part of the proof of FnParse: what the functions that it reaches do, as contracts. Conditions: those that each theorem names. -/
import Derived.Test.YtmgfajamanakcaaGreatDoorD09
import Derived.Test.YtmgfajamanakcaaGreatDoorD05
namespace Go.Proofs.YtmgfajamanakcaaGreatDoor
set_option linter.unusedVariables false
set_option linter.unusedSimpArgs false
open Go.RowKit
set_option maxRecDepth 100000
def Place (bx ox xn b o c : Nat) : Prop := (bx = b ∧ ox = o) ∨ bx ≠ b ∨ ox + xn ≤ o ∨ o + c ≤ ox
theorem place_of {w : World} {az : Option Addr} {zc b o c bx ox xn : Nat} (hh : Home w az zc (some ⟨b, o, none⟩) c) (ha : Apart az zc (some ⟨bx, ox, none⟩) xn) (hb : bx < w.heap.size) (hx : 0 < xn) (hc : 0 < c) : Place bx ox xn b o c := by
  rcases hh with ⟨e1, e2⟩ | ⟨b', o', e1, e2⟩
  · rcases ha with e3 | e3
    · rw [← e1] at e3; injection e3 with e3; injection e3 with e3 e4; exact Or.inl ⟨e3, e4⟩
    · right
      by_cases hbb : bx = b
      · right
        subst hbb
        by_cases h1 : ox + xn ≤ o
        · exact Or.inl h1
        · right
          by_cases h2 : o + c ≤ ox
          · exact h2
          · exfalso
            by_cases h3 : o ≤ ox
            · exact e3 bx ox 0 rfl hx ⟨o, e1.symm, by omega, by omega⟩
            · exact e3 bx ox (o - ox) rfl (by omega) ⟨o, e1.symm, by omega, by omega⟩
      · exact Or.inl hbb
  · injection e1 with e1; injection e1 with e1; exact Or.inr (Or.inl (by omega))
theorem Place.fwd {bx ox xn b o c q m : Nat} (h : Place bx ox xn b o c) (hq : q + m ≤ xn) (hm : q + m ≤ c) : Fwd bx (ox + q) b (o + q) m := by
  rcases h with ⟨h1, h2⟩ | h | h | h
  · exact Or.inr (Or.inl (by omega))
  · exact Or.inl h
  · exact Or.inr (Or.inr (by omega))
  · exact Or.inr (Or.inl (by omega))
theorem Place.fwd0 {bx ox xn b o c m : Nat} (h : Place bx ox xn b o c) (hq : m ≤ xn) (hm : m ≤ c) : Fwd bx ox b o m := by
  have := h.fwd (q := 0) (m := m) (by omega) (by omega); simpa using this
theorem Place.out {bx ox xn b o c q i : Nat} (h : Place bx ox xn b o c) (hq : q ≤ c) (hi : q ≤ i) (hx : i < xn) : ¬ zRow b o q bx (ox + i) := by
  rintro ⟨h1, h2, h3⟩
  rcases h with ⟨h4, h5⟩ | h | h | h <;> omega
theorem set_natres {w : World} {az : Option Addr} {zc n : Nat} {X : Nat → Int} {v : Int} {e : Ending} {w' : World} (h : SetRes w az zc n X e w') (hw : WF X n) (hn : Norm X n) (hv : val X n = v) : NatRes w az zc v e w' := by
  obtain ⟨a, c, h1, h2, h3, h4, h5, h6⟩ := h
  exact ⟨a, n, c, X, h1, h2, h3, h4, hw, hn, hv, h5, h6⟩
theorem NatIn.drew {w : World} {a : Option Addr} {n c : Nat} {X : Nat → Int} (h : NatIn w a n c X) : NatIn w.drew a n c X := by
  have kk : Chg zNone w w.drew := (Chg.refl zNone w).drew
  exact ⟨rd_of_chg h.rd kk, h.wf, h.le, h.small, h.aok.chg kk⟩
theorem NatIn.pb {w : World} {b o n c : Nat} {X : Nat → Int} (h : NatIn w (some ⟨b, o, none⟩) n c X) : PB w b := by
  rcases h.aok with ⟨h, _⟩ | ⟨b', o', h, hp, _⟩
  · cases h
  · injection h with h; injection h with h1 _; rw [h1]; exact hp
set_option maxHeartbeats 4000000 in
theorem add_ge (az ax ay : Option Addr) (zl zc xn xc yn yc : Nat) (X Y : Nat → Int) (w : World) (hz : ZOK w az zc) (hx : NatIn w ax xn xc X) (hy : NatIn w ay yn yc Y) (hnx : Norm X xn) (hax : Apart az zc ax xn) (hay : Apart az zc ay yn) (hyx : yn ≤ xn) :
    Calls Tryz.prog 107 #[.slice az zl zc, .slice ax xn xc, .slice ay yn yc] w (NatRes w az zc (val X xn + val Y yn)) := by
  have Hz := Lib.hid hz
  have Hx := Lib.hid hx
  have Hy := Lib.hid hy
  have Ha := Lib.hid (And.intro hax hay)
  have Hnx := Lib.hid hnx
  have hxn := hx.small
  have hzc := hz.cap
  have hdx : decide (xn < yn) = false := by simp; omega
  clear hz hx hy hax hay hnx
  by_cases hx0 : xn = 0
  · obtain rfl : yn = 0 := by omega
    subst hx0
    go_enter Tryz.func107, Tryz.ntmps107
    go_wp2
    go_ret
    exact ⟨az, 0, zc, fun _ => 0, rfl, Nat.zero_le _, Hz.out, Or.inl rfl, fun i hi => by omega, Or.inl rfl, by simp [val], Or.inl ⟨rfl, rfl⟩, Chg.refl _ _⟩
  · have hxb : ((xn : Int) == 0) = false := by simp [hx0]
    by_cases hy0 : yn = 0
    · subst hy0
      go_enter Tryz.func107, Tryz.ntmps107
      go_wp2_with fail
      refine (set_any az ax zl zc xn xc X _ Hz.out Hx.out.rd Hx.out.le (by omega)).mono ?_
      rintro e w1 k
      obtain ⟨a, n, c, Z, rfl, k3⟩ := set_natres (v := val X xn + val Y 0) k Hx.out.wf Hnx.out (by simp [val])
      have HK3 := Lib.hid k3
      clear k k3
      go_wp2
      go_ret
      exact ⟨a, n, c, Z, rfl, HK3.out⟩
    · have hyb : ((yn : Int) == 0) = false := by simp [hy0]
      obtain ⟨bx, ox, rfl, hX⟩ := Hx.out.words (by omega)
      obtain ⟨bY, oY, rfl, hY⟩ := Hy.out.words (by omega)
      have Hb := Lib.hid (And.intro (lt_of_cell (hX 0 (by omega))) (lt_of_cell (hY 0 (by omega))))
      have HX := Lib.hid hX
      have HY := Lib.hid hY
      have hxc := Hx.out.le
      have hyc := Hy.out.le
      clear hX hY
      go_enter Tryz.func107, Tryz.ntmps107
      go_wp2_with fail
      rw [show ((xn : Int) + 1) = ((xn + 1 : Nat) : Int) from by omega]
      refine (make_any az zl zc (xn + 1) _ Hz.out (by omega)).mono ?_
      rintro e w1 ⟨a, c, rfl, h1, h2, h3, h4⟩
      obtain ⟨b, o, rfl, hb1, hroom⟩ := h2.room (by omega)
      have hcap := h2.cap
      have H := Lib.hid (And.intro h1 (And.intro h2 (And.intro h3 (And.intro h4 (And.intro hb1 hroom)))))
      have h1' : xn + 1 ≤ c := h1
      have HPx := Lib.hid (place_of h3 Ha.out.1 Hb.out.1 (by omega) (by omega))
      have HPy := Lib.hid (place_of h3 Ha.out.2 Hb.out.2 (by omega) (by omega))
      clear h1 h2 h3 h4 hroom hb1
      have HC := Lib.hid (addVV_any bx ox bY oY b o yn xc yc c X Y w1.drew (by omega) ((HX.out.chg H.out.2.2.2.1.drew (fun _ _ h => h)).le (by omega)) (Hx.out.wf.le (by omega)) (HY.out.chg H.out.2.2.2.1.drew (fun _ _ h => h)) Hy.out.wf (H.out.2.2.2.2.2.le (by omega)) (HPx.out.fwd0 (by omega) (by omega)) (HPy.out.fwd0 (by omega) (by omega)))
      have g1 : (0 : Int) ≤ (yn : Int) ∧ (yn : Int) ≤ (c : Int) := by omega
      have g2 : (yn : Int) ≤ (c : Int) := by omega
      have g3 : (yn : Int) ≤ (xc : Int) := by omega
      have g4 : (yn : Int) ≤ (yc : Int) := by omega
      go_wp2_with fail
      go_region_with (go_at_call 171; refine HC.out.mono ?_; rintro e w' ⟨c1, rfl, Z1, q⟩; have HQ := Lib.hid q; clear q)
      clear g1 g2 g3 g4
      by_cases he : yn = xn
      · have hgt : decide (yn < xn) = false := by simp; omega
        have hgt2 : decide ((yn : Int) < (xn : Int)) = false := by simp; omega
        have Hn := Lib.hid he
        obtain ⟨⟨z0, hz0⟩, hf0⟩ := H.out.2.2.2.2.2 xn (by omega)
        have hz1 := HQ.out.1.cell (w := w1.drew) hz0 (fun ⟨_, _, h3⟩ => by omega)
        have hf1 : w'.frozen? ⟨b, o + xn, none⟩ = false := by rw [HQ.out.1.frozen (w := w1.drew) hz0]; exact hf0
        have HF : Hid (Chg (zRow b o (xn + 1)) w1 (w'.setCell ⟨b, o + xn, none⟩ (.int .u64 c1)) ∧ Words (w'.setCell ⟨b, o + xn, none⟩ (.int .u64 c1)) b o (xn + 1) (upd Z1 xn c1) ∧ WF (upd Z1 xn c1) (xn + 1) ∧ val (upd Z1 xn c1) (xn + 1) = val X xn + val Y yn) := by
          have hq2 := HQ.out.2.1
          have hq3 := HQ.out.2.2.1
          have hq5 := HQ.out.2.2.2.2
          rw [he] at hq2 hq3 hq5
          refine ⟨(((Chg.refl _ w1).drew).trans HQ.out.1 (fun bb oo _ ⟨e1, e2, e3⟩ => ⟨e1, e2, by omega⟩)).setCell b (o + xn) _ (fun _ => ⟨rfl, by omega, by omega⟩), hq2.snoc (by rw [hz1]; rfl), WF_upd hq3 ⟨by have := HQ.out.2.2.2.1; omega, by have := HQ.out.2.2.2.1; omega⟩, ?_⟩
          simp only [val, val_upd, upd_same]
          rw [hq5, he]
        clear hz0 hf0 he
        go_wp2_with fail
        refine (norm_any (some ⟨b, o, none⟩) (xn + 1) c (upd Z1 xn c1) _ (Or.inr ⟨b, o, rfl, HF.out.2.1⟩) h1' hcap).mono ?_
        rintro e w3 ⟨i, rfl, n1, n2, n3, rfl⟩
        have HN := Lib.hid (And.intro n1 (And.intro n2 n3))
        clear n1 n2 n3
        go_wp2
        go_ret
        exact natres_close H.out HF.out.1 HF.out.2.1 HF.out.2.2.1 HF.out.2.2.2 HN.out.1 HN.out.2.1 HN.out.2.2
      · have hgt : decide (yn < xn) = true := by simp; omega
        have hgt2 : decide ((yn : Int) < (xn : Int)) = true := by simp; omega
        have k1 : Chg zNone w w1.drew := H.out.2.2.2.1.drew
        have hXq : Words w' bx (ox + yn) (xn - yn) (fun i => X (yn + i)) := ((HX.out.chg k1 (fun _ _ h => h)).drop yn (xn - yn) (by omega)).chg HQ.out.1 (fun i hi h => HPx.out.out (q := yn) (i := yn + i) (by omega) (by omega) (by omega) (by rwa [← Nat.add_assoc]))
        have hZq : Room w' b (o + yn) (xn - yn) := by
          have h1 : Room w1.drew b o c := H.out.2.2.2.2.2
          exact (h1.drop yn (xn - yn) (by omega)).chg HQ.out.1 (fun i hi ⟨_, _, h3⟩ => by omega)
        have hPb : PB w' b := (PB.chg (w := w1.drew) H.out.2.2.2.2.1 HQ.out.1)
        have hPx : PB w' bx := (Hx.out.pb.chg k1).chg HQ.out.1
        have kd : Chg zNone w' w'.drew := (Chg.refl _ _).drew
        have HD := Lib.hid (addVW_any bx (ox + yn) b (o + yn) (xn - yn) (xc - yn) (c - yn) (fun i => X (yn + i)) c1 w'.drew (by omega) (by omega) (hXq.chg kd (fun _ _ h => h)) (fun i hi => Hx.out.wf (yn + i) (by omega)) (hZq.chg kd (fun _ _ h => h)) (HPx.out.fwd (by omega) (by omega)) ⟨by have := HQ.out.2.2.2.1; omega, by have := HQ.out.2.2.2.1; omega⟩ (by omega) (by omega) (hPb.chg kd) (hPx.chg kd))
        clear hXq hZq hPb hPx kd k1
        obtain ⟨⟨z0, hz0⟩, hf0⟩ := H.out.2.2.2.2.2 xn (by omega)
        have Hz0 := Lib.hid (And.intro hz0 hf0)
        clear hz0 hf0
        have g1 : (yn : Int) ≤ (xn : Int) := by omega
        have g2 : (xn : Int) ≤ (c : Int) := by omega
        have g3 : ¬ c = yn := by omega
        have g4 : ¬ xc = yn := by omega
        have g5 : (0 : Int) ≤ (yn : Int) ∧ (yn : Int) ≤ (xn : Int) := by omega
        go_wp2_with fail
        go_region_with (go_at_call 172; refine HD.out.mono ?_; rintro e w'' ⟨c2, rfl, Z2, q⟩; have HR := Lib.hid q; clear q)
        clear g1 g2 g3 g4 g5
        have hz1 := HQ.out.1.cell (w := w1.drew) Hz0.out.1 (fun ⟨_, _, h3⟩ => by omega)
        have hz2 := HR.out.1.cell (w := w'.drew) hz1 (fun ⟨_, _, h3⟩ => by omega)
        have hf2 : w''.frozen? ⟨b, o + xn, none⟩ = false := by
          rw [HR.out.1.frozen (w := w'.drew) hz1]
          show w'.frozen? _ = false
          rw [HQ.out.1.frozen (w := w1.drew) Hz0.out.1]; exact Hz0.out.2
        clear hz1
        have HF : Hid (∃ Z, Chg (zRow b o (xn + 1)) w1 (w''.setCell ⟨b, o + xn, none⟩ (.int .u64 c2)) ∧ Words (w''.setCell ⟨b, o + xn, none⟩ (.int .u64 c2)) b o (xn + 1) Z ∧ WF Z (xn + 1) ∧ val Z (xn + 1) = val X xn + val Y yn) := by
          have hq2 : Words w'' b o yn Z1 := Words.chg (w := w'.drew) HQ.out.2.1 HR.out.1 (fun i hi ⟨_, h2, _⟩ => by omega)
          have hj := hq2.join HR.out.2.1
          rw [show yn + (xn - yn) = xn by omega] at hj
          have hwf : WF (fun i => if i < yn then Z1 i else Z2 (i - yn)) xn := fun i hi => by
            by_cases e : i < yn
            · simp only [e, if_true]; exact HQ.out.2.2.1 i e
            · simp only [e, if_false]; exact HR.out.2.2.1 _ (by omega)
          refine ⟨upd (fun i => if i < yn then Z1 i else Z2 (i - yn)) xn c2, ?_, hj.snoc (by rw [hz2]; rfl), WF_upd hwf ⟨by have := HR.out.2.2.2.1; omega, by have := HR.out.2.2.2.1; omega⟩, ?_⟩
          · have k2 : Chg (zRow b o (xn + 1)) w1 w' := ((Chg.refl _ w1).drew).trans HQ.out.1 (fun bb oo _ ⟨e1, e2, e3⟩ => ⟨e1, e2, by omega⟩)
            exact ((k2.drew).trans HR.out.1 (fun bb oo _ ⟨e1, e2, e3⟩ => ⟨e1, by omega, by omega⟩)).setCell b (o + xn) _ (fun _ => ⟨rfl, by omega, by omega⟩)
          · simp only [val, val_upd, upd_same]
            have ev : val (fun i => if i < yn then Z1 i else Z2 (i - yn)) (yn + (xn - yn)) = val Z1 yn + BB ^ yn * val Z2 (xn - yn) := by
              rw [val_add, val_congr (X := fun i => if i < yn then Z1 i else Z2 (i - yn)) (Y := Z1) (fun i hi => by simp only [hi, if_true])]
              rw [val_congr (X := fun i => (fun i => if i < yn then Z1 i else Z2 (i - yn)) (yn + i)) (Y := Z2) (fun i hi => by
                show (if yn + i < yn then Z1 (yn + i) else Z2 (yn + i - yn)) = Z2 i
                rw [if_neg (by omega)]; congr 1; omega)]
            have ex := val_add X yn (xn - yn)
            have ep : BB ^ (yn + (xn - yn)) = BB ^ yn * BB ^ (xn - yn) := Int.pow_add ..
            rw [show yn + (xn - yn) = xn by omega] at ev ex ep
            have h5 := HQ.out.2.2.2.2
            have h6 := HR.out.2.2.2.2
            rw [ev, ep]
            have h7 : BB ^ yn * (val Z2 (xn - yn) + c2 * BB ^ (xn - yn)) = BB ^ yn * (val (fun i => X (yn + i)) (xn - yn) + c1) := by rw [h6]
            rw [Int.mul_add, Int.mul_add] at h7
            grind
        obtain ⟨Z, HF⟩ := HF.out
        have HF := Lib.hid HF
        go_wp2_with fail
        refine (norm_any (some ⟨b, o, none⟩) (xn + 1) c Z _ (Or.inr ⟨b, o, rfl, HF.out.2.1⟩) h1' hcap).mono ?_
        rintro e w3 ⟨i, rfl, n1, n2, n3, rfl⟩
        have HN := Lib.hid (And.intro n1 (And.intro n2 n3))
        clear n1 n2 n3
        go_wp2
        go_ret
        exact natres_close H.out HF.out.1 HF.out.2.1 HF.out.2.2.1 HF.out.2.2.2 HN.out.1 HN.out.2.1 HN.out.2.2
theorem add_any (az ax ay : Option Addr) (zl zc xn xc yn yc : Nat) (X Y : Nat → Int) (w : World) (hz : ZOK w az zc) (hx : NatIn w ax xn xc X) (hy : NatIn w ay yn yc Y) (hnx : Norm X xn) (hny : Norm Y yn) (hax : Apart az zc ax xn) (hay : Apart az zc ay yn) :
    Calls Tryz.prog 107 #[.slice az zl zc, .slice ax xn xc, .slice ay yn yc] w (NatRes w az zc (val X xn + val Y yn)) := by
  by_cases h : xn < yn
  · have HC := Lib.hid (add_ge az ay ax zl zc yn yc xn xc Y X w hz hy hx hny hay hax (by omega))
    have hd : decide (xn < yn) = true := by simp [h]
    have Hv := Lib.hid (Int.add_comm (val Y yn) (val X xn))
    clear hz hx hy hax hay hnx hny
    go_enter Tryz.func107, Tryz.ntmps107
    go_wp2_with fail
    refine HC.out.mono ?_
    rintro e w1 k
    rw [Hv.out] at k
    obtain ⟨a, n, c, Z, rfl, k3⟩ := k
    have HK3 := Lib.hid k3
    clear k3
    go_wp2
    go_ret
    exact ⟨a, n, c, Z, rfl, HK3.out⟩
  · exact add_ge az ax ay zl zc xn xc yn yc X Y w hz hx hy hnx hax hay (by omega)
set_option maxHeartbeats 4000000 in
theorem sub_any (az ax ay : Option Addr) (zl zc xn xc yn yc : Nat) (X Y : Nat → Int) (w : World) (hz : ZOK w az zc) (hx : NatIn w ax xn xc X) (hy : NatIn w ay yn yc Y) (hnx : Norm X xn) (hax : Apart az zc ax xn) (hay : Apart az zc ay yn) (hny : Norm Y yn) (hge : val Y yn ≤ val X xn) :
    Calls Tryz.prog 109 #[.slice az zl zc, .slice ax xn xc, .slice ay yn yc] w (NatRes w az zc (val X xn - val Y yn)) := by
  have hyx : yn ≤ xn := norm_le hy.wf hny (Int.lt_of_le_of_lt hge (val_lt hx.wf))
  have Hge := Lib.hid hge
  clear hge hny
  have Hz := Lib.hid hz
  have Hx := Lib.hid hx
  have Hy := Lib.hid hy
  have Ha := Lib.hid (And.intro hax hay)
  have Hnx := Lib.hid hnx
  have hxn := hx.small
  have hzc := hz.cap
  have hdx : decide (xn < yn) = false := by simp; omega
  clear hz hx hy hax hay hnx
  by_cases hx0 : xn = 0
  · obtain rfl : yn = 0 := by omega
    subst hx0
    go_enter Tryz.func109, Tryz.ntmps109
    go_wp2
    go_ret
    exact ⟨az, 0, zc, fun _ => 0, rfl, Nat.zero_le _, Hz.out, Or.inl rfl, fun i hi => by omega, Or.inl rfl, by simp [val], Or.inl ⟨rfl, rfl⟩, Chg.refl _ _⟩
  · have hxb : ((xn : Int) == 0) = false := by simp [hx0]
    by_cases hy0 : yn = 0
    · subst hy0
      go_enter Tryz.func109, Tryz.ntmps109
      go_wp2_with fail
      refine (set_any az ax zl zc xn xc X _ Hz.out Hx.out.rd Hx.out.le (by omega)).mono ?_
      rintro e w1 k
      obtain ⟨a, n, c, Z, rfl, k3⟩ := set_natres (v := val X xn - val Y 0) k Hx.out.wf Hnx.out (by simp [val])
      have HK3 := Lib.hid k3
      clear k k3
      go_wp2
      go_ret
      exact ⟨a, n, c, Z, rfl, HK3.out⟩
    · have hyb : ((yn : Int) == 0) = false := by simp [hy0]
      obtain ⟨bx, ox, rfl, hX⟩ := Hx.out.words (by omega)
      obtain ⟨bY, oY, rfl, hY⟩ := Hy.out.words (by omega)
      have Hb := Lib.hid (And.intro (lt_of_cell (hX 0 (by omega))) (lt_of_cell (hY 0 (by omega))))
      have HX := Lib.hid hX
      have HY := Lib.hid hY
      have hxc := Hx.out.le
      have hyc := Hy.out.le
      clear hX hY
      go_enter Tryz.func109, Tryz.ntmps109
      go_wp2_with fail
      refine (make_any az zl zc xn _ Hz.out (by omega)).mono ?_
      rintro e w1 ⟨a, c, rfl, h1, h2, h3, h4⟩
      obtain ⟨b, o, rfl, hb1, hroom⟩ := h2.room (by omega)
      have hcap := h2.cap
      have H := Lib.hid (And.intro h1 (And.intro h2 (And.intro h3 (And.intro h4 (And.intro hb1 hroom)))))
      have h1' : xn ≤ c := h1
      have HPx := Lib.hid (place_of h3 Ha.out.1 Hb.out.1 (by omega) (by omega))
      have HPy := Lib.hid (place_of h3 Ha.out.2 Hb.out.2 (by omega) (by omega))
      clear h1 h2 h3 h4 hroom hb1
      have HC := Lib.hid (subVV_any bx ox bY oY b o yn xc yc c X Y w1.drew (by omega) ((HX.out.chg H.out.2.2.2.1.drew (fun _ _ h => h)).le (by omega)) (Hx.out.wf.le (by omega)) (HY.out.chg H.out.2.2.2.1.drew (fun _ _ h => h)) Hy.out.wf (H.out.2.2.2.2.2.le (by omega)) (HPx.out.fwd0 (by omega) (by omega)) (HPy.out.fwd0 (by omega) (by omega)))
      have g1 : (0 : Int) ≤ (yn : Int) ∧ (yn : Int) ≤ (c : Int) := by omega
      have g2 : (yn : Int) ≤ (c : Int) := by omega
      have g3 : (yn : Int) ≤ (xc : Int) := by omega
      have g4 : (yn : Int) ≤ (yc : Int) := by omega
      go_wp2_with fail
      go_region_with (go_at_call 173; refine HC.out.mono ?_; rintro e w' ⟨c1, rfl, Z1, q⟩; have HQ := Lib.hid q; clear q)
      clear g1 g2 g3 g4
      by_cases he : yn = xn
      · have hgt : decide (yn < xn) = false := by simp; omega
        have hgt2 : decide ((yn : Int) < (xn : Int)) = false := by simp; omega
        have Hn := Lib.hid he
        have HF : Hid (Chg (zRow b o xn) w1 w' ∧ Words w' b o xn Z1 ∧ WF Z1 xn ∧ val Z1 xn = val X xn - val Y yn) := by
          have hq2 := HQ.out.2.1
          have hq3 := HQ.out.2.2.1
          have hq5 := HQ.out.2.2.2.2
          have hge := Hge.out
          have hlt := val_lt hq3
          rw [he] at hq2 hq3 hq5 hge hlt
          have hc0 : c1 = 0 := by
            have h2 := HQ.out.2.2.2.1
            have h3 : c1 = 0 ∨ c1 = 1 := by omega
            rcases h3 with h3 | h3
            · exact h3
            · exfalso; rw [h3] at hq5; omega
          rw [hc0] at hq5
          rw [he]
          exact ⟨((Chg.refl _ w1).drew).trans HQ.out.1 (fun bb oo _ ⟨e1, e2, e3⟩ => ⟨e1, e2, by omega⟩), hq2, hq3, by omega⟩
        have hc0 : c1 = 0 := by
          have hq5 := HQ.out.2.2.2.2
          have hge := Hge.out
          have hlt := val_lt HQ.out.2.2.1
          rw [he] at hq5 hge hlt
          have h2 := HQ.out.2.2.2.1
          have h3 : c1 = 0 ∨ c1 = 1 := by omega
          rcases h3 with h3 | h3
          · exact h3
          · exfalso; rw [h3] at hq5; omega
        clear he
        subst hc0
        go_wp2_with fail
        refine (norm_any (some ⟨b, o, none⟩) xn c Z1 _ (Or.inr ⟨b, o, rfl, HF.out.2.1⟩) h1' hcap).mono ?_
        rintro e w3 ⟨i, rfl, n1, n2, n3, rfl⟩
        have HN := Lib.hid (And.intro n1 (And.intro n2 n3))
        clear n1 n2 n3
        go_wp2
        go_ret
        exact natres_close H.out HF.out.1 HF.out.2.1 HF.out.2.2.1 HF.out.2.2.2 HN.out.1 HN.out.2.1 HN.out.2.2
      · have hgt : decide (yn < xn) = true := by simp; omega
        have hgt2 : decide ((yn : Int) < (xn : Int)) = true := by simp; omega
        have k1 : Chg zNone w w1.drew := H.out.2.2.2.1.drew
        have hXq : Words w' bx (ox + yn) (xn - yn) (fun i => X (yn + i)) := ((HX.out.chg k1 (fun _ _ h => h)).drop yn (xn - yn) (by omega)).chg HQ.out.1 (fun i hi h => HPx.out.out (q := yn) (i := yn + i) (by omega) (by omega) (by omega) (by rwa [← Nat.add_assoc]))
        have hZq : Room w' b (o + yn) (xn - yn) := by
          have h1 : Room w1.drew b o c := H.out.2.2.2.2.2
          exact (h1.drop yn (xn - yn) (by omega)).chg HQ.out.1 (fun i hi ⟨_, _, h3⟩ => by omega)
        have hPb : PB w' b := (PB.chg (w := w1.drew) H.out.2.2.2.2.1 HQ.out.1)
        have hPx : PB w' bx := (Hx.out.pb.chg k1).chg HQ.out.1
        have kd : Chg zNone w' w'.drew := (Chg.refl _ _).drew
        have HD := Lib.hid (subVW_any bx (ox + yn) b (o + yn) (xn - yn) (xc - yn) (c - yn) (fun i => X (yn + i)) c1 w'.drew (by omega) (by omega) (hXq.chg kd (fun _ _ h => h)) (fun i hi => Hx.out.wf (yn + i) (by omega)) (hZq.chg kd (fun _ _ h => h)) (HPx.out.fwd (by omega) (by omega)) ⟨by have := HQ.out.2.2.2.1; omega, by have := HQ.out.2.2.2.1; omega⟩ (by omega) (by omega) (hPb.chg kd) (hPx.chg kd))
        clear hXq hZq hPb hPx kd k1
        have g1 : (yn : Int) ≤ (xn : Int) := by omega
        have g2 : (xn : Int) ≤ (c : Int) := by omega
        have g3 : ¬ c = yn := by omega
        have g4 : ¬ xc = yn := by omega
        have g5 : (0 : Int) ≤ (yn : Int) ∧ (yn : Int) ≤ (xn : Int) := by omega
        go_wp2_with fail
        go_region_with (go_at_call 174; refine HD.out.mono ?_; rintro e w'' ⟨c2, rfl, Z2, q⟩; have HR := Lib.hid q; clear q)
        clear g1 g2 g3 g4 g5
        have HF : Hid (c2 = 0 ∧ ∃ Z, Chg (zRow b o xn) w1 w'' ∧ Words w'' b o xn Z ∧ WF Z xn ∧ val Z xn = val X xn - val Y yn) := by
          have hq2 : Words w'' b o yn Z1 := Words.chg (w := w'.drew) HQ.out.2.1 HR.out.1 (fun i hi ⟨_, h2, _⟩ => by omega)
          have hj := hq2.join HR.out.2.1
          rw [show yn + (xn - yn) = xn by omega] at hj
          have hwf : WF (fun i => if i < yn then Z1 i else Z2 (i - yn)) xn := fun i hi => by
            by_cases e : i < yn
            · simp only [e, if_true]; exact HQ.out.2.2.1 i e
            · simp only [e, if_false]; exact HR.out.2.2.1 _ (by omega)
          have ev : val (fun i => if i < yn then Z1 i else Z2 (i - yn)) (yn + (xn - yn)) = val Z1 yn + BB ^ yn * val Z2 (xn - yn) := by
            rw [val_add, val_congr (X := fun i => if i < yn then Z1 i else Z2 (i - yn)) (Y := Z1) (fun i hi => by simp only [hi, if_true])]
            rw [val_congr (X := fun i => (fun i => if i < yn then Z1 i else Z2 (i - yn)) (yn + i)) (Y := Z2) (fun i hi => by
              show (if yn + i < yn then Z1 (yn + i) else Z2 (yn + i - yn)) = Z2 i
              rw [if_neg (by omega)]; congr 1; omega)]
          have ex := val_add X yn (xn - yn)
          have ep : BB ^ (yn + (xn - yn)) = BB ^ yn * BB ^ (xn - yn) := Int.pow_add ..
          rw [show yn + (xn - yn) = xn by omega] at ev ex ep
          have h5 := HQ.out.2.2.2.2
          have h6 := HR.out.2.2.2.2
          have h7 : BB ^ yn * (val Z2 (xn - yn) - c2 * BB ^ (xn - yn)) = BB ^ yn * (val (fun i => X (yn + i)) (xn - yn) - c1) := by rw [h6]
          rw [Int.mul_sub, Int.mul_sub] at h7
          have h8 : val (fun i => if i < yn then Z1 i else Z2 (i - yn)) xn - c2 * BB ^ xn = val X xn - val Y yn := by rw [ev, ep]; grind
          have hc2 : c2 = 0 := by
            have h2 := HR.out.2.2.2.1
            have h3 : c2 = 0 ∨ c2 = 1 := by omega
            rcases h3 with h3 | h3
            · exact h3
            · exfalso
              have := val_lt hwf
              have := Hge.out
              rw [h3] at h8; omega
          refine ⟨hc2, _, ?_, hj, hwf, by rw [hc2] at h8; omega⟩
          have k2 : Chg (zRow b o xn) w1 w' := ((Chg.refl _ w1).drew).trans HQ.out.1 (fun bb oo _ ⟨e1, e2, e3⟩ => ⟨e1, e2, by omega⟩)
          exact (k2.drew).trans HR.out.1 (fun bb oo _ ⟨e1, e2, e3⟩ => ⟨e1, by omega, by omega⟩)
        obtain ⟨hc2, Z, hHF⟩ := HF.out
        have HG := Lib.hid hHF
        clear HF hHF
        subst hc2
        go_wp2_with fail
        refine (norm_any (some ⟨b, o, none⟩) xn c Z _ (Or.inr ⟨b, o, rfl, HG.out.2.1⟩) h1' hcap).mono ?_
        rintro e w3 ⟨i, rfl, n1, n2, n3, rfl⟩
        have HN := Lib.hid (And.intro n1 (And.intro n2 n3))
        clear n1 n2 n3
        go_wp2
        go_ret
        exact natres_close H.out HG.out.1 HG.out.2.1 HG.out.2.2.1 HG.out.2.2.2 HN.out.1 HN.out.2.1 HN.out.2.2
end Go.Proofs.YtmgfajamanakcaaGreatDoor
