/-
  nat.mul below Karatsuba's bound. Conditions: the shorter factor has fewer than 40 words, each factor lies at z's own place or apart from z.
-/
import Derived.Test.YtmgfajamanakcaaGreatDoorAl
import Derived.Test.YtmgfajamanakcaaGreatDoorRs
namespace Go.Proofs.YtmgfajamanakcaaGreatDoor
open Go.RowKit
set_option maxRecDepth 100000
set_option linter.unusedVariables false
/-- x's words are none of z's cells. -/
def Disj (az : Option Addr) (zc : Nat) (ax : Option Addr) (xn : Nat) : Prop := ∀ b o i, ax = some ⟨b, o, none⟩ → i < xn → ¬ zAddr az zc b (o + i)
/-- x is z itself, or lies apart from z. -/
def Own (az : Option Addr) (zc : Nat) (ax : Option Addr) (xn xc : Nat) : Prop := (ax = az ∧ xc = zc) ∨ Disj az zc ax xn
theorem Own.apart {az ax : Option Addr} {zc xn xc : Nat} (h : Own az zc ax xn xc) : Apart az zc ax xn := h.imp (fun h => h.1) id
theorem disj_none {ax : Option Addr} {xn : Nat} : Disj none 0 ax xn := by rintro b o i _ _ ⟨p, h, _⟩; cases h
theorem Own.disj {w : World} {az ax : Option Addr} {zc xn xc : Nat} (h : Own az zc ax xn xc) (hz : ZOK w az zc) (ha : aliasB az zc ax xc = false) : Disj az zc ax xn := by
  rcases h with ⟨rfl, rfl⟩ | h
  · rcases hz with ⟨rfl, rfl⟩ | ⟨b, o, rfl, _⟩
    · exact disj_none
    · rintro b1 o1 i h1 hi ⟨p, h2, h3, h4⟩
      by_cases h0 : xc = 0
      · omega
      · unfold aliasB at ha
        simp at ha
        omega
  · exact h
/-- A number that is read: its words, its length and capacity. -/
structure NatIn (w : World) (a : Option Addr) (n c : Nat) (X : Nat → Int) : Prop where
  rd : Rd w a n X
  wf : WF X n
  le : n ≤ c
  small : n < 549755813888
  aok : AOK w a c
theorem NatIn.words {w : World} {a : Option Addr} {n c : Nat} {X : Nat → Int} (h : NatIn w a n c X) (hn : 0 < n) : ∃ b o, a = some ⟨b, o, none⟩ ∧ Words w b o n X := by
  rcases h.rd with h | h
  · omega
  · exact h
theorem AOK.chg {Z : Zone} {w w' : World} {a : Option Addr} {c : Nat} (h : AOK w a c) (k : Chg Z w w') : AOK w' a c := by
  rcases h with h | ⟨b, o, h, hp, hc⟩
  · exact Or.inl h
  · exact Or.inr ⟨b, o, h, hp.chg k, hc⟩
/-- Behind a make, x's words lie apart from the new row. -/
theorem disj_home {w : World} {az : Option Addr} {zc b o c bx ox xn : Nat} (hh : Home w az zc (some ⟨b, o, none⟩) c) (hd : Disj az zc (some ⟨bx, ox, none⟩) xn) (hb : bx < w.heap.size) {m : Nat} (hm : m ≤ c) : ∀ i, i < xn → ¬ zRow b o m bx (ox + i) := by
  rintro i hi ⟨h1, h2, h3⟩
  rcases hh with ⟨e1, e2⟩ | ⟨b', o', e1, e2⟩
  · exact hd bx ox i rfl hi ⟨o, by rw [← e1, h1], h2, by omega⟩
  · injection e1 with e1; injection e1 with e1 _; omega
def MulCut (w : World) (az : Option Addr) (zc : Nat) (ax : Option Addr) (xn : Nat) (ay : Option Addr) (yn : Nat) (s0 : Value) (wc : World) : Prop :=
  ∃ a' l' c', s0 = .slice a' l' c' ∧ (∃ n, wc = w.drewN n) ∧ Hid (((a' = az ∧ c' = zc) ∨ (a' = none ∧ c' = 0)) ∧ Disj a' c' ax xn ∧ Disj a' c' ay yn)
def MulGuard (w : World) (az : Option Addr) (zc : Nat) (ax : Option Addr) (xn : Nat) (ay : Option Addr) (yn : Nat) (s51 : Value) (wc : World) : Prop :=
  ∃ B, s51 = .bool B ∧ (∃ n, wc = w.drewN n) ∧ Hid (B = false → Disj az zc ax xn ∧ Disj az zc ay yn)
/-- A result for nil in z's place is one for z; a draw ahead counts for nothing. -/
theorem natres_nil {w : World} {n : Nat} {az a' : Option Addr} {zc c' : Nat} {v : Int} {e : Ending} {w' : World} (h : (a' = az ∧ c' = zc) ∨ (a' = none ∧ c' = 0)) {p : Addr} {i cc : Nat} (he : e = .returned (.slice (some p) i cc)) (k : NatRes (w.drewN n) a' c' v e w') : NatRes w az zc v e w' := by
  obtain ⟨a, m, c, X, k0, k1, k2, k3, k4, k5, k6, k7, k8⟩ := k
  refine ⟨a, m, c, X, k0, k1, k2, k3, k4, k5, k6, ?_, ?_⟩
  · rcases h with ⟨rfl, rfl⟩ | ⟨rfl, rfl⟩
    · exact k7
    · rcases k7 with ⟨e1, e2⟩ | k7
      · subst e1
        rw [k0] at he
        injection he with he
        injection he with he
        cases he
      · exact Or.inr k7
  · have k9 : Chg (zAddr a' c') w w' := ⟨k8.os, k8.tape, k8.output, k8.size, k8.same, k8.cells⟩
    rcases h with ⟨rfl, rfl⟩ | ⟨rfl, rfl⟩
    · exact k9
    · exact k9.mono (fun b o _ ⟨p, h, _⟩ => by cases h)
theorem NatRes.val_eq {w : World} {az : Option Addr} {zc : Nat} {v v' : Int} {e : Ending} {w' : World} (h : NatRes w az zc v e w') (hv : v = v') : NatRes w az zc v' e w' := by rw [← hv]; exact h
set_option maxHeartbeats 4000000 in
theorem mul_ge (az ax ay : Option Addr) (zl zc xn xc yn yc : Nat) (X Y : Nat → Int) (stk : Value) (w : World) (hz : ZOK w az zc) (hx : NatIn w ax xn xc X) (hy : NatIn w ay yn yc Y) (hox : Own az zc ax xn xc) (hoy : Own az zc ay yn yc)
    (hyx : yn ≤ xn) (h40 : yn < 40) (hK : w.cell? ⟨1, 0, none⟩ = some (.int .i64 40)) :
    Calls Tryz.prog 106 #[.slice az zl zc, stk, .slice ax xn xc, .slice ay yn yc] w (NatRes w az zc (val X xn * val Y yn)) := by
  have Hz := Lib.hid hz
  have Hx := Lib.hid hx
  have Hy := Lib.hid hy
  have HK := Lib.hid hK
  have Ho := Lib.hid (And.intro hox hoy)
  have hxn := hx.small
  have hzc := hz.cap
  clear hz hx hy hK hox hoy
  by_cases h0 : yn = 0
  · subst h0
    have hb : ((xn : Int) == 0 || true) = true := by simp
    by_cases hx0 : xn = 0
    · subst hx0
      go_enter Tryz.func106, Tryz.ntmps106
      go_wp2
      go_ret
      exact ⟨az, 0, zc, fun _ => 0, rfl, Nat.zero_le _, Hz.out, Or.inl rfl, fun i hi => by omega, Or.inl rfl, by simp [val], Or.inl ⟨rfl, rfl⟩, Chg.refl _ _⟩
    · have hxb : ((xn : Int) == 0) = false := by simp [hx0]
      go_enter Tryz.func106, Tryz.ntmps106
      go_wp2
      go_ret
      exact ⟨az, 0, zc, fun _ => 0, rfl, Nat.zero_le _, Hz.out, Or.inl rfl, fun i hi => by omega, Or.inl rfl, by simp [val], Or.inl ⟨rfl, rfl⟩, Chg.refl _ _⟩
  · have hxb : ((xn : Int) == 0) = false := by simp; omega
    have hyb : ((yn : Int) == 0) = false := by simp; omega
    obtain ⟨bx, ox, rfl, hX⟩ := Hx.out.words (by omega)
    obtain ⟨bY, oY, rfl, hY⟩ := Hy.out.words (by omega)
    have hbx : bx < w.heap.size := lt_of_cell (hX 0 (by omega))
    have hby : bY < w.heap.size := lt_of_cell (hY 0 (by omega))
    have HX := Lib.hid hX
    have HY := Lib.hid hY
    have Hb := Lib.hid (And.intro hbx hby)
    clear hX hY hbx hby
    by_cases h1 : yn = 1
    · subst h1
      obtain ⟨y, hy⟩ : ∃ y, Y 0 = y := ⟨_, rfl⟩
      have hcy := HY.out 0 (by omega)
      rw [hy] at hcy
      simp only [Nat.add_zero] at hcy
      have Hyv := Lib.hid hy
      clear hy
      go_enter Tryz.func106, Tryz.ntmps106
      go_wp2_with fail
      refine (mulAddWW_any az (some ⟨bx, ox, none⟩) zl zc xn xc X y 0 _ Hz.out Hx.out.rd Hx.out.wf Hx.out.le (by omega) Ho.out.1.apart (by rw [← Hyv.out]; exact Hy.out.wf 0 (by omega)) ⟨by omega, by omega⟩).mono ?_
      rintro e w1 k
      have k2 := k.val_eq (v' := val X xn * val Y 1) (by rw [val_one, Hyv.out]; simp)
      obtain ⟨a, n, c, Z, rfl, k3⟩ := k2
      have HK3 := Lib.hid k3
      clear k k3
      go_wp2
      go_ret
      exact ⟨a, n, c, Z, rfl, HK3.out⟩
    · have hyb1 : ((yn : Int) == 1) = false := by simp; omega
      have hdx : decide (xn < yn) = false := by simp; omega
      go_enter Tryz.func106, Tryz.ntmps106
      go_upto_region 9 with fail
      go_cut [51] (MulGuard w az zc (some ⟨bx, ox, none⟩) xn (some ⟨bY, oY, none⟩) yn)
      case first =>
        go_wp2_with fail
        refine (alias_any az (some ⟨bx, ox, none⟩) zl zc xn xc _ Hz.out.aok Hx.out.aok).mono ?_
        rintro e w1 ⟨rfl, n1, rfl⟩
        obtain ⟨B1, hB1⟩ : ∃ B, aliasB az zc (some ⟨bx, ox, none⟩) xc = B := ⟨_, rfl⟩
        rw [hB1]
        have HB1 := Lib.hid hB1
        clear hB1
        cases B1 with
        | true =>
          go_wp2
          go_meet
          exact ⟨true, rfl, ⟨n1, rfl⟩, fun h => by cases h⟩
        | false =>
          go_wp2_with fail
          refine (alias_any az (some ⟨bY, oY, none⟩) zl zc yn yc (w.drewN n1) (show AOK (w.drewN n1) az zc from Hz.out.aok) (show AOK (w.drewN n1) _ yc from Hy.out.aok)).mono ?_
          rintro e w1 ⟨rfl, n2, rfl⟩
          obtain ⟨B2, hB2⟩ : ∃ B, aliasB az zc (some ⟨bY, oY, none⟩) yc = B := ⟨_, rfl⟩
          rw [hB2]
          have HB2 := Lib.hid hB2
          clear hB2
          go_wp2
          go_meet
          exact ⟨B2, rfl, ⟨n1 + n2, by simp⟩, fun h => by subst h; exact ⟨Ho.out.1.disj Hz.out HB1.out, Ho.out.2.disj Hz.out HB2.out⟩⟩
      case rest =>
        obtain ⟨B, rfl, ⟨n, rfl⟩, HB⟩ := hcut
        go_upto_if 51 with fail
        go_cut [0] (MulCut w az zc (some ⟨bx, ox, none⟩) xn (some ⟨bY, oY, none⟩) yn)
        case first =>
          cases B with
          | true =>
            go_wp2
            go_meet
            exact ⟨none, 0, 0, rfl, ⟨n, rfl⟩, Or.inr ⟨rfl, rfl⟩, disj_none, disj_none⟩
          | false =>
            go_wp2
            go_meet
            exact ⟨az, zl, zc, rfl, ⟨n, rfl⟩, Or.inl ⟨rfl, rfl⟩, (HB.out (by first | rfl | trivial)).1, (HB.out (by first | rfl | trivial)).2⟩
        case rest =>
          obtain ⟨a', l', c', rfl, ⟨n, rfl⟩, HC⟩ := hcut
          have hKn : (w.drewN n).cell? ⟨1, 0, none⟩ = some (.int .i64 40) := HK.out
          have Hz' : Hid (ZOK (w.drewN n) a' c') := by
            rcases HC.out.1 with ⟨rfl, rfl⟩ | ⟨rfl, rfl⟩
            · exact Hz.out
            · exact Or.inl ⟨rfl, rfl⟩
          go_wp2_with fail
          rw [show ((xn : Int) + (yn : Int)) = ((xn + yn : Nat) : Int) from by omega]
          refine (make_any a' l' c' (xn + yn) _ Hz'.out (by omega)).mono ?_
          rintro e w1 ⟨a, c, rfl, h1, h2, h3, h4⟩
          obtain ⟨b, o, rfl, hb1, hroom⟩ := h2.room (by omega)
          have hcap := h2.cap
          have hK1 : w1.cell? ⟨1, 0, none⟩ = some (.int .i64 40) := h4.cell HK.out (fun h => h)
          have H := Lib.hid (And.intro h1 (And.intro h2 (And.intro h3 (And.intro h4 (And.intro hb1 hroom)))))
          have h1' : xn + yn ≤ c := h1
          clear h1 h2 h3 h4 hroom hb1 hKn
          go_wp2_with fail
          refine (basicMul_any bx ox bY oY b o xn yn xc yc (xn + yn) c X Y w1 (by omega) (by omega) (by omega) (by omega) (HX.out.chg (w := w.drewN n) H.out.2.2.2.1 (fun _ _ h => h)) Hx.out.wf (HY.out.chg (w := w.drewN n) H.out.2.2.2.1 (fun _ _ h => h)) Hy.out.wf (H.out.2.2.2.2.2.le h1') rfl h1'
            (disj_home (w := w.drewN n) H.out.2.2.1 HC.out.2.1 Hb.out.1 h1') (disj_home (w := w.drewN n) H.out.2.2.1 HC.out.2.2 Hb.out.2 h1')).mono ?_
          rintro e w2 ⟨⟨v, rfl⟩, Z, q1, q2, q3, q4⟩
          have HQ := Lib.hid (And.intro q1 (And.intro q2 (And.intro q3 q4)))
          clear q1 q2 q3 q4
          go_wp2_with fail
          refine (norm_any (some ⟨b, o, none⟩) (xn + yn) c Z _ (Or.inr ⟨b, o, rfl, HQ.out.2.1⟩) h1' hcap).mono ?_
          rintro e w3 ⟨i, rfl, n1, n2, n3, rfl⟩
          have HN := Lib.hid (And.intro n1 (And.intro n2 n3))
          clear n1 n2 n3
          go_wp2
          go_ret
          have hn := natres_close (w := w.drewN n) H.out HQ.out.1 HQ.out.2.1 HQ.out.2.2.1 HQ.out.2.2.2 HN.out.1 HN.out.2.1 HN.out.2.2
          exact natres_nil (n := n) HC.out.1 rfl hn
theorem mul_any (az ax ay : Option Addr) (zl zc xn xc yn yc : Nat) (X Y : Nat → Int) (stk : Value) (w : World) (hz : ZOK w az zc) (hx : NatIn w ax xn xc X) (hy : NatIn w ay yn yc Y) (hox : Own az zc ax xn xc) (hoy : Own az zc ay yn yc)
    (h40 : xn < 40 ∨ yn < 40) (hK : w.cell? ⟨1, 0, none⟩ = some (.int .i64 40)) :
    Calls Tryz.prog 106 #[.slice az zl zc, stk, .slice ax xn xc, .slice ay yn yc] w (NatRes w az zc (val X xn * val Y yn)) := by
  by_cases h : xn < yn
  · have HC := Lib.hid (mul_ge az ay ax zl zc yn yc xn xc Y X stk w hz hy hx hoy hox (by omega) (by omega) hK)
    have hd : decide (xn < yn) = true := by simp [h]
    have Hv := Lib.hid (Int.mul_comm (val Y yn) (val X xn))
    clear hz hx hy hox hoy h40 hK
    go_enter Tryz.func106, Tryz.ntmps106
    go_wp2_with fail
    refine HC.out.mono ?_
    rintro e w1 k
    rw [Hv.out] at k
    obtain ⟨a, n, c, Z, rfl, k3⟩ := k
    have HK3 := Lib.hid k3
    clear k3
    go_wp2
    go_ret
    exact ⟨a, n, c, Z, rfl, HK3.out⟩
  · exact mul_ge az ax ay zl zc xn xc yn yc X Y stk w hz hx hy hox hoy (by omega) (by omega) hK
end Go.Proofs.YtmgfajamanakcaaGreatDoor
