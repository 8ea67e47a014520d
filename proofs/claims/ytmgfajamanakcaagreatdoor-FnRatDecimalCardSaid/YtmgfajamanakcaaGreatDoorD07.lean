/- Part of the proof of FnParse: what the functions that it reaches do, as contracts. Conditions: those that each theorem names. -/
import Derived.Test.YtmgfajamanakcaaGreatDoorD06
import Derived.Deep.QuietTactic
import Derived.LaidEqlPtr
import Derived.Test.YtmgfajamanakcaaGreatDoorD04
import Derived.Deep.RegionLaw
namespace Go.Proofs.YtmgfajamanakcaaGreatDoor
set_option linter.unusedVariables false
set_option linter.unusedSimpArgs false
open Go.RowKit
set_option maxRecDepth 100000
theorem ptr_eq (w : World) {b o b' o' : Nat} {B : Bool} (h : PB w b) (h' : PB w b') (hB : B = decide (b = b' ∧ o = o')) :
    (binOp .eql 241 (.pointer (some ⟨b, o, none⟩)) (.pointer (some ⟨b', o', none⟩))).run Tryz.prog w = .ok (.bool B) w := by
  obtain ⟨i0, hi, hz0, hz1, hz2⟩ := info_parts info153
  subst hB
  by_cases he : b = b' ∧ o = o'
  · obtain ⟨rfl, rfl⟩ := he
    rw [run_eql_ptr_same w _ Tryz.underlying241 hi]
    simp
  · obtain ⟨cs, t, h⟩ := h
    obtain ⟨cs', t', h'⟩ := h'
    rw [run_eql_ptr_other w Tryz.underlying241 hi (by omega) (fun e => he (by injection e with e1 e2; exact ⟨e1, e2⟩)) h h']
    rw [decide_eq_false he]
def AOK (w : World) (a : Option Addr) (c : Nat) : Prop := (a = none ∧ c = 0) ∨ ∃ b o, a = some ⟨b, o, none⟩ ∧ PB w b ∧ c < 9223372036854775808
theorem ZOK.aok {w : World} {a : Option Addr} {c : Nat} (h : ZOK w a c) : AOK w a c := by
  rcases h with h | ⟨b, o, h, hp, _, hc⟩
  · exact Or.inl h
  · exact Or.inr ⟨b, o, h, hp, hc⟩
def aliasB (az : Option Addr) (zc : Nat) (ax : Option Addr) (xc : Nat) : Bool :=
  match az, ax with
  | some ⟨b, o, _⟩, some ⟨b', o', _⟩ => decide (0 < zc) && decide (0 < xc) && decide (b = b' ∧ o + zc = o' + xc)
  | _, _ => false
def AliasPost (w : World) (az : Option Addr) (zc : Nat) (ax : Option Addr) (xc : Nat) (e : Ending) (w' : World) : Prop := e = .returned (.bool (aliasB az zc ax xc)) ∧ ∃ n, w' = w.drewN n
set_option maxHeartbeats 1000000 in
theorem alias_any (az ax : Option Addr) (zl zc xl xc : Nat) (w : World) (hz : AOK w az zc) (hx : AOK w ax xc) :
    Calls Tryz.prog 138 #[.slice az zl zc, .slice ax xl xc] w (AliasPost w az zc ax xc) := by
  have hzc : zc < 9223372036854775808 := by rcases hz with ⟨_, h⟩ | ⟨_, _, _, _, h⟩ <;> omega
  have hxc : xc < 9223372036854775808 := by rcases hx with ⟨_, h⟩ | ⟨_, _, _, _, h⟩ <;> omega
  by_cases h0 : zc = 0
  · have hd : decide (0 < zc) = false := by simp [h0]
    have HF := Lib.hid (show aliasB az zc ax xc = false by unfold aliasB; split <;> simp [h0])
    clear hz hx
    subst h0
    go_enter Tryz.func138, Tryz.ntmps138
    go_wp2_with fail
    go_quiet (fail)
    go_wp2
    go_ret
    exact ⟨by rw [HF.out]; rfl, _, rfl⟩
  · by_cases h1 : xc = 0
    · have hd : decide (0 < zc) = true := by simp; omega
      have hd2 : decide (0 < xc) = false := by simp [h1]
      have HF := Lib.hid (show aliasB az zc ax xc = false by unfold aliasB; split <;> simp [h1])
      have h0' : 0 < zc := by omega
      clear hz hx h0
      subst h1
      go_enter Tryz.func138, Tryz.ntmps138
      go_wp2_with fail
      go_quiet (fail)
      go_wp2
      go_ret
      exact ⟨by rw [HF.out]; rfl, _, rfl⟩
    · obtain ⟨b, o, rfl, hp⟩ : ∃ b o, az = some ⟨b, o, none⟩ ∧ PB w b := by
        rcases hz with ⟨_, h⟩ | ⟨b, o, h, hp, _⟩
        · exact absurd h h0
        · exact ⟨b, o, h, hp⟩
      obtain ⟨b', o', rfl, hp'⟩ : ∃ b o, ax = some ⟨b, o, none⟩ ∧ PB w b := by
        rcases hx with ⟨_, h⟩ | ⟨b, o, h, hp, _⟩
        · exact absurd h h1
        · exact ⟨b, o, h, hp⟩
      have hd : decide (0 < zc) = true := by simp; omega
      have hd2 : decide (0 < xc) = true := by simp; omega
      have h0' : 0 < zc := by omega
      have h1' : 0 < xc := by omega
      clear hz hx h0 h1
      have s1 : IntKind.i64.wrap ((zc : Int) - 1) = (zc : Int) - 1 := IntWalk.i64_in _ (by omega)
      have s2 : IntKind.i64.wrap ((xc : Int) - 1) = (xc : Int) - 1 := IntWalk.i64_in _ (by omega)
      have t1 : ((zc : Int) - 1).toNat = zc - 1 := by omega
      have t2 : ((xc : Int) - 1).toNat = xc - 1 := by omega
      have b1 : (0 : Int) ≤ (zc : Int) - 1 := by omega
      have b2 : (1 : Int) ≤ (zc : Int) := by omega
      have b3 : (zc : Int) - 1 < (zc : Int) := by omega
      have b4 : (0 : Int) ≤ (xc : Int) - 1 := by omega
      have b5 : (1 : Int) ≤ (xc : Int) := by omega
      have b6 : (xc : Int) - 1 < (xc : Int) := by omega
      have b7 : zc - 1 < zc := by omega
      have b8 : xc - 1 < xc := by omega
      by_cases he : b = b' ∧ o + zc = o' + xc
      · have HF := Lib.hid (show aliasB (some ⟨b, o, none⟩) zc (some ⟨b', o', none⟩) xc = true by unfold aliasB; simp only; simp [he, h0', h1'])
        have hpe : ∀ n, (binOp .eql 241 (.pointer (some ⟨b, o + (zc - 1), none⟩)) (.pointer (some ⟨b', o' + (xc - 1), none⟩))).run Tryz.prog (w.drewN n) = .ok (.bool true) (w.drewN n) :=
          fun n => ptr_eq (w.drewN n) hp hp' (by symm; simp; omega)
        clear he hp hp'
        go_enter Tryz.func138, Tryz.ntmps138
        go_wp2_with fail
        go_quiet (fail)
        go_wp2
        go_ret
        exact ⟨by rw [HF.out]; rfl, _, rfl⟩
      · have HF := Lib.hid (show aliasB (some ⟨b, o, none⟩) zc (some ⟨b', o', none⟩) xc = false by unfold aliasB; simp only; simp [he])
        have hpe : ∀ n, (binOp .eql 241 (.pointer (some ⟨b, o + (zc - 1), none⟩)) (.pointer (some ⟨b', o' + (xc - 1), none⟩))).run Tryz.prog (w.drewN n) = .ok (.bool false) (w.drewN n) :=
          fun n => ptr_eq (w.drewN n) hp hp' (by symm; simp; omega)
        clear he hp hp'
        go_enter Tryz.func138, Tryz.ntmps138
        go_wp2_with fail
        go_quiet (fail)
        go_wp2
        go_ret
        exact ⟨by rw [HF.out]; rfl, _, rfl⟩
def Disj (az : Option Addr) (zc : Nat) (ax : Option Addr) (xn : Nat) : Prop := ∀ b o i, ax = some ⟨b, o, none⟩ → i < xn → ¬ zAddr az zc b (o + i)
def Own (az : Option Addr) (zc : Nat) (ax : Option Addr) (xn xc : Nat) : Prop := (ax = az ∧ xc = zc) ∨ Disj az zc ax xn
theorem Own.apart {az ax : Option Addr} {zc xn xc : Nat} (h : Own az zc ax xn xc) : Apart az zc ax xn := h.imp (fun h => h.1) id
theorem disj_none {ax : Option Addr} {xn : Nat} : Disj none 0 ax xn := by rintro b o i _ _ ⟨p, h, _⟩; cases h
theorem Own.disj {w : World} {az ax : Option Addr} {zc xn xc : Nat} (h : Own az zc ax xn xc) (hz : ZOK w az zc) (ha : aliasB az zc ax xc = false) : Disj az zc ax xn := by
  rcases h with ⟨rfl, rfl⟩ | h
  · rcases hz with ⟨rfl, rfl⟩ | ⟨b, o, rfl, _⟩
    · exact disj_none
    · rintro b1 o1 i h1 hi ⟨p, h2, h3, h4⟩
      by_cases h0 : xc = 0
      · omega
      · unfold aliasB at ha
        simp at ha
        omega
  · exact h
structure NatIn (w : World) (a : Option Addr) (n c : Nat) (X : Nat → Int) : Prop where
  rd : Rd w a n X
  wf : WF X n
  le : n ≤ c
  small : n < 549755813888
  aok : AOK w a c
theorem NatIn.words {w : World} {a : Option Addr} {n c : Nat} {X : Nat → Int} (h : NatIn w a n c X) (hn : 0 < n) : ∃ b o, a = some ⟨b, o, none⟩ ∧ Words w b o n X := by
  rcases h.rd with h | h
  · omega
  · exact h
theorem AOK.chg {Z : Zone} {w w' : World} {a : Option Addr} {c : Nat} (h : AOK w a c) (k : Chg Z w w') : AOK w' a c := by
  rcases h with h | ⟨b, o, h, hp, hc⟩
  · exact Or.inl h
  · exact Or.inr ⟨b, o, h, hp.chg k, hc⟩
theorem disj_home {w : World} {az : Option Addr} {zc b o c bx ox xn : Nat} (hh : Home w az zc (some ⟨b, o, none⟩) c) (hd : Disj az zc (some ⟨bx, ox, none⟩) xn) (hb : bx < w.heap.size) {m : Nat} (hm : m ≤ c) : ∀ i, i < xn → ¬ zRow b o m bx (ox + i) := by
  rintro i hi ⟨h1, h2, h3⟩
  rcases hh with ⟨e1, e2⟩ | ⟨b', o', e1, e2⟩
  · exact hd bx ox i rfl hi ⟨o, by rw [← e1, h1], h2, by omega⟩
  · injection e1 with e1; injection e1 with e1 _; omega
def MulCut (w : World) (az : Option Addr) (zc : Nat) (ax : Option Addr) (xn : Nat) (ay : Option Addr) (yn : Nat) (s0 : Value) (wc : World) : Prop :=
  ∃ a' l' c', s0 = .slice a' l' c' ∧ (∃ n, wc = w.drewN n) ∧ Hid (((a' = az ∧ c' = zc) ∨ (a' = none ∧ c' = 0)) ∧ Disj a' c' ax xn ∧ Disj a' c' ay yn)
def MulGuard (w : World) (az : Option Addr) (zc : Nat) (ax : Option Addr) (xn : Nat) (ay : Option Addr) (yn : Nat) (s51 : Value) (wc : World) : Prop :=
  ∃ B, s51 = .bool B ∧ (∃ n, wc = w.drewN n) ∧ Hid (B = false → Disj az zc ax xn ∧ Disj az zc ay yn)
theorem natres_nil {w : World} {n : Nat} {az a' : Option Addr} {zc c' : Nat} {v : Int} {e : Ending} {w' : World} (h : (a' = az ∧ c' = zc) ∨ (a' = none ∧ c' = 0)) {p : Addr} {i cc : Nat} (he : e = .returned (.slice (some p) i cc)) (k : NatRes (w.drewN n) a' c' v e w') : NatRes w az zc v e w' := by
  obtain ⟨a, m, c, X, k0, k1, k2, k3, k4, k5, k6, k7, k8⟩ := k
  refine ⟨a, m, c, X, k0, k1, k2, k3, k4, k5, k6, ?_, ?_⟩
  · rcases h with ⟨rfl, rfl⟩ | ⟨rfl, rfl⟩
    · exact k7
    · rcases k7 with ⟨e1, e2⟩ | k7
      · subst e1
        rw [k0] at he
        injection he with he
        injection he with he
        cases he
      · exact Or.inr k7
  · have k9 : Chg (zAddr a' c') w w' := ⟨k8.os, k8.tape, k8.output, k8.size, k8.same, k8.cells⟩
    rcases h with ⟨rfl, rfl⟩ | ⟨rfl, rfl⟩
    · exact k9
    · exact k9.mono (fun b o _ ⟨p, h, _⟩ => by cases h)
theorem NatRes.val_eq {w : World} {az : Option Addr} {zc : Nat} {v v' : Int} {e : Ending} {w' : World} (h : NatRes w az zc v e w') (hv : v = v') : NatRes w az zc v' e w' := by rw [← hv]; exact h
set_option maxHeartbeats 4000000 in
theorem mul_ge (az ax ay : Option Addr) (zl zc xn xc yn yc : Nat) (X Y : Nat → Int) (stk : Value) (w : World) (hz : ZOK w az zc) (hx : NatIn w ax xn xc X) (hy : NatIn w ay yn yc Y) (hox : Own az zc ax xn xc) (hoy : Own az zc ay yn yc)
    (hyx : yn ≤ xn) (h40 : yn < 40) (hK : w.cell? ⟨1, 0, none⟩ = some (.int .i64 40)) :
    Calls Tryz.prog 106 #[.slice az zl zc, stk, .slice ax xn xc, .slice ay yn yc] w (NatRes w az zc (val X xn * val Y yn)) := by
  have Hz := Lib.hid hz
  have Hx := Lib.hid hx
  have Hy := Lib.hid hy
  have HK := Lib.hid hK
  have Ho := Lib.hid (And.intro hox hoy)
  have hxn := hx.small
  have hzc := hz.cap
  clear hz hx hy hK hox hoy
  by_cases h0 : yn = 0
  · subst h0
    have hb : ((xn : Int) == 0 || true) = true := by simp
    by_cases hx0 : xn = 0
    · subst hx0
      go_enter Tryz.func106, Tryz.ntmps106
      go_wp2
      go_ret
      exact ⟨az, 0, zc, fun _ => 0, rfl, Nat.zero_le _, Hz.out, Or.inl rfl, fun i hi => by omega, Or.inl rfl, by simp [val], Or.inl ⟨rfl, rfl⟩, Chg.refl _ _⟩
    · have hxb : ((xn : Int) == 0) = false := by simp [hx0]
      go_enter Tryz.func106, Tryz.ntmps106
      go_wp2
      go_ret
      exact ⟨az, 0, zc, fun _ => 0, rfl, Nat.zero_le _, Hz.out, Or.inl rfl, fun i hi => by omega, Or.inl rfl, by simp [val], Or.inl ⟨rfl, rfl⟩, Chg.refl _ _⟩
  · have hxb : ((xn : Int) == 0) = false := by simp; omega
    have hyb : ((yn : Int) == 0) = false := by simp; omega
    obtain ⟨bx, ox, rfl, hX⟩ := Hx.out.words (by omega)
    obtain ⟨bY, oY, rfl, hY⟩ := Hy.out.words (by omega)
    have hbx : bx < w.heap.size := lt_of_cell (hX 0 (by omega))
    have hby : bY < w.heap.size := lt_of_cell (hY 0 (by omega))
    have HX := Lib.hid hX
    have HY := Lib.hid hY
    have Hb := Lib.hid (And.intro hbx hby)
    clear hX hY hbx hby
    by_cases h1 : yn = 1
    · subst h1
      obtain ⟨y, hy⟩ : ∃ y, Y 0 = y := ⟨_, rfl⟩
      have hcy := HY.out 0 (by omega)
      rw [hy] at hcy
      simp only [Nat.add_zero] at hcy
      have Hyv := Lib.hid hy
      clear hy
      go_enter Tryz.func106, Tryz.ntmps106
      go_wp2_with fail
      refine (mulAddWW_any az (some ⟨bx, ox, none⟩) zl zc xn xc X y 0 _ Hz.out Hx.out.rd Hx.out.wf Hx.out.le (by omega) Ho.out.1.apart (by rw [← Hyv.out]; exact Hy.out.wf 0 (by omega)) ⟨by omega, by omega⟩).mono ?_
      rintro e w1 k
      have k2 := k.val_eq (v' := val X xn * val Y 1) (by rw [val_one, Hyv.out]; simp)
      obtain ⟨a, n, c, Z, rfl, k3⟩ := k2
      have HK3 := Lib.hid k3
      clear k k3
      go_wp2
      go_ret
      exact ⟨a, n, c, Z, rfl, HK3.out⟩
    · have hyb1 : ((yn : Int) == 1) = false := by simp; omega
      have hdx : decide (xn < yn) = false := by simp; omega
      go_enter Tryz.func106, Tryz.ntmps106
      go_upto_region 9 with fail
      go_cut [51] (MulGuard w az zc (some ⟨bx, ox, none⟩) xn (some ⟨bY, oY, none⟩) yn)
      case first =>
        go_wp2_with fail
        refine (alias_any az (some ⟨bx, ox, none⟩) zl zc xn xc _ Hz.out.aok Hx.out.aok).mono ?_
        rintro e w1 ⟨rfl, n1, rfl⟩
        obtain ⟨B1, hB1⟩ : ∃ B, aliasB az zc (some ⟨bx, ox, none⟩) xc = B := ⟨_, rfl⟩
        rw [hB1]
        have HB1 := Lib.hid hB1
        clear hB1
        cases B1 with
        | true =>
          go_wp2
          go_meet
          exact ⟨true, rfl, ⟨n1, rfl⟩, fun h => by cases h⟩
        | false =>
          go_wp2_with fail
          refine (alias_any az (some ⟨bY, oY, none⟩) zl zc yn yc (w.drewN n1) (show AOK (w.drewN n1) az zc from Hz.out.aok) (show AOK (w.drewN n1) _ yc from Hy.out.aok)).mono ?_
          rintro e w1 ⟨rfl, n2, rfl⟩
          obtain ⟨B2, hB2⟩ : ∃ B, aliasB az zc (some ⟨bY, oY, none⟩) yc = B := ⟨_, rfl⟩
          rw [hB2]
          have HB2 := Lib.hid hB2
          clear hB2
          go_wp2
          go_meet
          exact ⟨B2, rfl, ⟨n1 + n2, by simp⟩, fun h => by subst h; exact ⟨Ho.out.1.disj Hz.out HB1.out, Ho.out.2.disj Hz.out HB2.out⟩⟩
      case rest =>
        obtain ⟨B, rfl, ⟨n, rfl⟩, HB⟩ := hcut
        go_upto_if 51 with fail
        go_cut [0] (MulCut w az zc (some ⟨bx, ox, none⟩) xn (some ⟨bY, oY, none⟩) yn)
        case first =>
          cases B with
          | true =>
            go_wp2
            go_meet
            exact ⟨none, 0, 0, rfl, ⟨n, rfl⟩, Or.inr ⟨rfl, rfl⟩, disj_none, disj_none⟩
          | false =>
            go_wp2
            go_meet
            exact ⟨az, zl, zc, rfl, ⟨n, rfl⟩, Or.inl ⟨rfl, rfl⟩, (HB.out (by first | rfl | trivial)).1, (HB.out (by first | rfl | trivial)).2⟩
        case rest =>
          obtain ⟨a', l', c', rfl, ⟨n, rfl⟩, HC⟩ := hcut
          have hKn : (w.drewN n).cell? ⟨1, 0, none⟩ = some (.int .i64 40) := HK.out
          have Hz' : Hid (ZOK (w.drewN n) a' c') := by
            rcases HC.out.1 with ⟨rfl, rfl⟩ | ⟨rfl, rfl⟩
            · exact Hz.out
            · exact Or.inl ⟨rfl, rfl⟩
          go_wp2_with fail
          rw [show ((xn : Int) + (yn : Int)) = ((xn + yn : Nat) : Int) from by omega]
          refine (make_any a' l' c' (xn + yn) _ Hz'.out (by omega)).mono ?_
          rintro e w1 ⟨a, c, rfl, h1, h2, h3, h4⟩
          obtain ⟨b, o, rfl, hb1, hroom⟩ := h2.room (by omega)
          have hcap := h2.cap
          have hK1 : w1.cell? ⟨1, 0, none⟩ = some (.int .i64 40) := h4.cell HK.out (fun h => h)
          have H := Lib.hid (And.intro h1 (And.intro h2 (And.intro h3 (And.intro h4 (And.intro hb1 hroom)))))
          have h1' : xn + yn ≤ c := h1
          clear h1 h2 h3 h4 hroom hb1 hKn
          go_wp2_with fail
          refine (basicMul_any bx ox bY oY b o xn yn xc yc (xn + yn) c X Y w1 (by omega) (by omega) (by omega) (by omega) (HX.out.chg (w := w.drewN n) H.out.2.2.2.1 (fun _ _ h => h)) Hx.out.wf (HY.out.chg (w := w.drewN n) H.out.2.2.2.1 (fun _ _ h => h)) Hy.out.wf (H.out.2.2.2.2.2.le h1') rfl h1'
            (disj_home (w := w.drewN n) H.out.2.2.1 HC.out.2.1 Hb.out.1 h1') (disj_home (w := w.drewN n) H.out.2.2.1 HC.out.2.2 Hb.out.2 h1')).mono ?_
          rintro e w2 ⟨⟨v, rfl⟩, Z, q1, q2, q3, q4⟩
          have HQ := Lib.hid (And.intro q1 (And.intro q2 (And.intro q3 q4)))
          clear q1 q2 q3 q4
          go_wp2_with fail
          refine (norm_any (some ⟨b, o, none⟩) (xn + yn) c Z _ (Or.inr ⟨b, o, rfl, HQ.out.2.1⟩) h1' hcap).mono ?_
          rintro e w3 ⟨i, rfl, n1, n2, n3, rfl⟩
          have HN := Lib.hid (And.intro n1 (And.intro n2 n3))
          clear n1 n2 n3
          go_wp2
          go_ret
          have hn := natres_close (w := w.drewN n) H.out HQ.out.1 HQ.out.2.1 HQ.out.2.2.1 HQ.out.2.2.2 HN.out.1 HN.out.2.1 HN.out.2.2
          exact natres_nil (n := n) HC.out.1 rfl hn
theorem mul_any (az ax ay : Option Addr) (zl zc xn xc yn yc : Nat) (X Y : Nat → Int) (stk : Value) (w : World) (hz : ZOK w az zc) (hx : NatIn w ax xn xc X) (hy : NatIn w ay yn yc Y) (hox : Own az zc ax xn xc) (hoy : Own az zc ay yn yc)
    (h40 : xn < 40 ∨ yn < 40) (hK : w.cell? ⟨1, 0, none⟩ = some (.int .i64 40)) :
    Calls Tryz.prog 106 #[.slice az zl zc, stk, .slice ax xn xc, .slice ay yn yc] w (NatRes w az zc (val X xn * val Y yn)) := by
  by_cases h : xn < yn
  · have HC := Lib.hid (mul_ge az ay ax zl zc yn yc xn xc Y X stk w hz hy hx hoy hox (by omega) (by omega) hK)
    have hd : decide (xn < yn) = true := by simp [h]
    have Hv := Lib.hid (Int.mul_comm (val Y yn) (val X xn))
    clear hz hx hy hox hoy h40 hK
    go_enter Tryz.func106, Tryz.ntmps106
    go_wp2_with fail
    refine HC.out.mono ?_
    rintro e w1 k
    rw [Hv.out] at k
    obtain ⟨a, n, c, Z, rfl, k3⟩ := k
    have HK3 := Lib.hid k3
    clear k3
    go_wp2
    go_ret
    exact ⟨a, n, c, Z, rfl, HK3.out⟩
  · exact mul_ge az ax ay zl zc xn xc yn yc X Y stk w hz hx hy hox hoy (by omega) (by omega) hK
theorem or_comm_bits (a b : Int) : bits BinOp.or IntKind.u64 a b = bits BinOp.or IntKind.u64 b a := by
  simp only [bits]
  rw [BitVec.or_comm]
theorem shl_or {x y : Int} {s : Nat} (hx : U64 x) (hy : U64 y) (hs0 : 0 < s) (hs : s < 64) : bits BinOp.or IntKind.u64 (IntKind.u64.wrap (x * 2 ^ s)) (y / 2 ^ (64 - s)) = y / 2 ^ (64 - s) + x % 2 ^ (64 - s) * 2 ^ s := by
  have h := shr_or (x := y) (y := x) (s := 64 - s) hy hx (by omega)
  rw [show 64 - (64 - s) = s by omega] at h
  rw [or_comm_bits, h]
def shlT (X : Nat → Int) (s : Nat) : Nat → Int := fun j => (if j = 0 then 0 else X (j - 1) / 2 ^ (64 - s)) + X j % 2 ^ (64 - s) * 2 ^ s
theorem shl_low {x : Int} {s : Nat} (hx : U64 x) (hs : s < 64) : IntKind.u64.wrap (x * 2 ^ s) = x % 2 ^ (64 - s) * 2 ^ s := by
  have hp : (2:Int) ^ (64 - s) * 2 ^ s = 18446744073709551616 := by rw [← Int.pow_add, show 64 - s + s = 64 by omega]; rfl
  have := Int.mul_emod_mul_of_pos (x) (2 ^ (64 - s)) (show (0:Int) < 2 ^ s from Int.pow_pos (by omega))
  rw [wrap_u64, ← hp, Int.mul_comm x, Int.mul_comm (2 ^ (64 - s)), this, Int.mul_comm]
theorem shlT_wf {X : Nat → Int} {s n : Nat} (hX : WF X n) (hs0 : 0 < s) (hs : s < 64) : WF (shlT X s) n := fun j hj => by
  unfold shlT
  by_cases h0 : j = 0
  · subst h0
    rw [if_pos rfl, ← shl_low (hX 0 hj) hs, wrap_u64]
    unfold U64; omega
  · rw [if_neg h0]
    have h := U64_or (x := X (j - 1)) (y := X j) (s := 64 - s) (hX _ (by omega)) (hX _ hj) (by omega)
    rw [show 64 - (64 - s) = s by omega] at h
    exact h
theorem shlT_val (X : Nat → Int) {s : Nat} (hs : s < 64) : ∀ n, val (shlT X s) (n + 1) + X n / 2 ^ (64 - s) * BB ^ (n + 1) = val X (n + 1) * 2 ^ s
  | 0 => by
    have hp : (2:Int) ^ (64 - s) * 2 ^ s = BB := by rw [← Int.pow_add, show 64 - s + s = 64 by omega]; rfl
    have hd := Int.mul_ediv_add_emod (X 0) (2 ^ (64 - s))
    simp only [val, shlT, if_true, Int.pow_succ, Int.pow_zero]
    grind
  | n + 1 => by
    have ih := shlT_val X hs n
    have hp : (2:Int) ^ (64 - s) * 2 ^ s = BB := by rw [← Int.pow_add, show 64 - s + s = 64 by omega]; rfl
    have hd := Int.mul_ediv_add_emod (X (n + 1)) (2 ^ (64 - s))
    have e : shlT X s (n + 1) = X n / 2 ^ (64 - s) + X (n + 1) % 2 ^ (64 - s) * 2 ^ s := by unfold shlT; rw [if_neg (by omega)]; rfl
    rw [val.eq_2 (shlT X s) (n + 1), val.eq_2 X (n + 1), e, BB_succ (n + 1), Int.add_mul (val X (n + 1)), ← ih]
    grind
def Bwd (bx ox bz oz n : Nat) : Prop := bx ≠ bz ∨ ox ≤ oz ∨ oz + n ≤ ox
def LshPost (w : World) (bz oz n : Nat) (X : Nat → Int) (s : Nat) (c : Int) (w' : World) : Prop :=
  ∃ Z, Chg (zRow bz oz n) w w' ∧ Words w' bz oz n Z ∧ WF Z n ∧ U64 c ∧ val Z n + c * BB ^ n = val X n * 2 ^ s
theorem Words.cons {w : World} {b o k n : Nat} {T : Nat → Int} {v : Int} (h : ∀ j, k < j → j < n → w.cell? ⟨b, o + j, none⟩ = some (.int .u64 (T j))) (hv : T k = v) (hc : (w.cell? ⟨b, o + k, none⟩).isSome = true) :
    ∀ j, k ≤ j → j < n → (w.setCell ⟨b, o + k, none⟩ (.int .u64 v)).cell? ⟨b, o + j, none⟩ = some (.int .u64 (T j)) := fun j h1 h2 => by
  by_cases e : j = k
  · subst e; rw [hv]; exact World.cell?_setCell_same' _ _ _ hc
  · rw [World.cell?_setCell_other w _ _ _ (by intro h; injection h with _ h2 _; omega)]
    exact h j (by omega) h2
set_option maxHeartbeats 4000000 in
theorem lshVU_g_any (bx ox bz oz n cx cz : Nat) (X : Nat → Int) (s : Nat) (w : World) (hn : n < 4611686018427387904) (hn1 : 0 < n) (hX : Words w bx ox n X) (hXw : WF X n) (hz : Room w bz oz n) (hf : Bwd bx ox bz oz n) (hs0 : 0 < s) (hs : s < 64) :
    Calls Tryz.prog 187 #[.slice (some ⟨bz, oz, none⟩) n cz, .slice (some ⟨bx, ox, none⟩) n cx, .int .u64 s] w (OneWord (LshPost w bz oz n X s)) := by
  have hm1 := and63 s hs
  have hm2 := and63 (64 - s) (by omega)
  have hm3 : ((64 - s : Nat) : Int) = 64 - (s : Int) := by omega
  rw [hm3] at hm2
  have hsb : ((s : Int) == 0) = false := by simp; omega
  have hnb : ((n : Int) == 0) = false := by simp; omega
  obtain ⟨xt, hxt⟩ : ∃ x, X (n - 1) = x := ⟨_, rfl⟩
  have hcx := hX (n - 1) (by omega)
  rw [hxt] at hcx
  have hxtw : Hid (U64 xt) := by rw [← hxt]; exact hXw _ (by omega)
  have Hxt := Lib.hid hxt
  have HX := Lib.hid hX
  have HXw := Lib.hid hXw
  have Hz := Lib.hid hz
  have Hf := Lib.hid hf
  clear hX hXw hz hf hxt
  clear hm3
  go_enter Tryz.func187, Tryz.ntmps187
  go_wp2_with fail
  go_loopw [8] (fun si wr => ∃ k : Nat, si = .int .i64 k ∧ k < n ∧ Hid (Chg (zRow bz oz n) w wr ∧ Chg (zRow bz (oz + (k + 1)) (n - (k + 1))) w wr ∧ ∀ j, k < j → j < n → wr.cell? ⟨bz, oz + j, none⟩ = some (.int .u64 (shlT X s j)))) (fun si _ => (intOf si).toNat)
  case atStart => exact ⟨n - 1, by go_num, by omega, Chg.refl _ _, Chg.refl _ _, fun j h1 h2 => by omega⟩
  case round =>
    obtain ⟨k, rfl, hk, H⟩ := hrel
    have hread : ∀ j, j ≤ k → wr.cell? ⟨bx, ox + j, none⟩ = some (.int .u64 (X j)) := fun j hj => H.out.2.1.cell (HX.out j (by omega)) (by rintro ⟨h1, h2, h3⟩; rcases Hf.out with h | h | h <;> omega)
    have hck := hread k (Nat.le_refl _)
    obtain ⟨⟨zk, hzk0⟩, hzf0⟩ := Hz.out k hk
    have hzk1 := H.out.1.isCell (by rw [hzk0]; rfl)
    obtain ⟨zv, hzk⟩ := Option.isSome_iff_exists.1 hzk1
    have hzf := (H.out.1.frozen hzk0 (oz + k)).trans hzf0
    clear hzk0 hzf0 hzk1
    obtain ⟨xk, hxe⟩ : ∃ x, X k = x := ⟨_, rfl⟩
    rw [hxe] at hck
    have Hxe := Lib.hid hxe
    have hxw : Hid (U64 xk) := by rw [← hxe]; exact HXw.out k hk
    clear hxe
    by_cases h0 : 0 < k
    · have hcy := hread (k - 1) (by omega)
      obtain ⟨yk, hye⟩ : ∃ x, X (k - 1) = x := ⟨_, rfl⟩
      rw [hye] at hcy
      have Hye := Lib.hid hye
      have hyw : Hid (U64 yk) := by rw [← hye]; exact HXw.out (k - 1) (by omega)
      clear hye hread
      go_wp2_with fail
      go_region
      go_wp2
      go_roundw
      case rel =>
        have hv := shl_or hxw.out hyw.out hs0 hs
        refine ⟨k - 1, by go_num, by omega, ?_⟩
        rw [hv]
        have ht : shlT X s k = yk / 2 ^ (64 - s) + xk % 2 ^ (64 - s) * 2 ^ s := by unfold shlT; rw [if_neg (by omega), Hxe.out, Hye.out]
        refine ⟨(H.out.1.setCell bz (oz + k) _ (fun _ => ⟨rfl, by omega, by omega⟩)).drew, ?_, ?_⟩
        · exact ((H.out.2.1.mono (Z' := zRow bz (oz + (k - 1 + 1)) (n - (k - 1 + 1))) (fun _ _ _ ⟨h1, h2, h3⟩ => ⟨h1, by omega, by omega⟩)).setCell bz (oz + k) _ (fun _ => ⟨rfl, by omega, by omega⟩)).drew
        · exact fun j h1 h2 => Words.cons H.out.2.2 ht (by rw [hzk]; rfl) j (by omega) h2
      case measure => simp [intOf]; omega
    · obtain rfl : k = 0 := by omega
      simp only [Nat.add_zero] at hck hzk hzf
      clear hread
      go_wp2_with fail
      go_ret
      have ht : shlT X s 0 = IntKind.u64.wrap (xk * 2 ^ s) := by unfold shlT; rw [if_pos rfl, Hxe.out, shl_low hxw.out hs]; simp
      have hcs := Words.cons (k := 0) H.out.2.2 ht (by rw [Nat.add_zero, hzk]; rfl)
      refine ⟨_, rfl, shlT X s, H.out.1.setCell bz oz _ (fun _ => ⟨rfl, by omega, by omega⟩), fun i hi => hcs i (by omega) hi, shlT_wf HXw.out hs0 hs, U64_shr hxtw.out, ?_⟩
      have := shlT_val X hs (n - 1)
      rw [show n - 1 + 1 = n by omega, Hxt.out] at this
      exact this
theorem lshVU_any (bx ox bz oz n cx cz : Nat) (X : Nat → Int) (s : Nat) (w : World) (hn : n < 4611686018427387904) (hn1 : 0 < n) (hX : Words w bx ox n X) (hXw : WF X n) (hz : Room w bz oz n) (hf : Bwd bx ox bz oz n) (hs0 : 0 < s) (hs : s < 64) :
    Calls Tryz.prog 140 #[.slice (some ⟨bz, oz, none⟩) n cz, .slice (some ⟨bx, ox, none⟩) n cx, .int .u64 s] w (OneWord (LshPost w bz oz n X s)) := by
  have H := Lib.hid (lshVU_g_any bx ox bz oz n cx cz X s w hn hn1 hX hXw hz hf hs0 hs)
  clear hX hXw hz hf
  go_enter Tryz.func140, Tryz.ntmps140
  go_wp2_with fail
  refine H.out.mono ?_
  rintro e w1 ⟨c, rfl, hp⟩
  have Hp := Lib.hid hp
  clear hp
  go_wp2
  go_ret
  exact ⟨c, rfl, Hp.out⟩
theorem step_copy_word {ops : Array Oper} {o : Oper} {a : Act} {w : World} {K : Act → World → Prop} {Q : Exit → Act → World → Prop} {E : Prop} (hg : o.guard = none) (d s : Operand) (t1 t2 : TypeId)
    (hop : o.op = .call { callee := .builtin .copy, args := #[d, s], argTypes := #[t1, t2] }) (hu : Tryz.prog.underlying t1 = some (.slice 153))
    (b off nd cd : Nat) (sa : Option Addr) (ns cs n : Nat) (X : Nat → Int) (hd : a.eval d = .slice (some ⟨b, off, none⟩) nd cd) (hs : a.eval s = .slice sa ns cs)
    (hn : n = Nat.min ns nd) (hz : Room w b off n) (hr : Rd w sa n X)
    (h : ∀ w', Chg (zRow b off n) w w' ∧ Words w' b off n X ∧ (∀ b' o' m, Room w b' o' m → Room w' b' o' m) → K (a.put o.dst (.int .i64 n)) w') :
    if Region.wanted o (yielded ops a.tmps) = true then Oper.wp Tryz.prog o a w K Q else E := by
  have hw : Region.wanted o (yielded ops a.tmps) = true := by simp [Region.wanted, hg]
  rw [if_pos hw]
  obtain ⟨w', hrun, h2⟩ := run_copy_word t1 t2 o.type hu b off nd cd sa ns cs n X w hn hz hr
  unfold Oper.wp
  simp [execOp, hop, resolve, invoke, builtin, hd, hs, hrun, Result.andThen]
  exact h w' h2
theorem step_copy_zero {ops : Array Oper} {o : Oper} {a : Act} {w : World} {K : Act → World → Prop} {Q : Exit → Act → World → Prop} {E : Prop} (hg : o.guard = none) (d s : Operand) (t1 t2 : TypeId)
    (hop : o.op = .call { callee := .builtin .copy, args := #[d, s], argTypes := #[t1, t2] }) (hu : Tryz.prog.underlying t1 = some (.slice 153))
    (da : Option Addr) (nd cd : Nat) (sa : Option Addr) (ns cs : Nat) (hd : a.eval d = .slice da nd cd) (hs : a.eval s = .slice sa ns cs)
    (hn : Nat.min ns nd = 0) (h : K (a.put o.dst (.int .i64 0)) w) :
    if Region.wanted o (yielded ops a.tmps) = true then Oper.wp Tryz.prog o a w K Q else E := by
  have hw : Region.wanted o (yielded ops a.tmps) = true := by simp [Region.wanted, hg]
  rw [if_pos hw]
  have hrun := run_copy_none (P := Tryz.prog) w t1 t2 o.type 153 da sa nd cd ns cs hu size153 hn
  unfold Oper.wp
  simp [execOp, hop, resolve, invoke, builtin, hd, hs, hrun, Result.andThen]
  exact h
theorem ptr_ne (w : World) {b o b' o' : Nat} {B : Bool} (h : PB w b) (h' : PB w b') (hB : B = !decide (b = b' ∧ o = o')) :
    (binOp .neq 241 (.pointer (some ⟨b, o, none⟩)) (.pointer (some ⟨b', o', none⟩))).run Tryz.prog w = .ok (.bool B) w := by
  have e := ptr_eq w h h' (rfl : decide (b = b' ∧ o = o') = decide (b = b' ∧ o = o'))
  subst hB
  simp only [binOp] at e ⊢
  cases hh : (Op.equal 241 (.pointer (some ⟨b, o, none⟩)) (.pointer (some ⟨b', o', none⟩))).run Tryz.prog w with
  | ok v w1 => simp [hh, Result.andThen] at e ⊢; exact ⟨by rw [e.1], e.2⟩
  | _ => simp [hh, Result.andThen] at e
end Go.Proofs.YtmgfajamanakcaaGreatDoor
