/-
  alias. Conditions: the slices are nil or lie at plain addresses.
-/
import Derived.Test.YtmgfajamanakcaaGreatDoorMu
import Derived.Deep.QuietTactic
import Derived.LaidEqlPtr
namespace Go.Proofs.YtmgfajamanakcaaGreatDoor
open Go.RowKit
set_option maxRecDepth 100000
set_option linter.unusedVariables false
theorem ptr_eq (w : World) {b o b' o' : Nat} {B : Bool} (h : PB w b) (h' : PB w b') (hB : B = decide (b = b' ∧ o = o')) :
    (binOp .eql 241 (.pointer (some ⟨b, o, none⟩)) (.pointer (some ⟨b', o', none⟩))).run Tryz.prog w = .ok (.bool B) w := by
  obtain ⟨i0, hi, hz0, hz1, hz2⟩ := info_parts info153
  subst hB
  by_cases he : b = b' ∧ o = o'
  · obtain ⟨rfl, rfl⟩ := he
    rw [run_eql_ptr_same w _ Tryz.underlying241 hi]
    simp
  · obtain ⟨cs, t, h⟩ := h
    obtain ⟨cs', t', h'⟩ := h'
    rw [run_eql_ptr_other w Tryz.underlying241 hi (by omega) (fun e => he (by injection e with e1 e2; exact ⟨e1, e2⟩)) h h']
    rw [decide_eq_false he]
/-- A slice's address is plain. -/
def AOK (w : World) (a : Option Addr) (c : Nat) : Prop := (a = none ∧ c = 0) ∨ ∃ b o, a = some ⟨b, o, none⟩ ∧ PB w b ∧ c < 9223372036854775808
theorem ZOK.aok {w : World} {a : Option Addr} {c : Nat} (h : ZOK w a c) : AOK w a c := by
  rcases h with h | ⟨b, o, h, hp, _, hc⟩
  · exact Or.inl h
  · exact Or.inr ⟨b, o, h, hp, hc⟩
/-- Whether two slices end at the same cell. -/
def aliasB (az : Option Addr) (zc : Nat) (ax : Option Addr) (xc : Nat) : Bool :=
  match az, ax with
  | some ⟨b, o, _⟩, some ⟨b', o', _⟩ => decide (0 < zc) && decide (0 < xc) && decide (b = b' ∧ o + zc = o' + xc)
  | _, _ => false
def AliasPost (w : World) (az : Option Addr) (zc : Nat) (ax : Option Addr) (xc : Nat) (e : Ending) (w' : World) : Prop := e = .returned (.bool (aliasB az zc ax xc)) ∧ ∃ n, w' = w.drewN n
set_option maxHeartbeats 1000000 in
theorem alias_any (az ax : Option Addr) (zl zc xl xc : Nat) (w : World) (hz : AOK w az zc) (hx : AOK w ax xc) :
    Calls Tryz.prog 138 #[.slice az zl zc, .slice ax xl xc] w (AliasPost w az zc ax xc) := by
  have hzc : zc < 9223372036854775808 := by rcases hz with ⟨_, h⟩ | ⟨_, _, _, _, h⟩ <;> omega
  have hxc : xc < 9223372036854775808 := by rcases hx with ⟨_, h⟩ | ⟨_, _, _, _, h⟩ <;> omega
  by_cases h0 : zc = 0
  · have hd : decide (0 < zc) = false := by simp [h0]
    have HF := Lib.hid (show aliasB az zc ax xc = false by unfold aliasB; split <;> simp [h0])
    clear hz hx
    subst h0
    go_enter Tryz.func138, Tryz.ntmps138
    go_wp2_with fail
    go_quiet (fail)
    go_wp2
    go_ret
    exact ⟨by rw [HF.out]; rfl, _, rfl⟩
  · by_cases h1 : xc = 0
    · have hd : decide (0 < zc) = true := by simp; omega
      have hd2 : decide (0 < xc) = false := by simp [h1]
      have HF := Lib.hid (show aliasB az zc ax xc = false by unfold aliasB; split <;> simp [h1])
      have h0' : 0 < zc := by omega
      clear hz hx h0
      subst h1
      go_enter Tryz.func138, Tryz.ntmps138
      go_wp2_with fail
      go_quiet (fail)
      go_wp2
      go_ret
      exact ⟨by rw [HF.out]; rfl, _, rfl⟩
    · obtain ⟨b, o, rfl, hp⟩ : ∃ b o, az = some ⟨b, o, none⟩ ∧ PB w b := by
        rcases hz with ⟨_, h⟩ | ⟨b, o, h, hp, _⟩
        · exact absurd h h0
        · exact ⟨b, o, h, hp⟩
      obtain ⟨b', o', rfl, hp'⟩ : ∃ b o, ax = some ⟨b, o, none⟩ ∧ PB w b := by
        rcases hx with ⟨_, h⟩ | ⟨b, o, h, hp, _⟩
        · exact absurd h h1
        · exact ⟨b, o, h, hp⟩
      have hd : decide (0 < zc) = true := by simp; omega
      have hd2 : decide (0 < xc) = true := by simp; omega
      have h0' : 0 < zc := by omega
      have h1' : 0 < xc := by omega
      clear hz hx h0 h1
      have s1 : IntKind.i64.wrap ((zc : Int) - 1) = (zc : Int) - 1 := IntWalk.i64_in _ (by omega)
      have s2 : IntKind.i64.wrap ((xc : Int) - 1) = (xc : Int) - 1 := IntWalk.i64_in _ (by omega)
      have t1 : ((zc : Int) - 1).toNat = zc - 1 := by omega
      have t2 : ((xc : Int) - 1).toNat = xc - 1 := by omega
      have b1 : (0 : Int) ≤ (zc : Int) - 1 := by omega
      have b2 : (1 : Int) ≤ (zc : Int) := by omega
      have b3 : (zc : Int) - 1 < (zc : Int) := by omega
      have b4 : (0 : Int) ≤ (xc : Int) - 1 := by omega
      have b5 : (1 : Int) ≤ (xc : Int) := by omega
      have b6 : (xc : Int) - 1 < (xc : Int) := by omega
      have b7 : zc - 1 < zc := by omega
      have b8 : xc - 1 < xc := by omega
      by_cases he : b = b' ∧ o + zc = o' + xc
      · have HF := Lib.hid (show aliasB (some ⟨b, o, none⟩) zc (some ⟨b', o', none⟩) xc = true by unfold aliasB; simp only; simp [he, h0', h1'])
        have hpe : ∀ n, (binOp .eql 241 (.pointer (some ⟨b, o + (zc - 1), none⟩)) (.pointer (some ⟨b', o' + (xc - 1), none⟩))).run Tryz.prog (w.drewN n) = .ok (.bool true) (w.drewN n) :=
          fun n => ptr_eq (w.drewN n) hp hp' (by symm; simp; omega)
        clear he hp hp'
        go_enter Tryz.func138, Tryz.ntmps138
        go_wp2_with fail
        go_quiet (fail)
        go_wp2
        go_ret
        exact ⟨by rw [HF.out]; rfl, _, rfl⟩
      · have HF := Lib.hid (show aliasB (some ⟨b, o, none⟩) zc (some ⟨b', o', none⟩) xc = false by unfold aliasB; simp only; simp [he])
        have hpe : ∀ n, (binOp .eql 241 (.pointer (some ⟨b, o + (zc - 1), none⟩)) (.pointer (some ⟨b', o' + (xc - 1), none⟩))).run Tryz.prog (w.drewN n) = .ok (.bool false) (w.drewN n) :=
          fun n => ptr_eq (w.drewN n) hp hp' (by symm; simp; omega)
        clear he hp hp'
        go_enter Tryz.func138, Tryz.ntmps138
        go_wp2_with fail
        go_quiet (fail)
        go_wp2
        go_ret
        exact ⟨by rw [HF.out]; rfl, _, rfl⟩
end Go.Proofs.YtmgfajamanakcaaGreatDoor
