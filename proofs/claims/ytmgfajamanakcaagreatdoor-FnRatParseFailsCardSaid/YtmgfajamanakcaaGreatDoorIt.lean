/-
  (*Int).SetString and zzIndex, walked. Conditions: a text below 2^20 bytes, the Int's words nil.
-/
import Derived.Test.YtmgfajamanakcaaGreatDoorIs
import Derived.Outline
namespace Go.Proofs.YtmgfajamanakcaaGreatDoor
open Go.RowKit
set_option maxRecDepth 100000
set_option linter.unusedVariables false
def StrOk (w : World) (s : ByteArray) (zb zo : Nat) (neg : Bool) (sc : Scan) (e : Ending) (w' : World) : Prop :=
  e = .returned (.tuple #[.pointer (some ⟨zb, zo, none⟩), .bool true]) ∧ (∃ a n c, IntC w' zb zo (decide (0 < n) && neg) a n c ∧ Got w w' a n c sc.V) ∧ Chg (zRow zb zo 2) w w'
def StrBad (w : World) (zb zo : Nat) (e : Ending) (w' : World) : Prop := e = .returned (.tuple #[.pointer none, .bool false]) ∧ Chg (zRow zb zo 2) w w'
theorem zis_old {w : World} {zb zo : Nat} : ∀ b o, b < w.heap.size → zIS w.heap.size zb zo b o → zRow zb zo 2 b o := fun b o hb hh => by
  rcases hh with hh | hh
  · have := hh.1; omega
  · exact hh
set_option maxHeartbeats 2000000 in
theorem SetString_any (s : ByteArray) (base : Int) (zb zo : Nat) (neg0 : Bool) (aE a1 a2 : Addr) (w : World) (hs : s.size < 1048576) (hzb : zb ≠ 0)
    (hE : Errs w (.iface 229 (.pointer (some aE))) (.iface 229 (.pointer (some a1))) (.iface 229 (.pointer (some a2)))) (hz : IntC w zb zo neg0 none 0 0) (hbase : base = 0 ∨ base = 2 ∨ base = 8 ∨ base = 10 ∨ base = 16) :
    Calls Tryz.prog 125 #[.pointer (some ⟨zb, zo, none⟩), .string s, .int .i64 base] w fun e w' =>
      (intOk s 0 base ∧ StrOk w s zb zo (signAt s 0).1 (scanS base false s (signAt s 0).2) e w') ∨ (¬ intOk s 0 base ∧ StrBad w zb zo e w') := by
  have hlt := hz.lt
  have kal : Chg zNone w (w.alloc (.cells #[.string s, .int .i64 0, .int .i64 (-1)] 225)) := (Chg.refl _ _).alloc _
  have HC := Lib.hid (setFromScanner_any w.heap.size s 0 base zb zo neg0 aE a1 a2 _ (rd_new s w) hs (by omega) (by omega) hzb (by omega) (hE.chg kal (fun _ h => h)) (hz.chg kal (fun _ _ h => h)) hbase)
  have HN := Lib.hid (NewReader_any s w)
  have HK := Lib.hid kal
  clear kal hE hz
  go_enter Tryz.func125, Tryz.ntmps125
  go_wp2_with fail
  refine HN.out.mono ?_
  rintro e w1 ⟨rfl, rfl⟩
  go_wp2_with fail
  refine HC.out.mono ?_
  rintro e w2 (⟨h0, rfl, ⟨a, n, c, h1, h2⟩, h3⟩ | ⟨h0, rfl, h3⟩)
  · have HH := Lib.hid (And.intro h1 (And.intro h2 h3))
    clear h1 h2 h3
    go_wp2
    go_ret2
    exact Or.inl ⟨h0, rfl, ⟨a, n, c, HH.out.1, HH.out.2.1.base HK.out.size⟩, (HK.out.mono (fun _ _ _ h => h.elim)).trans HH.out.2.2 zis_old⟩
  · have HH := Lib.hid h3
    clear h3
    go_wp2
    go_ret2
    exact Or.inr ⟨h0, rfl, (HK.out.mono (fun _ _ _ h => h.elim)).trans HH.out zis_old⟩
/-- The first place of a stroke, from p on. -/
def strokeF (s : ByteArray) : Nat → Nat → Option Nat
  | 0, _ => none
  | k + 1, p => if byteAt s p = 47 then some p else strokeF s k (p + 1)
def stroke (s : ByteArray) : Option Nat := strokeF s s.size 0
theorem strokeF_some {s : ByteArray} : ∀ (k p i : Nat), strokeF s k p = some i → p ≤ i ∧ i < p + k ∧ byteAt s i = 47
  | 0, _, _, h => by cases h
  | k + 1, p, i, h => by
    unfold strokeF at h
    split at h
    · rename_i h1
      injection h with h
      subst h
      exact ⟨by omega, by omega, h1⟩
    · have := strokeF_some k (p + 1) i h
      exact ⟨by omega, by omega, this.2.2⟩
theorem strokeF_none {s : ByteArray} : ∀ (k p : Nat), strokeF s k p = none → ∀ i, p ≤ i → i < p + k → byteAt s i ≠ 47
  | 0, _, _, i, h1, h2 => by omega
  | k + 1, p, h, i, h1, h2 => by
    unfold strokeF at h
    split at h
    · cases h
    · rename_i h3
      rcases Nat.eq_or_lt_of_le h1 with e | hl
      · subst e; exact h3
      · exact strokeF_none k (p + 1) h i hl (by omega)
def zzAt (s : ByteArray) : Int := match stroke s with
  | some i => i
  | none => -1
theorem strokeF_cut {s : ByteArray} : ∀ (i k p : Nat), (∀ j, p ≤ j → j < p + i → byteAt s j ≠ 47) → i ≤ k → strokeF s k p = strokeF s (k - i) (p + i)
  | 0, k, p, _, _ => by simp
  | i + 1, k, p, h, hk => by
    obtain ⟨k', rfl⟩ : ∃ k', k = k' + 1 := ⟨k - 1, by omega⟩
    have h0 : strokeF s (k' + 1) p = strokeF s k' (p + 1) := by
      rw [strokeF, if_neg (h p (Nat.le_refl _) (by omega))]
    rw [h0, strokeF_cut i k' (p + 1) (fun j h1 h2 => h j (by omega) (by omega)) (by omega)]
    rw [show k' + 1 - (i + 1) = k' - i by omega, show p + 1 + i = p + (i + 1) by omega]
theorem ext1 (s : ByteArray) (i : Nat) (hi : i < s.size) : (s.extract i (i + 1)).toList = [s.data.toList.getD i 0] := by
  have h : i < s.data.toList.length := by simpa using hi
  rw [ByteArray.toList_eq]
  simp only [ByteArray.data_extract, Array.toList_extract, List.extract_eq_take_drop]
  rw [show i + 1 - i = 1 by omega, List.drop_eq_getElem_cons h]
  simp [List.getD_eq_getElem?_getD, List.getElem?_eq_getElem h]
theorem ext1_eq (s : ByteArray) (i : Nat) (hi : i < s.size) (h : byteAt s i = 47) : ((s.extract i (i + 1)).toList == [47]) = true := by
  rw [ext1 s i hi]
  have : s.data.toList.getD i 0 = 47 := by
    unfold byteAt at h
    apply UInt8.toNat_inj.1
    show _ = 47
    omega
  rw [this]
  rfl
theorem ext1_ne (s : ByteArray) (i : Nat) (hi : i < s.size) (h : byteAt s i ≠ 47) : ((s.extract i (i + 1)).toList == [47]) = false := by
  rw [ext1 s i hi]
  have : s.data.toList.getD i 0 ≠ 47 := fun e => h (by unfold byteAt; rw [e]; rfl)
  simp only [List.cons_beq_cons, beq_eq_false_iff_ne, Bool.and_eq_false_iff]
  exact Or.inl this
theorem zzAt_some {s : ByteArray} {i : Nat} (hi : i < s.size) (hno : ∀ j, j < i → byteAt s j ≠ 47) (hc : byteAt s i = 47) : zzAt s = (i : Int) := by
  have h : stroke s = some i := by
    unfold stroke
    rw [strokeF_cut i s.size 0 (fun j _ h => hno j (by omega)) (by omega)]
    obtain ⟨k, hk⟩ : ∃ k, s.size - i = k + 1 := ⟨s.size - i - 1, by omega⟩
    rw [hk, Nat.zero_add, strokeF, if_pos hc]
  unfold zzAt
  rw [h]
theorem zzAt_none {s : ByteArray} (hno : ∀ j, j < s.size → byteAt s j ≠ 47) : zzAt s = -1 := by
  have h : stroke s = none := by
    unfold stroke
    rw [strokeF_cut s.size s.size 0 (fun j _ h => hno j (by omega)) (by omega), Nat.sub_self]
    rfl
  unfold zzAt
  rw [h]
set_option maxHeartbeats 2000000 in
theorem zzIndex_any (s : ByteArray) (w : World) (hs : s.size < 1048576) :
    Calls Tryz.prog 124 #[.string s, .string ⟨#[47]⟩] w fun e w' => e = .returned (.int .i64 (zzAt s)) ∧ w = w' := by
  go_enter Tryz.func124, Tryz.ntmps124
  go_wp2_with fail
  go_loopg [5] s.size (fun k s5 wc => ∃ i : Nat, s5 = .int .i64 i ∧ i + k = s.size ∧ w = wc ∧ ∀ j, j < i → byteAt s j ≠ 47)
  case atStart => exact ⟨0, rfl, by omega, rfl, fun j hj => by omega⟩
  case round =>
    obtain ⟨i, rfl, hk, rfl, hno⟩ := hrel
    by_cases hi : i < s.size
    · have h1 : ((i : Int) + 1 ≤ (s.size : Int)) := by omega
      have h2 : decide ((i : Int) + 1 ≤ (s.size : Int)) = true := by simp; omega
      have h3 : (0 : Int) ≤ (i : Int) := by omega
      by_cases hc : byteAt s i = 47
      · have h4 := ext1_eq s i hi hc
        go_wp2
        go_ret
        refine ⟨?_, rfl⟩
        rw [zzAt_some hi hno hc]
        rfl
      · have h4 := ext1_ne s i hi hc
        go_wp2
        go_roundg (gk - 1)
        case measure => omega
        case rel => exact ⟨i + 1, by go_num, by omega, rfl, fun j hj => by
          rcases Nat.lt_or_ge j i with h | h
          · exact hno j h
          · obtain rfl : j = i := by omega
            exact hc⟩
    · have h2 : decide ((i : Int) + 1 ≤ (s.size : Int)) = false := by simp; omega
      go_wp2
      go_ret
      refine ⟨?_, rfl⟩
      rw [zzAt_none (fun j hj => hno j (by omega))]
      rfl
end Go.Proofs.YtmgfajamanakcaaGreatDoor
