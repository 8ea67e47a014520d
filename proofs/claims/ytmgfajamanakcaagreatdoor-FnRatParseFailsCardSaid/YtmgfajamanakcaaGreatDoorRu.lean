/-
  (*Rat).SetString without a stroke, on a text that is no number, walked; the empty text. Conditions: as Rt's.
-/
import Derived.Test.YtmgfajamanakcaaGreatDoorRt
import Derived.Test.YtmgfajamanakcaaGreatDoorSx
import Derived.Outline
namespace Go.Proofs.YtmgfajamanakcaaGreatDoor
open Go.RowKit
set_option maxRecDepth 100000
set_option linter.unusedVariables false
def decOk (s : ByteArray) : Prop := (scanS 0 true s (signAt s 0).2).err = 0 ∧ (scanE true s (scanS 0 true s (signAt s 0).2).p).err = 0 ∧ (scanE true s (scanS 0 true s (signAt s 0).2).p).p = s.size
theorem PErrs.far {Z : Zone} {w w' : World} (h : PErrs w) (k : Chg Z w w') (hz : ∀ b, b < 14 → ¬ Z b 0) : PErrs w' := by
  obtain ⟨⟨a, h1, h2⟩, ⟨b, h3, h4⟩⟩ := h
  exact ⟨⟨a, k.cell h1 (hz _ (by omega)), h2⟩, ⟨b, k.cell h3 (hz _ (by omega)), h4⟩⟩
set_option maxHeartbeats 1000000 in
theorem RatSet_empty (s : ByteArray) (rb : Nat) (w : World) (h0 : s.size = 0) : Calls Tryz.prog 68 #[.pointer (some ⟨rb, 0, none⟩), .string s] w (RatBad w rb) := by
  have hne0 : ((s.size : Int) == 0) = true := by rw [h0]; rfl
  go_enter Tryz.func68, Tryz.ntmps68
  go_wp2
  go_ret2
  exact ⟨rfl, Chg.refl _ _⟩
theorem runE_ok {sep : Bool} {s : ByteArray} : ∀ (k p : Nat) (st : ES), p ≤ (runE sep s k p st).1 ∧ (runE sep s k p st).1 ≤ p + k ∧ ∀ i, p ≤ i → i < (runE sep s k p st).1 → okB (byteAt s i)
  | 0, p, st => ⟨Nat.le_refl _, Nat.le_refl _, fun i h1 h2 => by simp only [runE] at h2; omega⟩
  | k + 1, p, st => by
    cases h : stepE sep st (bAt s p) with
    | none => simp only [runE, h]; exact ⟨Nat.le_refl _, by omega, fun i h1 h2 => by omega⟩
    | some st' =>
      simp only [runE, h]
      obtain ⟨h1, h2, h3⟩ := runE_ok (sep := sep) (s := s) k (p + 1) st'
      refine ⟨by omega, by omega, fun i hi1 hi2 => ?_⟩
      rcases Nat.eq_or_lt_of_le hi1 with e | e
      · subst e
        unfold stepE at h
        rw [bAt_int] at h
        unfold okB
        split at h
        · rename_i hh; exact Or.inl hh
        · split at h
          · rename_i hh; have := hh.1; omega
          · cases h
      · exact h3 i e hi2
theorem endE_p {b : Int} {q : Nat} {st : ES} : (endE b q st).p = q := by
  unfold endE
  split
  · rfl
  · split <;> rfl
theorem scanE_ok {sep : Bool} {s : ByteArray} {p : Nat} (hp : p ≤ s.size) : p ≤ (scanE sep s p).p ∧ (scanE sep s p).p ≤ s.size ∧ ∀ i, p ≤ i → i < (scanE sep s p).p → okB (byteAt s i) := by
  unfold scanE
  split
  · rename_i hlt
    cases hb : expBase (byteAt s p) with
    | none => exact ⟨Nat.le_refl _, hp, fun i h1 h2 => by simp only at h2; omega⟩
    | some b =>
      simp only [endE_p]
      have hc : okB (byteAt s p) := by
        unfold expBase at hb
        unfold okB
        split at hb
        · omega
        · split at hb
          · omega
          · cases hb
      have hS : p + 1 ≤ (expSign s (p + 1)).1 ∧ (expSign s (p + 1)).1 ≤ s.size ∧ ∀ i, p + 1 ≤ i → i < (expSign s (p + 1)).1 → okB (byteAt s i) := by
        unfold expSign
        split
        · rename_i hh
          refine ⟨by simp only; omega, by simp only; omega, fun i h1 h2 => ?_⟩
          simp only at h2
          obtain rfl : i = p + 1 := by omega
          unfold okB; omega
        · split
          · rename_i hh
            refine ⟨by simp only; omega, by simp only; omega, fun i h1 h2 => ?_⟩
            simp only at h2
            obtain rfl : i = p + 1 := by omega
            unfold okB; omega
          · exact ⟨by simp only; omega, by simp only; omega, fun i h1 h2 => by simp only at h2; omega⟩
      have hR := runE_ok (sep := sep) (s := s) (s.size - (expSign s (p + 1)).1) (expSign s (p + 1)).1 ⟨46, false, false, (expSign s (p + 1)).2⟩
      refine ⟨?_, ?_, fun i h1 h2 => ?_⟩
      · have := hR.1; unfold runX; omega
      · have := hR.2.1; unfold runX; omega
      · unfold runX at h2
        rcases Nat.eq_or_lt_of_le h1 with e | e
        · subst e; exact hc
        · rcases Nat.lt_or_ge i (expSign s (p + 1)).1 with h | h
          · exact hS.2.2 i e h
          · exact hR.2.2 i h h2
  · exact ⟨Nat.le_refl _, hp, fun i h1 h2 => by simp only at h2; omega⟩
set_option maxHeartbeats 8000000 in
theorem RatSet_plain (s : ByteArray) (rb : Nat) (aE a1 a2 : Addr) (w : World) (hs : s.size < 1048576) (hs0 : 0 < s.size) (hrb : 14 ≤ rb)
    (hE : Errs w (.iface 229 (.pointer (some aE))) (.iface 229 (.pointer (some a1))) (.iface 229 (.pointer (some a2)))) (hPE : PErrs w) (hA : IntC w rb 0 false none 0 0)
    (hst : stroke s = none) (hbad : ¬ decOk s) :
    Calls Tryz.prog 68 #[.pointer (some ⟨rb, 0, none⟩), .string s] w (RatBad w rb) := by
  have hlt := hA.lt
  have hne0 : ((s.size : Int) == 0) = false := beq_false_of_ne (by omega)
  have HZ := Lib.hid (show Calls Tryz.prog 124 #[.string s, .string ⟨#[47]⟩] w fun e w' => e = .returned (.int .i64 (-1)) ∧ w = w' by
    have := zzIndex_any s w hs
    rwa [zzAt_no hst] at this)
  have HN := Lib.hid (NewReader_any s w)
  have kal : Chg zNone w (w.alloc (.cells #[.string s, .int .i64 0, .int .i64 (-1)] 225)) := (Chg.refl _ _).alloc _
  have HE1 := Lib.hid (hE.chg kal (fun _ h => h))
  have HP1 := Lib.hid (hPE.chg kal (fun _ h => h))
  have HA1 := Lib.hid (hA.chg kal (fun _ _ h => h))
  have HK1 : Hid (Chg (zRow rb 0 4) w (w.alloc (.cells #[.string s, .int .i64 0, .int .i64 (-1)] 225))) := (Chg.refl _ _).alloc _
  have HG := Lib.hid (scanSign_more w.heap.size s 0 _ (rd_new s w) hs0 (by omega))
  have hq := signAt_le hs0
  unfold decOk at hbad
  obtain ⟨sg, hsg⟩ : ∃ x, signAt s 0 = x := ⟨_, rfl⟩
  rw [hsg] at hq HG hbad
  obtain ⟨neg, q⟩ := sg
  simp only at hq HG hbad
  obtain ⟨sc, hsc⟩ : ∃ x, scanS 0 true s q = x := ⟨_, rfl⟩
  have Hsc := Lib.hid hsc
  have Hpo := Lib.hid (show sc.p ≤ s.size by rw [← hsc]; exact (scanS_ok hq (by omega)).2.1)
  rw [hsc] at hbad
  obtain ⟨ex, hex⟩ : ∃ x, scanE true s sc.p = x := ⟨_, rfl⟩
  have Hex := Lib.hid hex
  have Hpx := Lib.hid (show ex.p ≤ s.size by rw [← hex]; exact (scanE_ok Hpo.out).2.1)
  rw [hex] at hbad
  have Hbad := Lib.hid hbad
  clear hE hPE hA kal hst hbad hsg hsc hex
  go_enter Tryz.func68, Tryz.ntmps68
  go_wp2_with fail
  refine HZ.out.mono ?_
  rintro e w0 ⟨rfl, rfl⟩
  go_wp2_with fail
  refine HN.out.mono ?_
  rintro e w1 ⟨rfl, rfl⟩
  go_wp2_with fail
  refine HG.out.mono ?_
  rintro e w2 ⟨rfl, h1, h2⟩
  have HE2 := Lib.hid (HE1.out.chg h2 (fun _ => zrow_zero))
  have HP2 := Lib.hid (HP1.out.chg h2 (fun _ => zrow_zero))
  have HA2 := Lib.hid (HA1.out.chg h2 (fun o ho hh => by have := hh.1; omega))
  have HK2 := Lib.hid (HK1.out.trans h2 (fun b o hb hh => by have := hh.1; omega))
  have HS2 := Lib.hid (scan_any w.heap.size s q 0 true aE _ _ w2 h1 hs hq (by omega) HE2.out (Or.inl rfl))
  rw [Hsc.out] at HS2
  clear h1 h2
  obtain ⟨ha0, ha1, ha2, ha3⟩ := HA2.out
  go_wp2_with fail
  refine HS2.out.mono ?_
  rintro e w3 ⟨a, n, c, rfl, h1, h2, h3⟩
  clear ha0 ha1 ha2 ha3
  have HA3 := Lib.hid (HA2.out.chg h3 (fun o ho hh => by have := hh.1; omega))
  have HK3 := Lib.hid (HK2.out.trans h3 (fun b o hb hh => by have := hh.1; omega))
  have HE3 := Lib.hid (HE2.out.chg h3 (fun _ => zrow_zero))
  have HP3 := Lib.hid (HP2.out.chg h3 (fun _ => zrow_zero))
  have HR3 := Lib.hid h2
  clear h1 h2 h3
  obtain ⟨ha0, ha1, ha2, ha3⟩ := HA3.out
  have kc : Chg (zRow rb 1 1) w3 (w3.setCell ⟨rb, 1, none⟩ (.slice a n c)) := chg_cell _ _ _ _
  have HKA : Hid (Chg (zRow rb 0 4) w (w3.setCell ⟨rb, 1, none⟩ (.slice a n c))) := HK3.out.setCell rb 1 _ (fun _ => ⟨rfl, by omega, by omega⟩)
  by_cases h0 : sc.err = 0
  · rw [if_pos h0]
    have HEA := Lib.hid (HE3.out.far kc (fun b hb hh => by have := hh.1; omega))
    have HX := Lib.hid (scanExponent_any w.heap.size s sc.p true aE _ _ (w3.setCell ⟨rb, 1, none⟩ (.slice a n c)) (HR3.out.chg kc (fun o _ hh => by have := hh.1; omega)) hs Hpo.out (by omega) a2 rfl HEA.out (HP3.out.far kc (fun b hb hh => by have := hh.1; omega)))
    rw [Hex.out] at HX
    clear kc
    go_wp2_with fail
    refine HX.out.mono ?_
    rintro e w4 ⟨v, ev, rfl, _, hev, h1, h2⟩
    have HK4 := Lib.hid (HKA.out.trans h2 (fun b o hb hh => by have := hh.1; omega))
    have HE4 := Lib.hid (HEA.out.chg h2 (fun _ => zrow_zero))
    have HR4 := Lib.hid (read_head w.heap.size s ex.p _ w4 h1 (by omega) Hpx.out (by omega) HE4.out.eof)
    clear h1 h2
    rcases hev with ⟨hx0, rfl⟩ | hev
    · go_wp2_with fail
      refine HR4.out.mono ?_
      rintro e w5 ⟨more, c5, rfl, h1, h2⟩
      have Hm := Lib.hid h1.2.1
      have he5 : w5.cell? ⟨0, 0, none⟩ = some (.iface 229 (.pointer (some aE))) := h2.cell HE4.out.eof zrow_zero
      have HK5 := Lib.hid (HK4.out.trans h2 (fun b o hb hh => by have := hh.1; omega))
      clear h1 h2
      cases more with
      | true =>
        rw [errOf_true]
        have hnn := nil_neq aE
        go_wp2
        go_ret2
        exact ⟨rfl, HK5.out⟩
      | false =>
        exfalso
        have h5 := Hpx.out
        have h6 : ex.p = s.size := by
          rcases Nat.lt_or_ge ex.p s.size with h | h
          · have := Hm.out.2 h; cases this
          · omega
        exact Hbad.out ⟨h0, hx0, h6⟩
    · rcases hev with ⟨_, rfl⟩ | ⟨_, rfl⟩ | ⟨_, N, rfl⟩
      · go_wp2
        go_ret2
        exact ⟨rfl, HK4.out⟩
      · go_wp2
        go_ret2
        exact ⟨rfl, HK4.out⟩
      · go_wp2
        go_ret2
        exact ⟨rfl, HK4.out⟩
  · rw [if_neg h0]
    clear kc
    by_cases h1 : sc.err = 1
    · rw [if_pos h1]
      go_wp2
      go_ret2
      exact ⟨rfl, HKA.out⟩
    · rw [if_neg h1]
      go_wp2
      go_ret2
      exact ⟨rfl, HKA.out⟩
end Go.Proofs.YtmgfajamanakcaaGreatDoor
