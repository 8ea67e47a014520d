/-
  (*Rat).SetString on a text that is no number, walked. Conditions: a text below 2^20 bytes, the Rat new.
-/
import Derived.Test.YtmgfajamanakcaaGreatDoorIt
import Derived.Outline
namespace Go.Proofs.YtmgfajamanakcaaGreatDoor
open Go.RowKit
set_option maxRecDepth 100000
set_option linter.unusedVariables false
def StrPost (w : World) (s : ByteArray) (base : Int) (zb zo : Nat) (e : Ending) (w' : World) : Prop :=
  ∃ pv ok, e = .returned (.tuple #[pv, .bool ok]) ∧ (ok = true ↔ intOk s 0 base) ∧ (ok = true → ∃ a n c, IntC w' zb zo (decide (0 < n) && (signAt s 0).1) a n c ∧ Got w w' a n c (scanS base false s (signAt s 0).2).V) ∧ Chg (zRow zb zo 2) w w'
theorem SetString_one (s : ByteArray) (base : Int) (zb zo : Nat) (neg0 : Bool) (aE a1 a2 : Addr) (w : World) (hs : s.size < 1048576) (hzb : zb ≠ 0)
    (hE : Errs w (.iface 229 (.pointer (some aE))) (.iface 229 (.pointer (some a1))) (.iface 229 (.pointer (some a2)))) (hz : IntC w zb zo neg0 none 0 0) (hbase : base = 0 ∨ base = 2 ∨ base = 8 ∨ base = 10 ∨ base = 16) :
    Calls Tryz.prog 125 #[.pointer (some ⟨zb, zo, none⟩), .string s, .int .i64 base] w (StrPost w s base zb zo) := by
  refine (SetString_any s base zb zo neg0 aE a1 a2 w hs hzb hE hz hbase).mono ?_
  rintro e w' (⟨h0, rfl, h1, h2⟩ | ⟨h0, rfl, h2⟩)
  · exact ⟨_, true, rfl, ⟨fun _ => h0, fun _ => rfl⟩, fun _ => h1, h2⟩
  · exact ⟨_, false, rfl, ⟨(fun h => by cases h), fun h => absurd h h0⟩, (fun h => by cases h), h2⟩
def RatBad (w : World) (rb : Nat) (e : Ending) (w' : World) : Prop := e = .returned (.tuple #[.pointer none, .bool false]) ∧ Chg (zRow rb 0 4) w w'
def denOk (s : ByteArray) : Prop := (scanS 0 false s 0).err = 0 ∧ (scanS 0 false s 0).p = s.size
theorem Errs.far {Z : Zone} {w w' : World} {eof e1 e2 : Value} (h : Errs w eof e1 e2) (k : Chg Z w w') (hz : ∀ b, b < 14 → ¬ Z b 0) : Errs w' eof e1 e2 := ⟨k.cell h.eof (hz _ (by omega)), k.cell h.sep (hz _ (by omega)), k.cell h.dig (hz _ (by omega))⟩
theorem zzAt_of {s : ByteArray} {i : Nat} (h : stroke s = some i) : zzAt s = (i : Int) := by unfold zzAt; rw [h]
theorem zzAt_no {s : ByteArray} (h : stroke s = none) : zzAt s = -1 := by unfold zzAt; rw [h]
theorem zrow4 {w : World} {rb : Nat} (hb : rb < w.heap.size) : ∀ b o, b < w.heap.size → zRow w.heap.size 1 2 b o → zRow rb 0 4 b o := fun b o h hh => by have := hh.1; omega
set_option maxHeartbeats 8000000 in
theorem RatSet_slash (s : ByteArray) (i rb : Nat) (aE a1 a2 : Addr) (w : World) (hs : s.size < 1048576) (hrb : 14 ≤ rb)
    (hE : Errs w (.iface 229 (.pointer (some aE))) (.iface 229 (.pointer (some a1))) (.iface 229 (.pointer (some a2)))) (hA : IntC w rb 0 false none 0 0) (hB : IntC w rb 2 false none 0 0)
    (hst : stroke s = some i) (hbad : ¬ (intOk (s.extract 0 i) 0 0 ∧ denOk (s.extract (i + 1) s.size))) :
    Calls Tryz.prog 68 #[.pointer (some ⟨rb, 0, none⟩), .string s] w (RatBad w rb) := by
  have hsp := strokeF_some s.size 0 i hst
  have hi : i < s.size := by omega
  have hlt := hA.lt
  have hx1 : (s.extract 0 i).size < 1048576 := by simp; omega
  have hx2 : (s.extract (i + 1) s.size).size < 1048576 := by simp; omega
  have hne0 : ((s.size : Int) == 0) = false := beq_false_of_ne (by omega)
  have hge : decide ((0 : Int) ≤ (i : Int)) = true := by simp
  have hge2 : (0 : Int) ≤ (i : Int) := by omega
  have hle : (i : Int) ≤ (s.size : Int) := by omega
  have hle2 : (i : Int) + 1 ≤ (s.size : Int) := by omega
  have hle3 : (0 : Int) ≤ (i : Int) + 1 := by omega
  have kd : Chg zNone w w.drew := (Chg.refl _ _).drew
  have HZ := Lib.hid (show Calls Tryz.prog 124 #[.string s, .string ⟨#[47]⟩] w fun e w' => e = .returned (.int .i64 i) ∧ w = w' by
    have := zzIndex_any s w hs
    rwa [zzAt_of hst] at this)
  have HC := Lib.hid (SetString_one (s.extract 0 i) 0 rb 0 false aE a1 a2 w.drew hx1 (by omega) (hE.chg kd (fun _ h => h)) (hA.chg kd (fun _ _ h => h)) (Or.inl rfl))
  have HB := Lib.hid hB
  have HE := Lib.hid hE
  have Hbad := Lib.hid hbad
  clear hE hA hB kd hst hbad hsp
  go_enter Tryz.func68, Tryz.ntmps68
  go_wp2_with fail
  refine HZ.out.mono ?_
  rintro e w0 ⟨rfl, rfl⟩
  go_wp2_with fail
  go_region_with (go_at_call 125; refine HC.out.mono ?_; rintro e w1 ⟨pv, ok, rfl, q1, q2, q3⟩; have HQ := Lib.hid (And.intro q1 q3); clear q1 q2 q3)
  have kw : Hid (Chg (zRow rb 0 4) w w1) := ((Chg.refl _ w).drew).trans HQ.out.2 (fun b o _ hh => ⟨hh.1, by omega, by have := hh.2.2; omega⟩)
  cases ok with
  | false =>
    go_wp2
    go_ret2
    exact ⟨rfl, kw.out⟩
  | true =>
    have HE1 : Hid (Errs w1 (.iface 229 (.pointer (some aE))) (.iface 229 (.pointer (some a1))) (.iface 229 (.pointer (some a2)))) := HE.out.far kw.out (fun b hb hh => by have := hh.1; omega)
    have k2 : Chg (zRow rb 0 2) w w1 := ((Chg.refl _ w).drew).trans HQ.out.2 (fun b o _ hh => hh)
    have HB1 := Lib.hid (show IntC w1 rb 2 false none 0 0 from HB.out.chg k2 (fun o ho hh => by have := hh.2.2; omega))
    have HN := Lib.hid (NewReader_any (s.extract (i + 1) s.size) w1)
    have hlt1 : rb < w1.heap.size := by have := k2.size; omega
    have hsz1 : w.heap.size ≤ w1.heap.size := k2.size
    clear k2
    have Hin := Lib.hid (HQ.out.1.1 rfl)
    go_wp2_with fail
    refine HN.out.mono ?_
    rintro e w2 ⟨rfl, rfl⟩
    have kal : Chg zNone w1 (w1.alloc (.cells #[.string (s.extract (i + 1) s.size), .int .i64 0, .int .i64 (-1)] 225)) := (Chg.refl _ _).alloc _
    have HE2 := Lib.hid (HE1.out.chg kal (fun _ h => h))
    have HB2 := Lib.hid (HB1.out.chg kal (fun _ _ h => h))
    have HK2 := Lib.hid (kw.out.trans kal (fun _ _ _ h => h.elim))
    have HSC := Lib.hid (scan_any w1.heap.size (s.extract (i + 1) s.size) 0 0 false aE _ _ _ (rd_new (s.extract (i + 1) s.size) w1) hx2 (Nat.zero_le _) (by omega) HE2.out (Or.inl rfl))
    clear kal
    obtain ⟨hb0, hb1, hb2, hb3⟩ := HB2.out
    obtain ⟨sc, hsc⟩ : ∃ x, scanS 0 false (s.extract (i + 1) s.size) 0 = x := ⟨_, rfl⟩
    have Hsc := Lib.hid hsc
    have Hpo := Lib.hid (show sc.p ≤ (s.extract (i + 1) s.size).size by rw [← hsc]; exact (scanS_ok (Nat.zero_le _) (by omega)).2.1)
    rw [hsc] at HSC
    clear hsc
    go_wp2_with fail
    refine HSC.out.mono ?_
    rintro e w3 ⟨a, n, c, rfl, h1, h2, h3⟩
    clear hb0 hb1 hb2 hb3
    have HB3 := Lib.hid (HB2.out.chg h3 (fun o ho hh => by have := hh.1; omega))
    have HK3 := Lib.hid (HK2.out.trans h3 (fun b o hb hh => by have := hh.1; omega))
    have HE3 := Lib.hid (HE2.out.chg h3 (fun _ => zrow_zero))
    have HR3 := Lib.hid h2
    clear h1 h2 h3
    obtain ⟨hb0, hb1, hb2, hb3⟩ := HB3.out
    have KA : Hid (Chg (zRow rb 0 4) w (w3.setCell ⟨rb, 3, none⟩ (.slice a n c))) := HK3.out.setCell rb 3 _ (fun _ => ⟨rfl, by omega, by omega⟩)
    by_cases h0 : sc.err = 0
    · rw [if_pos h0]
      have HR4 := Lib.hid (read_head w1.heap.size (s.extract (i + 1) s.size) sc.p _ (w3.setCell ⟨rb, 3, none⟩ (.slice a n c)) (HR3.out.chg (chg_cell _ _ _ _) (fun o _ hh => by have := hh.1; omega)) (by omega) Hpo.out (by omega) (HE3.out.far (chg_cell _ _ _ _) (fun b hb hh => by have := hh.1; omega)).eof)
      go_wp2_with fail
      refine HR4.out.mono ?_
      rintro e w4 ⟨more, c4, rfl, h1, h2⟩
      have Hm := Lib.hid h1.2.1
      have he4 : w4.cell? ⟨0, 0, none⟩ = some (.iface 229 (.pointer (some aE))) := h2.cell (HE3.out.far (chg_cell _ _ _ _) (fun b hb hh => by have := hh.1; omega)).eof zrow_zero
      have K4 := Lib.hid (KA.out.trans h2 (fun b o hb hh => by have := hh.1; omega))
      clear h1 h2
      cases more with
      | true =>
        rw [errOf_true]
        have hnn := nil_neq aE
        go_wp2
        go_ret2
        exact ⟨rfl, K4.out⟩
      | false =>
        exfalso
        have h5 := Hpo.out
        have h6 : sc.p = (s.extract (i + 1) s.size).size := by
          rcases Nat.lt_or_ge sc.p (s.extract (i + 1) s.size).size with h | h
          · have := Hm.out.2 h; cases this
          · omega
        exact Hbad.out ⟨Hin.out, by rw [Hsc.out]; exact h0, by rw [Hsc.out]; exact h6⟩
    · rw [if_neg h0]
      by_cases h1 : sc.err = 1
      · rw [if_pos h1]
        go_wp2
        go_ret2
        exact ⟨rfl, KA.out⟩
      · rw [if_neg h1]
        go_wp2
        go_ret2
        exact ⟨rfl, KA.out⟩
end Go.Proofs.YtmgfajamanakcaaGreatDoor
