/-
  The shift to the right of a number: nat.rsh. Conditions: 0 < s < 2^32, x at z's own place or apart from z.
-/
import Derived.Test.YtmgfajamanakcaaGreatDoorSh
namespace Go.Proofs.YtmgfajamanakcaaGreatDoor
open Go.RowKit
set_option maxRecDepth 100000
set_option linter.unusedVariables false
/-- The first m of c cells were written with words: all c may be written. -/
theorem room_after {w w' : World} {b o m c : Nat} {Z : Nat → Int} (h : Room w b o c) (hm : m ≤ c) (k : Chg (zRow b o m) w w') (hw : Words w' b o m Z) : Room w' b o c := by
  have h1 : Room w' b o m := hw.room (fun i hi => by
    obtain ⟨⟨z, hz⟩, hf⟩ := h i (by omega)
    rw [k.frozen hz]; exact hf)
  have h2 : Room w' b (o + m) (c - m) := (h.drop m (c - m) (by omega)).chg k (fun i hi ⟨_, _, h3⟩ => by omega)
  have := h1.join h2
  rwa [show m + (c - m) = c by omega] at this
/-- What make gave, m words written there, without its last words 0: a result. -/
theorem natres_close {w w1 w2 : World} {az : Option Addr} {zc b o c m i : Nat} {Z : Nat → Int} {v : Int}
    (H : m ≤ c ∧ ZOK w1 (some ⟨b, o, none⟩) c ∧ Home w az zc (some ⟨b, o, none⟩) c ∧ Chg zNone w w1 ∧ PB w1 b ∧ Room w1 b o c)
    (k : Chg (zRow b o m) w1 w2) (hw : Words w2 b o m Z) (hwf : WF Z m) (hv : val Z m = v)
    (n1 : i ≤ m) (n2 : ∀ j, i ≤ j → j < m → Z j = 0) (n3 : Norm Z i) : NatRes w az zc v (.returned (.slice (some ⟨b, o, none⟩) i c)) w2 := by
  obtain ⟨q1, q2, q3, q4, q5, q6⟩ := H
  refine ⟨some ⟨b, o, none⟩, i, c, Z, rfl, by omega, Or.inr ⟨b, o, rfl, q5.chg k, room_after q6 q1 k hw, q2.cap⟩, Or.inr ⟨b, o, rfl, hw.le n1⟩, hwf.le n1, n3, ?_, q3, ?_⟩
  · rw [← val_top n1 n2]; exact hv
  · exact (q4.mono (Z' := zAddr az zc) (fun _ _ _ h => h.elim)).trans k (fun bb oo hbb ⟨e1, e2, e3⟩ => q3.zone bb oo hbb ⟨o, by rw [e1], e2, by omega⟩)
set_option maxHeartbeats 2000000 in
theorem rsh_any (az ax : Option Addr) (zl zc xn xc : Nat) (X : Nat → Int) (s : Nat) (w : World) (hz : ZOK w az zc) (hx : Rd w ax xn X) (hxw : WF X xn) (hxc : xn ≤ xc) (hxn : xn < 1099511627776) (hap : Apart az zc ax xn) (hs0 : 0 < s) (hs : s < 4294967296) :
    Calls Tryz.prog 178 #[.slice az zl zc, .slice ax xn xc, .int .u64 s] w (NatRes w az zc (val X xn / 2 ^ s)) := by
  have Hz := Lib.hid hz
  have Hx := Lib.hid hx
  have Hxw := Lib.hid hxw
  have Hap := Lib.hid hap
  have hzc := hz.cap
  clear hz hx hxw hap
  have hsb : ((s : Int) == 0) = false := by simp; omega
  by_cases hm : xn ≤ s / 64
  · have hb : decide ((xn : Int) - (s : Int) / 64 ≤ 0) = true := by simp; omega
    have H0 := Lib.hid (val_shr_zero Hxw.out hm)
    go_enter Tryz.func178, Tryz.ntmps178
    go_wp2
    go_ret
    exact ⟨az, 0, zc, fun _ => 0, rfl, Nat.zero_le _, Hz.out, Or.inl rfl, fun i hi => by omega, Or.inl rfl, H0.out.symm, Or.inl ⟨rfl, rfl⟩, Chg.refl _ _⟩
  · have hb : decide ((xn : Int) - (s : Int) / 64 ≤ 0) = false := by simp; omega
    go_enter Tryz.func178, Tryz.ntmps178
    go_wp2_with fail
    rw [show ((xn : Int) - (s : Int) / 64) = ((xn - s / 64 : Nat) : Int) from by omega]
    obtain ⟨m, hmm⟩ : ∃ m, xn - s / 64 = m := ⟨_, rfl⟩
    rw [hmm]
    refine (make_any az zl zc m _ Hz.out (by omega)).mono ?_
    rintro e w1 ⟨a, c, rfl, h1, h2, h3, h4⟩
    obtain ⟨b, o, rfl, hb1, hroom⟩ := h2.room (by omega)
    have hcap := h2.cap
    obtain ⟨bx, ox, rfl, hX⟩ : ∃ bx ox, ax = some ⟨bx, ox, none⟩ ∧ Words w bx ox xn X := by
      rcases Hx.out with h | h
      · exact absurd h (by omega)
      · exact h
    have hbx : bx < w.heap.size := lt_of_cell (hX 0 (by omega))
    have hX1 : Words w1 bx (ox + s / 64) m (fun i => X (s / 64 + i)) := (hX.chg h4 (fun i hi h => h.elim)).drop (s / 64) m (by omega)
    have hfwd : Fwd bx (ox + s / 64) b o m := fwd_of_home h3 Hap.out hbx (by omega) h1
    have H := Lib.hid (And.intro h1 (And.intro h2 (And.intro h3 (And.intro h4 (And.intro hb1 hroom)))))
    have HX1 := Lib.hid hX1
    have HF := Lib.hid hfwd
    have hmc : m ≤ c := h1
    clear h1 h2 h3 h4 hroom hX1 hfwd hX hbx hb1
    have hsub : (xn : Int) - (m : Int) = ((s / 64 : Nat) : Int) := by omega
    by_cases hr : s % 64 = 0
    · have hrb : ((s : Int) % 64 == 0) = true := by simp; omega
      have HRd : Hid (Rd w1 (some ⟨bx, ox + s / 64, none⟩) m (fun i => X (s / 64 + i))) := Or.inr ⟨bx, ox + s / 64, rfl, HX1.out⟩
      go_wp2_with (with_reducible refine wpList_copy_word rfl (.tmp 40) (.tmp 45) 120 120 rfl Tryz.underlying120 b o m c (some ⟨bx, ox + s / 64, none⟩) (xn - s / 64) (xc - s / 64) m (fun i => X (s / 64 + i)) rfl rfl (by rw [hmm]; exact (Nat.min_self m).symm) (H.out.2.2.2.2.2.le H.out.1) HRd.out ?_; rintro w2 hw2; have Hq := Lib.hid hw2; clear hw2)
      go_wp2_with fail
      refine (norm_any (some ⟨b, o, none⟩) m c (fun i => X (s / 64 + i)) _ (Or.inr ⟨b, o, rfl, Hq.out.2.1⟩) hmc hcap).mono ?_
      rintro e w3 ⟨i, rfl, n1, n2, n3, rfl⟩
      have HR := Lib.hid (natres_close H.out Hq.out.1 Hq.out.2.1 (fun i hi => Hxw.out _ (by omega)) rfl n1 n2 n3)
      clear n1 n2 n3
      go_wp2
      go_ret
      rw [val_shr Hxw.out (by omega), hr, hmm]
      simpa using HR.out
    · have hrb : ((s : Int) % 64 == 0) = false := by simp; omega
      go_wp2_with fail
      rw [show ((s : Int) % 64) = ((s % 64 : Nat) : Int) from by omega]
      refine (rshVU_any bx (ox + s / 64) b o m (xc - s / 64) c (fun i => X (s / 64 + i)) (s % 64) _ (by omega) (by omega) HX1.out (fun i hi => Hxw.out _ (by omega)) (H.out.2.2.2.2.2.le H.out.1) HF.out (by omega) (by omega)).mono ?_
      rintro e w2 ⟨cy, rfl, Z, q1, q2, q3, q4⟩
      have Hq := Lib.hid (And.intro q1 (And.intro q2 (And.intro q3 (shr_of_post q4))))
      clear q1 q2 q3 q4
      go_wp2_with fail
      refine (norm_any (some ⟨b, o, none⟩) m c Z _ (Or.inr ⟨b, o, rfl, Hq.out.2.1⟩) hmc hcap).mono ?_
      rintro e w3 ⟨i, rfl, n1, n2, n3, rfl⟩
      have HR := Lib.hid (natres_close H.out Hq.out.1 Hq.out.2.1 Hq.out.2.2.1 Hq.out.2.2.2 n1 n2 n3)
      clear n1 n2 n3
      go_wp2
      go_ret
      rw [val_shr Hxw.out (by omega), hmm]
      exact HR.out
end Go.Proofs.YtmgfajamanakcaaGreatDoor
