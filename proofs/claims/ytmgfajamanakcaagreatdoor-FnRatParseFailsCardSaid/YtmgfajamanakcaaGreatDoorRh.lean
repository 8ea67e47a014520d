/-
  (*Rat).SetString on 1 over a word, walked. Conditions: a text below 2^20 bytes, the Rat new.
-/
import Derived.Test.YtmgfajamanakcaaGreatDoorRw
import Derived.Test.YtmgfajamanakcaaGreatDoorNm
import Derived.Outline
namespace Go.Proofs.YtmgfajamanakcaaGreatDoor
open Go.RowKit
set_option maxRecDepth 100000
set_option linter.unusedVariables false
theorem got_one {w0 w : World} {a : Option Addr} {n c : Nat} {V : Int} (h : Got w0 w a n c V) (h1 : 1 ≤ V) (h2 : V < 18446744073709551616) : n = 1 ∧ Rd w a 1 (fun _ => V) := by
  obtain ⟨_, _, _, _, X, g1, g2, g3, g4⟩ := h
  have hn : n = 1 := by
    rcases Nat.lt_trichotomy n 1 with h | h | h
    · obtain rfl : n = 0 := by omega
      simp [val] at g4; omega
    · exact h
    · have h3 := norm_ge g2 g3 (by omega)
      have h4 := BB_mono (show 1 ≤ n - 1 by omega)
      have h5 : BB ^ 1 = 18446744073709551616 := by decide
      omega
  subst hn
  rw [val_one] at g4
  refine ⟨rfl, ?_⟩
  rcases g1 with h | ⟨b, o, e, hw⟩
  · cases h
  · exact Or.inr ⟨b, o, e, hw.congr (fun i hi => by obtain rfl : i = 0 := by omega
                                                    exact g4)⟩
def RatOne (w : World) (rb : Nat) (y : Int) (e : Ending) (w' : World) : Prop :=
  ∃ na a c b d, e = .returned (.tuple #[.pointer (some ⟨rb, 0, none⟩), .bool true]) ∧ IntC w' rb 0 na a 1 c ∧ IntC w' rb 2 false b 1 d ∧ Rd w' a 1 (fun _ => 1) ∧ Rd w' b 1 (fun _ => y) ∧ Chg (zRow rb 0 4) w w'
set_option maxHeartbeats 8000000 in
theorem RatSet_good (s : ByteArray) (i rb : Nat) (y : Int) (aE a1 a2 : Addr) (w : World) (hs : s.size < 1048576) (hrb : 14 ≤ rb)
    (hE : Errs w (.iface 229 (.pointer (some aE))) (.iface 229 (.pointer (some a1))) (.iface 229 (.pointer (some a2)))) (hA : IntC w rb 0 false none 0 0) (hB : IntC w rb 2 false none 0 0)
    (hst : stroke s = some i) (hgood : intOk (s.extract 0 i) 0 0 ∧ denOk (s.extract (i + 1) s.size))
    (hV1 : (scanS 0 false (s.extract 0 i) (signAt (s.extract 0 i) 0).2).V = 1) (hV2 : (scanS 0 false (s.extract (i + 1) s.size) 0).V = y) (hy : 1 < y) (hy2 : y < 18446744073709551616) (hp : PB w rb) :
    Calls Tryz.prog 68 #[.pointer (some ⟨rb, 0, none⟩), .string s] w (RatOne w rb y) := by
  have hsp := strokeF_some s.size 0 i hst
  have hi : i < s.size := by omega
  have hlt := hA.lt
  have hx1 : (s.extract 0 i).size < 1048576 := by simp; omega
  have hx2 : (s.extract (i + 1) s.size).size < 1048576 := by simp; omega
  have hne0 : ((s.size : Int) == 0) = false := beq_false_of_ne (by omega)
  have hge : decide ((0 : Int) ≤ (i : Int)) = true := by simp
  have hge2 : (0 : Int) ≤ (i : Int) := by omega
  have hle : (i : Int) ≤ (s.size : Int) := by omega
  have hle2 : (i : Int) + 1 ≤ (s.size : Int) := by omega
  have hle3 : (0 : Int) ≤ (i : Int) + 1 := by omega
  have kd : Chg zNone w w.drew := (Chg.refl _ _).drew
  have HZ := Lib.hid (show Calls Tryz.prog 124 #[.string s, .string ⟨#[47]⟩] w fun e w' => e = .returned (.int .i64 i) ∧ w = w' by
    have := zzIndex_any s w hs
    rwa [zzAt_of hst] at this)
  have HC := Lib.hid (SetString_one (s.extract 0 i) 0 rb 0 false aE a1 a2 w.drew hx1 (by omega) (hE.chg kd (fun _ h => h)) (hA.chg kd (fun _ _ h => h)) (Or.inl rfl))
  have HB := Lib.hid hB
  have HE := Lib.hid hE
  have Hgood := Lib.hid hgood
  have HV := Lib.hid (And.intro hV1 hV2)
  have HP := Lib.hid hp
  clear hE hA hB kd hst hgood hsp hV1 hV2 hp
  go_enter Tryz.func68, Tryz.ntmps68
  go_wp2_with fail
  refine HZ.out.mono ?_
  rintro e w0 ⟨rfl, rfl⟩
  go_wp2_with fail
  go_region_with (go_at_call 125; refine HC.out.mono ?_; rintro e w1 ⟨pv, ok, rfl, q1, q2, q3⟩; have HQ := Lib.hid (And.intro q1 q3); have HQ2 := Lib.hid q2; clear q1 q2 q3)
  have kw : Hid (Chg (zRow rb 0 4) w w1) := ((Chg.refl _ w).drew).trans HQ.out.2 (fun b o _ hh => ⟨hh.1, by omega, by have := hh.2.2; omega⟩)
  cases ok with
  | false =>
    exfalso
    have := HQ.out.1.2 Hgood.out.1
    cases this
  | true =>
    have HE1 : Hid (Errs w1 (.iface 229 (.pointer (some aE))) (.iface 229 (.pointer (some a1))) (.iface 229 (.pointer (some a2)))) := HE.out.far kw.out (fun b hb hh => by have := hh.1; omega)
    have k2 : Chg (zRow rb 0 2) w w1 := ((Chg.refl _ w).drew).trans HQ.out.2 (fun b o _ hh => hh)
    have HB1 := Lib.hid (show IntC w1 rb 2 false none 0 0 from HB.out.chg k2 (fun o ho hh => by have := hh.2.2; omega))
    have HN := Lib.hid (NewReader_any (s.extract (i + 1) s.size) w1)
    have hlt1 : rb < w1.heap.size := by have := k2.size; omega
    have hsz1 : w.heap.size ≤ w1.heap.size := k2.size
    clear k2
    obtain ⟨aa, an, ac, hI, hG⟩ := HQ2.out rfl
    obtain ⟨rfl, hra⟩ := got_one hG (by rw [HV.out.1]; decide) (by rw [HV.out.1]; decide)
    rw [HV.out.1] at hra
    obtain ⟨pa, oa, rfl, lpa⟩ := ord_lt hra
    have fpa : w.heap.size ≤ pa := by
      rcases hG.2.2.2.1 with h | ⟨b, o, e, hb⟩
      · cases h
      · injection e with e; injection e with e1 _; rw [e1]; exact hb
    have HA1 := Lib.hid (And.intro hI (And.intro hra hG.1))
    clear hI hra hG
    go_wp2_with fail
    refine HN.out.mono ?_
    rintro e w2 ⟨rfl, rfl⟩
    have kal : Chg zNone w1 (w1.alloc (.cells #[.string (s.extract (i + 1) s.size), .int .i64 0, .int .i64 (-1)] 225)) := (Chg.refl _ _).alloc _
    have HE2 := Lib.hid (HE1.out.chg kal (fun _ h => h))
    have HB2 := Lib.hid (HB1.out.chg kal (fun _ _ h => h))
    have HK2 := Lib.hid (kw.out.trans kal (fun _ _ _ h => h.elim))
    have HSC := Lib.hid (scan_any w1.heap.size (s.extract (i + 1) s.size) 0 0 false aE _ _ _ (rd_new (s.extract (i + 1) s.size) w1) hx2 (Nat.zero_le _) (by omega) HE2.out (Or.inl rfl))
    clear kal
    obtain ⟨hb0, hb1, hb2, hb3⟩ := HB2.out
    obtain ⟨sc, hsc⟩ : ∃ x, scanS 0 false (s.extract (i + 1) s.size) 0 = x := ⟨_, rfl⟩
    have Hsc := Lib.hid hsc
    have Hpo := Lib.hid (show sc.p ≤ (s.extract (i + 1) s.size).size by rw [← hsc]; exact (scanS_ok (Nat.zero_le _) (by omega)).2.1)
    rw [hsc] at HSC
    clear hsc
    go_wp2_with fail
    refine HSC.out.mono ?_
    rintro e w3 ⟨a, n, c, rfl, h1, h2, h3⟩
    clear hb0 hb1 hb2 hb3
    have HB3 := Lib.hid (HB2.out.chg h3 (fun o ho hh => by have := hh.1; omega))
    have HK3 := Lib.hid (HK2.out.trans h3 (fun b o hb hh => by have := hh.1; omega))
    have HE3 := Lib.hid (HE2.out.chg h3 (fun _ => zrow_zero))
    have HR3 := Lib.hid h2
    have k13 : Chg (zRow w1.heap.size 1 2) w1 w3 := (((Chg.refl _ _).alloc _)).trans h3 (fun _ _ _ h => h)
    have K13 := Lib.hid k13
    obtain ⟨hn1, hrb⟩ := got_one h1 (by rw [← Hsc.out, HV.out.2]; omega) (by rw [← Hsc.out, HV.out.2]; omega)
    rw [← Hsc.out, HV.out.2] at hrb
    obtain ⟨pb, ob, rfl, lpb⟩ := ord_lt hrb
    have fpb : w1.heap.size + 1 ≤ pb := by
      rcases h1.2.2.2.1 with h | ⟨b, o, e, hb⟩
      · cases h
      · injection e with e; injection e with e1 _
        have := alloc_size w1 (.cells #[.string (s.extract (i + 1) s.size), .int .i64 0, .int .i64 (-1)] 225)
        omega
    have hc1 := h1.1
    subst hn1
    have HRB := Lib.hid hrb
    clear h1 h2 h3 k13 hrb
    obtain ⟨hb0, hb1, hb2, hb3⟩ := HB3.out
    have KA : Hid (Chg (zRow rb 0 4) w (w3.setCell ⟨rb, 3, none⟩ (.slice (some ⟨pb, ob, none⟩) 1 c))) := HK3.out.setCell rb 3 _ (fun _ => ⟨rfl, by omega, by omega⟩)
    by_cases h0 : sc.err = 0
    · rw [if_pos h0]
      have HR4 := Lib.hid (read_head w1.heap.size (s.extract (i + 1) s.size) sc.p _ (w3.setCell ⟨rb, 3, none⟩ (.slice (some ⟨pb, ob, none⟩) 1 c)) (HR3.out.chg (chg_cell _ _ _ _) (fun o _ hh => by have := hh.1; omega)) (by omega) Hpo.out (by omega) (HE3.out.far (chg_cell _ _ _ _) (fun b hb hh => by have := hh.1; omega)).eof)
      go_wp2_with fail
      refine HR4.out.mono ?_
      rintro e w4 ⟨more, c4, rfl, h1, h2⟩
      have Hm := Lib.hid h1.2.1
      have he4 : w4.cell? ⟨0, 0, none⟩ = some (.iface 229 (.pointer (some aE))) := h2.cell (HE3.out.far (chg_cell _ _ _ _) (fun b hb hh => by have := hh.1; omega)).eof zrow_zero
      have K4 := Lib.hid (KA.out.trans h2 (fun b o hb hh => by have := hh.1; omega))
      have K34 := Lib.hid h2
      have ks := chg_cell w3 rb 3 (.slice (some ⟨pb, ob, none⟩) 1 c)
      have k14 : Chg (zOr (zRow w1.heap.size 1 2) (zRow rb 3 1)) w1 w4 := ((K13.out.mono (fun _ _ _ h => Or.inl h)).trans ks (fun _ _ _ h => Or.inr h)).trans h2 (fun _ _ _ h => Or.inl h)
      have hA4 := HA1.out.1.chg k14 (fun o ho h => by rcases h with h | h; (have := h.1; omega); (have := h.2; omega))
      have rA4 := rd_far HA1.out.2.1 k14 (fun b o i e _ h => by
        injection e with e; injection e with e1 _
        rcases h with h | h
        · have := h.1; omega
        · have := h.1; omega)
      have hB4 := (HB3.out.abs (a' := some ⟨pb, ob, none⟩) (n' := 1) (c' := c)).chg h2 (fun o ho h => by have := h.1; omega)
      have rB4 := rd_far (rd_far HRB.out ks (fun b o i e _ h => by
        injection e with e; injection e with e1 _
        have := h.1; omega)) h2 (fun b o i e _ h => by
        injection e with e; injection e with e1 _
        have := h.1; omega)
      have HNO := Lib.hid (norm_one rb _ _ _ _ ac c y w4 hA4 hB4 rA4 rB4 HA1.out.2.2 hc1 hy hy2 (HP.out.chg K4.out) (fun b o e => by injection e with e; injection e with e1 _; omega) (fun b o e => by injection e with e; injection e with e1 _; omega))
      obtain ⟨hb5, hb6, hb7, hb8⟩ := hB4
      clear h1 h2 ks k14 hA4 rA4 rB4
      cases more with
      | true =>
        exfalso
        have h5 := Hm.out.1 rfl
        have h6 := Hgood.out.2.2
        rw [Hsc.out] at h6
        omega
      | false =>
        rw [errOf_false]
        have hee := eof_neq aE
        go_wp2_with fail
        refine HNO.out.mono ?_
        rintro e w5 ⟨na, a', c', b', d', rfl, g1, g2, g3, g4, g5⟩
        have HF := Lib.hid (And.intro g1 (And.intro g2 (And.intro g3 (And.intro g4 g5))))
        clear g1 g2 g3 g4 g5
        go_wp2
        go_ret2
        obtain ⟨g1, g2, g3, g4, g5⟩ := HF.out
        exact ⟨na, a', c', b', d', rfl, g1, g2, g3, g4, K4.out.trans g5 (fun _ _ _ h => h)⟩
    · exfalso
      have h6 := Hgood.out.2.1
      rw [Hsc.out] at h6
      exact h0 h6
def halfS : ByteArray := ⟨#[49, 47, 50]⟩
theorem half_stroke : stroke halfS = some 1 := by kernel_rfl
theorem half_left : intOk (halfS.extract 0 1) 0 0 := ⟨by decide +kernel, by kernel_rfl, by kernel_rfl⟩
theorem half_right : denOk (halfS.extract (1 + 1) halfS.size) := ⟨by kernel_rfl, by kernel_rfl⟩
theorem half_v1 : (scanS 0 false (halfS.extract 0 1) (signAt (halfS.extract 0 1) 0).2).V = 1 := by kernel_rfl
theorem half_v2 : (scanS 0 false (halfS.extract (1 + 1) halfS.size) 0).V = 2 := by kernel_rfl
def HalfPost (w : World) (e : Ending) (w' : World) : Prop :=
  ∃ B a c b d, e = .returned (.tuple #[.agg #[.bool B, .slice a 1 c, .slice b 1 d], .bool true]) ∧ Chg zNone w w'
set_option maxHeartbeats 2000000 in
theorem RatParse_half (aE a1 a2 : Addr) (w : World) (hw : 14 ≤ w.heap.size)
    (hE : Errs w (.iface 229 (.pointer (some aE))) (.iface 229 (.pointer (some a1))) (.iface 229 (.pointer (some a2)))) :
    Calls Tryz.prog 36 #[.string halfS] w (HalfPost w) := by
  have H := Lib.hid hE
  have hs : halfS.size < 1048576 := by decide +kernel
  clear hE
  go_enter Tryz.func36, Tryz.ntmps36
  go_wp2_with fail
  have hz : (w.alloc (.cells #[.bool false, .slice none 0 0, .slice none 0 0] 31)).heap.size = w.heap.size + 1 := alloc_size ..
  have hn : ∀ i v, (#[Value.bool false, .slice none 0 0, .bool false, .slice none 0 0] : Array Value)[i]? = some v → ((w.alloc (.cells #[.bool false, .slice none 0 0, .slice none 0 0] 31)).alloc (.cells #[.bool false, .slice none 0 0, .bool false, .slice none 0 0] 124)).cell? ⟨w.heap.size + 1, i, none⟩ = some v := fun i v hv => by
    have := cell?_alloc_new (w.alloc (.cells #[.bool false, .slice none 0 0, .slice none 0 0] 31)) #[.bool false, .slice none 0 0, .bool false, .slice none 0 0] 124 i v hv
    rwa [hz] at this
  have hf : ∀ i, ((w.alloc (.cells #[.bool false, .slice none 0 0, .slice none 0 0] 31)).alloc (.cells #[.bool false, .slice none 0 0, .bool false, .slice none 0 0] 124)).frozen? ⟨w.heap.size + 1, i, none⟩ = false := fun i => by
    have := frozen?_alloc_new (w.alloc (.cells #[.bool false, .slice none 0 0, .slice none 0 0] 31)) #[.bool false, .slice none 0 0, .bool false, .slice none 0 0] 124 i
    rwa [hz] at this
  have hpb : PB ((w.alloc (.cells #[.bool false, .slice none 0 0, .slice none 0 0] 31)).alloc (.cells #[.bool false, .slice none 0 0, .bool false, .slice none 0 0] 124)) (w.heap.size + 1) := by
    have := PB.new (w.alloc (.cells #[.bool false, .slice none 0 0, .slice none 0 0] 31)) #[.bool false, .slice none 0 0, .bool false, .slice none 0 0] 124
    rwa [hz] at this
  have k0 : Chg zNone w ((w.alloc (.cells #[.bool false, .slice none 0 0, .slice none 0 0] 31)).alloc (.cells #[.bool false, .slice none 0 0, .bool false, .slice none 0 0] 124)) := ((Chg.refl _ _).alloc _).alloc _
  have k1 : Chg zNone (w.alloc (.cells #[.bool false, .slice none 0 0, .slice none 0 0] 31)) ((w.alloc (.cells #[.bool false, .slice none 0 0, .slice none 0 0] 31)).alloc (.cells #[.bool false, .slice none 0 0, .bool false, .slice none 0 0] 124)) := (Chg.refl _ _).alloc _
  refine (RatSet_good halfS 1 (w.heap.size + 1) 2 aE a1 a2 _ hs (by omega) (H.out.chg k0 (fun _ h => h)) ⟨hn 0 _ rfl, hn 1 _ rfl, hf 0, hf 1⟩ ⟨hn 2 _ rfl, hn 3 _ rfl, hf 2, hf 3⟩ half_stroke ⟨half_left, half_right⟩ half_v1 half_v2 (by decide) (by decide) hpb).mono ?_
  rintro e w3 ⟨na, a, c, b, d, rfl, g1, g2, g3, g4, h1⟩
  have HF := Lib.hid (fraction_any (w.heap.size + 1) na false a b 1 c 1 d (fun _ => 1) (fun _ => 2) w3 g1 g2 g3 g4 (by decide) (by decide) (by decide))
  have k2 : Chg zNone w w3 := k0.trans h1 (fun b o hb hh => by have := hh.1; omega)
  have hc : ∀ i v, (#[Value.bool false, .slice none 0 0, .slice none 0 0] : Array Value)[i]? = some v → w3.cell? ⟨w.heap.size, i, none⟩ = some v := fun i v hv =>
    h1.cell (k1.cell (cell?_alloc_new w _ 31 i v hv) (fun h => h)) (fun hh => by have := hh.1; omega)
  have hg : ∀ i, w3.frozen? ⟨w.heap.size, i, none⟩ = false := fun i => by
    rw [h1.frozen (k1.cell (cell?_alloc_new w #[.bool false, .slice none 0 0, .slice none 0 0] 31 0 _ rfl) (fun h => h)), k1.frozen (cell?_alloc_new w #[.bool false, .slice none 0 0, .slice none 0 0] 31 0 _ rfl)]
    exact frozen?_alloc_new w _ 31 i
  have C := Lib.hid (And.intro hc hg)
  have K2 := Lib.hid k2
  clear hc hg hn hf k0 k1 k2 h1 hz g1 g2 g3 g4 hpb
  go_wp2_with fail
  refine HF.out.mono ?_
  rintro e w4 ⟨a', c', b', d', rfl, _, _, _, _, h5⟩
  obtain ⟨B, hB⟩ : ∃ B, decide (sgnV 1 na < 0) = B := ⟨_, rfl⟩
  rw [hB]
  clear hB
  have c0 : w4.cell? ⟨w.heap.size, 0, none⟩ = some (.bool false) := h5.cell (C.out.1 0 _ rfl) (fun h => h)
  have c1 : w4.cell? ⟨w.heap.size, 1, none⟩ = some (.slice none 0 0) := h5.cell (C.out.1 1 _ rfl) (fun h => h)
  have c2 : w4.cell? ⟨w.heap.size, 2, none⟩ = some (.slice none 0 0) := h5.cell (C.out.1 2 _ rfl) (fun h => h)
  have g0 : w4.frozen? ⟨w.heap.size, 0, none⟩ = false := (h5.frozen (C.out.1 0 _ rfl) _).trans (C.out.2 _)
  have g1 : w4.frozen? ⟨w.heap.size, 1, none⟩ = false := (h5.frozen (C.out.1 0 _ rfl) _).trans (C.out.2 _)
  have g2 : w4.frozen? ⟨w.heap.size, 2, none⟩ = false := (h5.frozen (C.out.1 0 _ rfl) _).trans (C.out.2 _)
  have K4 := Lib.hid (K2.out.trans h5 (fun _ _ _ h => h))
  clear h5
  go_wp2
  have d0 : (((w4.setCell ⟨w.heap.size, 0, none⟩ (.bool B)).setCell ⟨w.heap.size, 1, none⟩ (.slice a' 1 c')).setCell ⟨w.heap.size, 2, none⟩ (.slice b' 1 d')).cell? ⟨w.heap.size, 0, none⟩ = some (.bool B) := by
    rw [cs_other (by decide), cs_other (by decide)]; exact cs_same c0
  have d1 : (((w4.setCell ⟨w.heap.size, 0, none⟩ (.bool B)).setCell ⟨w.heap.size, 1, none⟩ (.slice a' 1 c')).setCell ⟨w.heap.size, 2, none⟩ (.slice b' 1 d')).cell? ⟨w.heap.size, 1, none⟩ = some (.slice a' 1 c') := by
    rw [cs_other (by decide)]; exact cs_same (by rw [cs_other (by decide)]; exact c1)
  have d2 : (((w4.setCell ⟨w.heap.size, 0, none⟩ (.bool B)).setCell ⟨w.heap.size, 1, none⟩ (.slice a' 1 c')).setCell ⟨w.heap.size, 2, none⟩ (.slice b' 1 d')).cell? ⟨w.heap.size, 2, none⟩ = some (.slice b' 1 d') :=
    cs_same (by rw [cs_other (by decide), cs_other (by decide)]; exact c2)
  have kk : Chg (zRow w.heap.size 0 3) w4 (((w4.setCell ⟨w.heap.size, 0, none⟩ (.bool B)).setCell ⟨w.heap.size, 1, none⟩ (.slice a' 1 c')).setCell ⟨w.heap.size, 2, none⟩ (.slice b' 1 d')) :=
    (((Chg.refl _ _).setCell _ 0 _ (fun _ => ⟨rfl, by omega, by omega⟩)).setCell _ 1 _ (fun _ => ⟨rfl, by omega, by omega⟩)).setCell _ 2 _ (fun _ => ⟨rfl, by omega, by omega⟩)
  refine bodyPost_ret (v := .tuple #[.agg #[.bool B, .slice a' 1 c', .slice b' 1 d'], .bool true]) (by simp [results, Tryz.results36, go_sem, d0, d1, d2]) rfl ?_
  exact ⟨B, _, _, _, _, rfl, K4.out.trans kk (fun b o hb hh => by have := hh.1; omega)⟩
end Go.Proofs.YtmgfajamanakcaaGreatDoor
