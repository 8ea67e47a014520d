/- Part of the proof of FnParse: what the functions that it reaches do, as contracts. Conditions: those that each theorem names. -/
import Derived.Test.YtmgfajamanakcaaGreatDoorR47
import Derived.Test.YtmgfajamanakcaaGreatDoorR45
import Derived.Test.YtmgfajamanakcaaGreatDoorR27
import Derived.Test.YtmgfajamanakcaaGreatDoorTie
import Derived.Test.YtmgfajamanakcaaGreatDoorCards
import Derived.SevenTiedAt
import Derived.OpenShut
import Derived.LaidLaws
import Derived.MakeChecks
import Derived.ChangeMaps5
namespace Go.Proofs.YtmgfajamanakcaaGreatDoor
set_option linter.unusedVariables false
set_option linter.unusedSimpArgs false
open Go.RowKit
set_option maxRecDepth 100000
set_option maxHeartbeats 1000000 in
theorem FScan_end (br : Nat) (s : ByteArray) (p : Nat) (base : Int) (zb P : Nat) (v : FV) (aE a1 a2 : Addr) (w : World) (h : RdAt w br s p) (hp : s.size ≤ p) (hp2 : p < 1048577) (hbr : 14 ≤ br) (hzb : 14 ≤ zb) (hne : zb ≠ br)
    (hE : FEnv w aE a1 a2) (hz : FltC w zb v) :
    Calls Tryz.prog 112 #[.pointer (some ⟨zb, 0, none⟩), .iface 169 (.pointer (some ⟨br, 0, none⟩)), .int .i64 base] w (FSBad w br zb) := by
  obtain ⟨VP, md, ac, fm, ng0, a0, n0, c0', e0⟩ := v
  have HZ := Lib.hid hz
  have hzs := hz.setFm 0
  obtain ⟨z0, z1, z2, z3, z4, z5, z6, zp⟩ := hz
  simp only at z0 z1 z2 z3 z4 z5 z6
  have f3 := zp.fz 3
  have kA := chg_cell w zb 3 (.int .u8 0)
  have HA := Lib.hid (show FltC (w.setCell ⟨zb, 3, none⟩ (.int .u8 0)) zb ⟨VP, md, ac, 0, ng0, a0, n0, c0', e0⟩ from hzs)
  clear hzs
  have HC := Lib.hid (scanSign_end br s p 229 (.pointer (some aE)) (w.setCell ⟨zb, 3, none⟩ (.int .u8 0)) (h.chg kA (fun o _ hh => hne hh.1.symm)) hp (by omega) (by omega) (kA.cell hE.errs.eof (fun hh => by have := hh.1; omega)))
  have HKA : Hid (Chg (zFS br zb) w (w.setCell ⟨zb, 3, none⟩ (.int .u8 0))) := kA.mono (fun b o _ hh => Or.inr ⟨hh.1, by have := hh.2; omega, by have := hh.2; omega⟩)
  clear h hE zp kA z1 z2 z4 z5 z6
  go_enter Tryz.func112, Tryz.ntmps112
  go_upto_if 22 with fail
  go_cut [9] (fun s9 wc => (∃ P : Int, s9 = .int .u32 P) ∧ w = wc)
  case first => as_aux_lemma =>
    by_cases h0 : VP = 0
    · have d0 : (VP == 0) = true := by simp [h0]
      clear h0
      go_wp2
      go_meet
      exact ⟨⟨_, rfl⟩, rfl⟩
    · have d0 : (VP == 0) = false := by simp [h0]
      clear h0
      go_wp2
      go_meet
      exact ⟨⟨_, rfl⟩, rfl⟩
  case rest => as_aux_lemma =>
    obtain ⟨⟨P', rfl⟩, rfl⟩ := hcut
    clear z0
    go_wp2_with fail
    refine HC.out.mono ?_
    rintro e w1 ⟨rfl, h1, h2⟩
    have y4 := (HA.out.chg h2 (fun o _ hh => hne hh.1)).ng
    have g4 := (HA.out.chg h2 (fun o _ hh => hne hh.1)).pb.fz 4
    simp only at y4
    have HK1 : Hid (Chg (zFS br zb) w w1) := HKA.out.trans h2 (fun _ _ _ hh => Or.inl hh)
    clear h1 h2 z3 f3
    go_wp2
    go_ret3
    exact ⟨_, _, _, rfl, HK1.out.setCell zb 4 _ (fun _ => Or.inr ⟨rfl, by omega, by omega⟩)⟩
def parseOk (s : ByteArray) (base : Int) : Prop := 0 < s.size ∧ scanGood (scanS base true s (signAt s 0).2) (scanE (base == 0) s (scanS base true s (signAt s 0).2).p) ∧ (scanE (base == 0) s (scanS base true s (signAt s 0).2).p).p = s.size
def parseFar (s : ByteArray) (base : Int) : Prop := scanFar (scanS base true s (signAt s 0).2) (scanE (base == 0) s (scanS base true s (signAt s 0).2).p)
def ParsePost (w : World) (zb : Nat) (s : ByteArray) (base : Int) (v : FV) (P : Nat) (e : Ending) (w' : World) : Prop :=
  (parseOk s base ∧ e = .returned (.tuple #[.pointer (some ⟨zb, 0, none⟩), .int .i64 (scanS base true s (signAt s 0).2).b, .nilIface]) ∧ Chg (zRow zb 0 7) w w' ∧
    FSNum w zb v (signAt s 0).1 (scanS base true s (signAt s 0).2) (scanE (base == 0) s (scanS base true s (signAt s 0).2).p) P w') ∨
  ((¬ parseOk s base ∨ parseFar s base) ∧ ∃ f b t u, e = .returned (.tuple #[f, .int .i64 b, .iface t u]) ∧ Chg (zRow zb 0 7) w w')
structure NotInf (s : ByteArray) : Prop where
  a1 : (s.toList == [73, 110, 102]) = false
  a2 : (s.toList == [105, 110, 102]) = false
  b : s.size = 4 → (byteAt s 0 = 43 ∨ byteAt s 0 = 45) → ((s.extract 1 4).toList == [73, 110, 102]) = false ∧ ((s.extract 1 4).toList == [105, 110, 102]) = false
theorem FScan_any (br : Nat) (s : ByteArray) (base : Int) (zb P : Nat) (v : FV) (aE a1 a2 : Addr) (w : World) (h : RdAt w br s 0) (hs : s.size ≤ 160) (hbr : 14 ≤ br) (hzb : 14 ≤ zb) (hne : zb ≠ br)
    (hE : FEnv w aE a1 a2) (hz : FltC w zb v) (hv : v.a = none ∧ v.n = 0 ∧ v.c = 0) (hP : precOf v.p = (P : Int)) (hP1 : 1 ≤ P) (hP2 : P ≤ 512) (hmd : 0 ≤ v.md ∧ v.md ≤ 5) (hac : v.ac = 0) (hbase : base = 0 ∨ base = 2 ∨ base = 8 ∨ base = 10 ∨ base = 16) :
    Calls Tryz.prog 112 #[.pointer (some ⟨zb, 0, none⟩), .iface 169 (.pointer (some ⟨br, 0, none⟩)), .int .i64 base] w fun e w' =>
      (0 < s.size ∧ scanGood (scanS base true s (signAt s 0).2) (scanE (base == 0) s (scanS base true s (signAt s 0).2).p) ∧ e = .returned (.tuple #[.pointer (some ⟨zb, 0, none⟩), .int .i64 (scanS base true s (signAt s 0).2).b, .nilIface]) ∧
        FSRes w br zb s v (signAt s 0).1 (scanS base true s (signAt s 0).2) (scanE (base == 0) s (scanS base true s (signAt s 0).2).p) P w') ∨
      ((¬ parseOk s base ∨ parseFar s base) ∧ FSBad w br zb e w') := by
  by_cases h0 : 0 < s.size
  · refine (FScan_more br s 0 base zb P v aE a1 a2 w h hs h0 hbr hzb hne hE hz hv hP hP1 hP2 hmd hac hbase).mono ?_
    rintro e w' (⟨h1, h2, h3⟩ | ⟨h1, h2⟩)
    · exact Or.inl ⟨h0, h1, h2, h3⟩
    · refine Or.inr ⟨?_, h2⟩
      rcases h1 with h1 | h1
      · exact Or.inl (fun hh => h1 hh.2.1)
      · exact Or.inr h1
  · refine (FScan_end br s 0 base zb P v aE a1 a2 w h (by omega) (by omega) hbr hzb hne hE hz).mono ?_
    intro e w' h1
    exact Or.inr ⟨Or.inl (fun hh => h0 hh.1), h1⟩
set_option maxHeartbeats 4000000 in
theorem FParse_any (zb P : Nat) (s : ByteArray) (base : Int) (v : FV) (aE a1 a2 : Addr) (w : World) (hs : s.size ≤ 160) (hN : NotInf s) (hzb : 14 ≤ zb)
    (hE : FEnv w aE a1 a2) (hz : FltC w zb v) (hv : v.a = none ∧ v.n = 0 ∧ v.c = 0) (hP : precOf v.p = (P : Int)) (hP1 : 1 ≤ P) (hP2 : P ≤ 512) (hmd : 0 ≤ v.md ∧ v.md ≤ 5) (hac : v.ac = 0) (hbase : base = 0 ∨ base = 2 ∨ base = 8 ∨ base = 10 ∨ base = 16) :
    Calls Tryz.prog 63 #[.pointer (some ⟨zb, 0, none⟩), .string s, .int .i64 base] w (ParsePost w zb s base v P) := by
  have HN := Lib.hid hN
  have n1 := hN.a1
  have n2 := hN.a2
  have hlz := hz.lt
  have hee := eof_neq aE
  have hnn := nil_neq aE
  have kal : Chg zNone w (w.alloc (.cells #[.string s, .int .i64 0, .int .i64 (-1)] 225)) := (Chg.refl _ _).alloc _
  have hRd : RdAt (w.alloc (.cells #[.string s, .int .i64 0, .int .i64 (-1)] 225)) w.heap.size s 0 :=
    ⟨cell?_alloc_new w #[.string s, .int .i64 0, .int .i64 (-1)] 225 0 (.string s) rfl, cell?_alloc_new w #[.string s, .int .i64 0, .int .i64 (-1)] 225 1 (.int .i64 0) rfl, ⟨-1, cell?_alloc_new w #[.string s, .int .i64 0, .int .i64 (-1)] 225 2 (.int .i64 (-1)) rfl⟩, frozen?_alloc_new w #[.string s, .int .i64 0, .int .i64 (-1)] 225 1, frozen?_alloc_new w #[.string s, .int .i64 0, .int .i64 (-1)] 225 2⟩
  have hsz := hE.sz
  have hsw : (w.alloc (.cells #[.string s, .int .i64 0, .int .i64 (-1)] 225)).heap.size = w.heap.size + 1 := by
    show (w.heap.push _).size = _
    simp
  have hEA := hE.far kal (fun _ _ _ h => h)
  have HS := Lib.hid (FScan_any w.heap.size s base zb P v aE a1 a2 _ hRd hs (by omega) hzb (by omega) hEA (hz.chg kal (fun _ _ h => h)) hv hP hP1 hP2 hmd hac hbase)
  have HA := Lib.hid (And.intro kal (And.intro hEA hsw))
  clear hN hE hz kal hRd hEA hsw
  go_enter Tryz.func63, Tryz.ntmps63
  go_upto_region 1 with fail
  go_cut [22] (fun s22 wc => s22 = .bool false ∧ w = wc)
  case first => as_aux_lemma =>
    by_cases h3 : s.size = 3
    · have d3 : ((s.size : Int) == 3) = true := by simp [h3]
      go_wp2
      go_meet
      exact ⟨rfl, rfl⟩
    · have d3 : ((s.size : Int) == 3) = false := by simp; omega
      go_wp2
      go_meet
      exact ⟨rfl, rfl⟩
  case rest => as_aux_lemma =>
    obtain ⟨rfl, rfl⟩ := hcut
    clear n1 n2
    go_upto_region 3 with fail
    go_cut [47] (fun s47 wc => s47 = .bool false ∧ w = wc)
    case first => as_aux_lemma =>
      by_cases h4 : s.size = 4
      · have d4 : ((s.size : Int) == 4) = true := by simp [h4]
        have f1 : (0:Int) < (s.size : Int) := by omega
        have e0 := byteAt_eq s 0 (by omega)
        by_cases hsg : byteAt s 0 = 43 ∨ byteAt s 0 = 45
        · obtain ⟨m1, m2⟩ := HN.out.b h4 hsg
          clear hsg
          go_wp2
          all_goals (go_meet; exact ⟨by rfl, rfl⟩)
        · have c1 : (byteAt s 0 == 43) = false := by simp; omega
          have c2 : (byteAt s 0 == 45) = false := by simp; omega
          rw [← e0] at c1 c2
          clear hsg e0
          go_wp2
          go_meet
          exact ⟨rfl, rfl⟩
      · have d4 : ((s.size : Int) == 4) = false := by simp; omega
        go_wp2
        go_meet
        exact ⟨rfl, rfl⟩
    case rest => as_aux_lemma =>
      obtain ⟨rfl, rfl⟩ := hcut
      go_wp2_with fail
      refine (NewReader_any s _).mono ?_
      rintro e w1 ⟨rfl, rfl⟩
      go_wp2_with fail
      refine HS.out.mono ?_
      have hzone : ∀ b o, b < w.heap.size → zFS w.heap.size zb b o → zRow zb 0 7 b o := by
        rintro b o hb (hh | hh)
        · have := hh.1; omega
        · exact hh
      rintro e w2 (⟨h0, hg, rfl, hr⟩ | ⟨hb, b, t, pv, rfl, hk⟩)
      · have hE2 := HA.out.2.1.far hr.chg (by
          rintro b o hb (hh | hh)
          · have := hh.1; omega
          · have := hh.1; omega)
        have hse : (scanE (base == 0) s (scanS base true s (signAt s 0).2).p).p ≤ s.size := (scanE_ok (scanS_ok (signAt_le h0) (by omega)).2.1).2.1
        have HR := Lib.hid (read_head w.heap.size s _ _ w2 hr.rd (by omega) hse (by omega) hE2.errs.eof)
        have he0 := hE2.errs.eof
        have Hr := Lib.hid (And.intro h0 (And.intro hg (And.intro hr hse)))
        clear hr hE2 hse h0 hg
        go_wp2_with fail
        refine HR.out.mono ?_
        rintro e w3 ⟨more, c, rfl, h1, h2⟩
        have he3 : w3.cell? ⟨0, 0, none⟩ = some (.iface 229 (.pointer (some aE))) := h2.cell he0 zrow_zero
        have HM := Lib.hid (And.intro h1 h2)
        have HK3 : Hid (Chg (zRow zb 0 7) w w3) := ((HA.out.1.mono (fun _ _ _ h => h.elim)).trans Hr.out.2.2.1.chg (fun b o hb hh => hzone b o hb hh)).trans h2 (fun b o hb hh => by have := hh.1; omega)
        clear h1 h2 he0
        cases more with
        | true =>
          rw [errOf_true]
          go_wp2_with fail
          refine (errNew_any _ _).mono ?_
          rintro e w4 ⟨rfl, kk⟩
          have HKx := Lib.hid kk
          clear kk
          go_wp2
          go_ret3
          refine Or.inr ⟨Or.inl (fun hh => ?_), _, _, _, _, rfl, HK3.out.trans HKx.out (fun _ _ _ h => h.elim)⟩
          have := HM.out.1.2.1.1 rfl
          have := hh.2.2
          omega
        | false =>
          rw [errOf_false]
          go_wp2
          go_ret3
          obtain ⟨h0, hg, hr, hse⟩ := Hr.out
          refine Or.inl ⟨⟨h0, hg, ?_⟩, rfl, HK3.out, ?_⟩
          · rcases Nat.lt_or_ge (scanE (base == 0) s (scanS base true s (signAt s 0).2).p).p s.size with h2 | h2
            · have := HM.out.1.2.1.2 h2; cases this
            · omega
          · have hN := hr.num.chg HM.out.2 (fun o hh => by have := hh.1; omega) (fun b o hb hh => by have := hh.1; have := HA.out.2.2; omega)
            rcases hN with g | ⟨g0, v', Y, g1, g2, g3, g4, g5, g6⟩
            · exact Or.inl g
            · exact Or.inr ⟨g0, v', Y, g1, g2, g3, g4, fun b o e => by have := g5 b o e; have := HA.out.2.2; omega, g6⟩
      · have HK := Lib.hid hk
        clear hk
        go_wp2
        go_ret3
        exact Or.inr ⟨hb, _, _, _, _, rfl, (HA.out.1.mono (fun _ _ _ h => h.elim)).trans HK.out (fun b o hb hh => hzone b o hb hh)⟩
def IBad (w : World) (e : Ending) (w' : World) : Prop :=
  e = .returned (.tuple #[.agg #[.int .u64 0, .int .i64 0, .int .i64 0, .bool false, .slice none 0 0, .int .i64 0], .int .i64 0, .int .i64 0, .bool false]) ∧ Chg zNone w w'
def IZero (w : World) (P : Nat) (md : Int) (neg : Bool) (b : Int) (e : Ending) (w' : World) : Prop :=
  e = .returned (.tuple #[.agg #[.int .u64 P, .int .i64 md, .int .i64 0, .bool neg, .slice none 0 0, .int .i64 0], .int .i64 0, .int .i64 b, .bool true]) ∧ Chg zNone w w'
def IGood (w : World) (P : Nat) (md : Int) (neg : Bool) (N D E b : Int) (e : Ending) (w' : World) : Prop :=
  ∃ (v : FV) (Y : Nat → Int) (t : Nat) (a : Option Addr) (n c : Nat) (W : Nat → Int), FVal v Y neg N D E P md ∧ 1 ≤ v.n ∧ WF Y v.n ∧ 9223372036854775808 ≤ Y (v.n - 1) ∧ LowZ (val Y v.n) t ∧
    e = .returned (.tuple #[.agg #[.int .u64 P, .int .i64 md, .int .i64 1, .bool neg, .slice a n c, .int .i64 (v.e - (64 * v.n - t : Nat))], .int .i64 v.ac, .int .i64 b, .bool true]) ∧
    n ≤ c ∧ ZOK w' a c ∧ Rd w' a n W ∧ WF W n ∧ Norm W n ∧ val W n = val Y v.n / 2 ^ t ∧ Fresh w a ∧ Chg zNone w w'
set_option maxHeartbeats 4000000 in
theorem real_zero (xb : Nat) (v : FV) (w : World) (h : FltC w xb v) (hf : v.fm = 0) (hp : 0 ≤ v.p ∧ v.p < 4294967296) (hmd : 0 ≤ v.md ∧ v.md ≤ 5) :
    Calls Tryz.prog 64 #[.pointer (some ⟨xb, 0, none⟩)] w fun e w' => e = .returned (.agg #[.int .u64 v.p, .int .i64 v.md, .int .i64 0, .bool v.ng, .slice none 0 0, .int .i64 0]) ∧ Chg zNone w w' := by
  have kal : Chg zNone w (w.alloc (.cells #[.int .u64 0, .int .i64 0, .int .i64 0, .bool false, .slice none 0 0, .int .i64 0] 25)) := (Chg.refl _ _).alloc _; have hC := h.chg kal (fun _ _ h => h); have HP := Lib.hid (Prec_any xb v _ hC hp); have HM := Lib.hid (Mode_any xb v _ hC); have HS := Lib.hid (Signbit_any xb v _ hC); have w0 : IntKind.i64.wrap v.md = v.md := IntWalk.i64_in _ (by omega); have H := Lib.hid (And.intro h hf); have d1 : (v.fm == 2) = false := by rw [hf]; rfl
  clear kal hC h
  go_enter Tryz.func64, Tryz.ntmps64
  go_upto_region 1 with fail; go_cut [3] (RealHead w xb v (fun _ => 0))
  case first => as_aux_lemma =>
    go_wp2_with fail; refine HP.out.mono ?_; rintro e w1 ⟨rfl, rfl⟩; go_wp2_with fail; refine HM.out.mono ?_; rintro e w1 ⟨rfl, rfl⟩; go_wp2_with fail; refine HS.out.mono ?_; rintro e w1 ⟨rfl, rfl⟩; go_wp2; go_meet; obtain ⟨g1, g2, g3⟩ := real_head_ok w v.p v.md v.ng; refine ⟨w.heap.size + 1, rfl, ?_⟩; exact ⟨Nat.lt_succ_self _, g1, g2, g3⟩
  case rest => as_aux_lemma =>
    obtain ⟨b3, rfl, HH⟩ := hcut; have hx := H.out.1.chg HH.out.2.2.2 (fun _ _ h => h); have HI := Lib.hid (IsInf_any xb v wc hx); have HSg := Lib.hid (FSign_any xb v wc hx); rw [d1] at HI; rw [if_pos hf] at HSg; obtain ⟨r0, r1, r2, r3, r4, r5, rp⟩ := HH.out.2.2.1; obtain ⟨t0, t1, t2, t3, t4, t5, tp⟩ := HH.out.2.1; have hb3 := HH.out.1; have hne3 : b3 ≠ w.heap.size := by omega
    have t0z := tp.fz 0; have t1z := tp.fz 1; have t2z := tp.fz 2; have t3z := tp.fz 3; have t4z := tp.fz 4; have t5z := tp.fz 5; have HTP := Lib.hid HH.out.2.1; clear hx rp tp HP HM HS hf; go_wp2_with fail; refine HI.out.mono ?_; rintro e w1 ⟨rfl, rfl⟩; go_wp2_with fail; refine HSg.out.mono ?_; rintro e w1 ⟨rfl, rfl⟩; go_wp2; refine bodyPost_ret (v := .agg #[.int .u64 v.p, .int .i64 v.md, .int .i64 0, .bool v.ng, .slice none 0 0, .int .i64 0]) (res64 (HTP.out.six _ _ _ _ _ _ _ _) rfl) rfl ⟨rfl, ?_⟩; have kk := HH.out.2.2.2; exact (((((kk.setCell w.heap.size 0 _ (fun h => absurd h (Nat.lt_irrefl _))).setCell w.heap.size 1 _ (fun h => absurd h (Nat.lt_irrefl _))).setCell w.heap.size 2 _ (fun h => absurd h (Nat.lt_irrefl _))).setCell w.heap.size 3 _ (fun h => absurd h (Nat.lt_irrefl _))).setCell w.heap.size 4 _ (fun h => absurd h (Nat.lt_irrefl _))).setCell w.heap.size 5 _ (fun h => absurd h (Nat.lt_irrefl _))
theorem six_cells {w w' : World} (k : Chg zNone w w') (v0 v1 v2 v3 v4 v5 : Value) :
    Chg zNone w ((((((w'.setCell ⟨w.heap.size, 0, none⟩ v0).setCell ⟨w.heap.size, 1, none⟩ v1).setCell ⟨w.heap.size, 2, none⟩ v2).setCell ⟨w.heap.size, 3, none⟩ v3).setCell ⟨w.heap.size, 4, none⟩ v4).setCell ⟨w.heap.size, 5, none⟩ v5) :=
  (((((k.setCell w.heap.size 0 _ (fun h => absurd h (Nat.lt_irrefl _))).setCell w.heap.size 1 _ (fun h => absurd h (Nat.lt_irrefl _))).setCell w.heap.size 2 _ (fun h => absurd h (Nat.lt_irrefl _))).setCell w.heap.size 3 _ (fun h => absurd h (Nat.lt_irrefl _))).setCell w.heap.size 4 _ (fun h => absurd h (Nat.lt_irrefl _))).setCell w.heap.size 5 _ (fun h => absurd h (Nat.lt_irrefl _))
set_option maxHeartbeats 8000000 in
theorem IParse_bad (s : ByteArray) (base : Int) (q P : Nat) (md : Int) (aE a1 a2 : Addr) (w : World) (hs : s.size ≤ 160) (hN : NotInf s) (hE : FEnv w aE a1 a2) (hP : precOf (q : Int) = (P : Int)) (hq : q ≤ 512) (hmd : 0 ≤ md ∧ md ≤ 5) (hbase : base = 0 ∨ base = 2 ∨ base = 8 ∨ base = 10 ∨ base = 16) (hbad : ¬ parseOk s base) :
    Calls Tryz.prog 31 #[.string s, .int .i64 base, .int .u64 (q : Int), .int .i64 md] w (IBad w) := by
  have hP1 : 1 ≤ P ∧ P ≤ 512 := by
    unfold precOf at hP
    split at hP <;> omega
  have kal : Chg zNone w (w.alloc (.cells #[.int .u64 0, .int .i64 0, .int .i64 0, .bool false, .slice none 0 0, .int .i64 0] 25)) := (Chg.refl _ _).alloc _; have hsz := hE.sz
  have hsw : (w.alloc (.cells #[.int .u64 0, .int .i64 0, .int .i64 0, .bool false, .slice none 0 0, .int .i64 0] 25)).heap.size = w.heap.size + 1 := by
    show (w.heap.push _).size = _
    simp
  have HF := Lib.hid (fresh_any (q : Int) md (w.alloc (.cells #[.int .u64 0, .int .i64 0, .int .i64 0, .bool false, .slice none 0 0, .int .i64 0] 25)) (by omega) (by omega)); have HR := Lib.hid (newReal w 0 0 0 false none 0 0 0); have HA := Lib.hid (And.intro (hE.far kal (fun _ _ _ h => h)) (And.intro kal hsw)); have HN := Lib.hid hN; clear kal hsw hE hN
  go_enter Tryz.func31, Tryz.ntmps31
  go_wp2_with fail; refine HF.out.mono ?_; rintro e w1 ⟨b, hb, rfl, f1, k1⟩; have hb14 : w.heap.size < b := by have := HA.out.2.2; omega
  have HP := Lib.hid (FParse_any b P s base _ aE a1 a2 w1 hs HN.out (by omega) (HA.out.1.far k1 (fun _ _ _ h => h)) f1 ⟨rfl, rfl, rfl⟩ hP hP1.1 hP1.2 hmd rfl hbase); have HK1 := Lib.hid (And.intro (HA.out.2.1.trans k1 (fun _ _ _ h => h)) k1); clear f1 k1; go_wp2_with fail; refine HP.out.mono ?_; rintro e w2 (⟨h0, _⟩ | ⟨_, f, bb, t, u, rfl, k2⟩)
  · exact absurd h0 hbad
  · obtain ⟨t0, t1, t2, t3, t4, t5, tp⟩ := (HR.out.chg HK1.out.2 (fun _ h => h)).chg k2 (fun o hh => by have := hh.1; omega)
    have HK2 : Hid (Chg zNone w w2) := HK1.out.1.trans k2 (fun b' o hb' hh => by have := hh.1; omega); have t0z := tp.fz 0; have t1z := tp.fz 1; have t2z := tp.fz 2; have t3z := tp.fz 3; have t4z := tp.fz 4; have t5z := tp.fz 5; clear tp k2 HP HF; go_wp2; refine bodyPost_ret (v := .tuple #[.agg #[.int .u64 0, .int .i64 0, .int .i64 0, .bool false, .slice none 0 0, .int .i64 0], .int .i64 0, .int .i64 0, .bool false]) (by simp [results, Tryz.results31, go_sem, t0, t1, t2, t3, t4, t5]) rfl ⟨rfl, ?_⟩; exact six_cells HK2.out _ _ _ _ _ _
set_option maxHeartbeats 8000000 in
theorem IParse_good (s : ByteArray) (base : Int) (q P : Nat) (md : Int) (aE a1 a2 : Addr) (w : World) (hs : s.size ≤ 160) (hN : NotInf s) (hE : FEnv w aE a1 a2) (hP : precOf (q : Int) = (P : Int)) (hq : q ≤ 512) (hmd : 0 ≤ md ∧ md ≤ 5) (hbase : base = 0 ∨ base = 2 ∨ base = 8 ∨ base = 10 ∨ base = 16) (hok : parseOk s base)
    (x1 : -27 ≤ x5of (scanS base true s (signAt s 0).2) (scanE (base == 0) s (scanS base true s (signAt s 0).2).p)) (x2 : x5of (scanS base true s (signAt s 0).2) (scanE (base == 0) s (scanS base true s (signAt s 0).2).p) ≤ 27) (x3 : -134217728 ≤ x2of (scanS base true s (signAt s 0).2) (scanE (base == 0) s (scanS base true s (signAt s 0).2).p)) (x4 : x2of (scanS base true s (signAt s 0).2) (scanE (base == 0) s (scanS base true s (signAt s 0).2).p) ≤ 134217728) :
    Calls Tryz.prog 31 #[.string s, .int .i64 base, .int .u64 (q : Int), .int .i64 md] w fun e w' =>
      ((scanS base true s (signAt s 0).2).V = 0 ∧ IZero w P md (signAt s 0).1 (scanS base true s (signAt s 0).2).b e w') ∨
      ((scanS base true s (signAt s 0).2).V ≠ 0 ∧ IGood w P md (signAt s 0).1 (numOf (scanS base true s (signAt s 0).2) (scanE (base == 0) s (scanS base true s (signAt s 0).2).p)) (denOf (scanS base true s (signAt s 0).2) (scanE (base == 0) s (scanS base true s (signAt s 0).2).p)) (x2of (scanS base true s (signAt s 0).2) (scanE (base == 0) s (scanS base true s (signAt s 0).2).p)) (scanS base true s (signAt s 0).2).b e w') := by
  have hP1 : 1 ≤ P ∧ P ≤ 512 := by
    unfold precOf at hP
    split at hP <;> omega
  have kal : Chg zNone w (w.alloc (.cells #[.int .u64 0, .int .i64 0, .int .i64 0, .bool false, .slice none 0 0, .int .i64 0] 25)) := (Chg.refl _ _).alloc _; have hsz := hE.sz
  have hsw : (w.alloc (.cells #[.int .u64 0, .int .i64 0, .int .i64 0, .bool false, .slice none 0 0, .int .i64 0] 25)).heap.size = w.heap.size + 1 := by
    show (w.heap.push _).size = _
    simp
  have HF := Lib.hid (fresh_any (q : Int) md (w.alloc (.cells #[.int .u64 0, .int .i64 0, .int .i64 0, .bool false, .slice none 0 0, .int .i64 0] 25)) (by omega) (by omega)); have HR := Lib.hid (newReal w 0 0 0 false none 0 0 0); have HA := Lib.hid (And.intro (hE.far kal (fun _ _ _ h => h)) (And.intro kal hsw)); have HN := Lib.hid hN; have HE2 : Hid (∀ j : Nat, j < 64 → w.cell? ⟨11, j, none⟩ = some (.int .u8 ((Lib.deBruijn64tab.getD j 0 : Nat) : Int))) := hE.deb; clear kal hsw hE hN
  go_enter Tryz.func31, Tryz.ntmps31
  go_wp2_with fail; refine HF.out.mono ?_; rintro e w1 ⟨b, hb, rfl, f1, k1⟩; have hb14 : w.heap.size < b := by have := HA.out.2.2; omega
  have HP := Lib.hid (FParse_any b P s base _ aE a1 a2 w1 hs HN.out (by omega) (HA.out.1.far k1 (fun _ _ _ h => h)) f1 ⟨rfl, rfl, rfl⟩ hP hP1.1 hP1.2 hmd rfl hbase); have HK1 := Lib.hid (And.intro (HA.out.2.1.trans k1 (fun _ _ _ h => h)) k1); clear f1 k1; go_wp2_with fail; refine HP.out.mono ?_; obtain ⟨sc, hsc⟩ : ∃ x, (scanS base true s (signAt s 0).2) = x := ⟨_, rfl⟩; obtain ⟨ex, hex⟩ : ∃ x, (scanE (base == 0) s (scanS base true s (signAt s 0).2).p) = x := ⟨_, rfl⟩; obtain ⟨neg, hneg⟩ : ∃ x, (signAt s 0).1 = x := ⟨_, rfl⟩; rintro e w2 (⟨_, rfl, k2, hn⟩ | ⟨h0, _⟩)
  · rw [hex] at x1 x2 x3 x4 hn
    rw [hsc] at x1 x2 x3 x4 hn ⊢; rw [hneg] at hn; have tR := (HR.out.chg HK1.out.2 (fun _ h => h)).chg k2 (fun o hh => by have := hh.1; omega); have k02 : Chg zNone w w2 := HK1.out.1.trans k2 (fun b' o hb' hh => by have := hh.1; omega); have HX := Lib.hid (And.intro hsc (And.intro hex (And.intro hneg (And.intro tR k02)))); clear hsc hex hneg k2 HP HF
    rcases hn with ⟨hV, v', g1, g2, g3, g4, g5, g6⟩ | ⟨hV, v', Y, g1, g2, g3, g4, g5, g6⟩
    · have HZ := Lib.hid (real_zero b v' w2 g1 g5 (by omega) (by rw [g3]; exact hmd))
      have HG := Lib.hid (And.intro hV (And.intro g1 (And.intro g2 (And.intro g3 (And.intro g4 (And.intro g5 g6)))))); clear hV g1 g2 g3 g4 g5 g6 tR k02; go_wp2_with fail; refine HZ.out.mono ?_; rintro e w3 ⟨rfl, k3⟩; have HAc := Lib.hid (Acc_any b v' w3 (HG.out.2.1.chg k3 (fun _ _ h => h))); have wac : IntKind.i64.wrap v'.ac = v'.ac := IntWalk.i64_in _ (by rw [HG.out.2.2.2.2.1]; omega); obtain ⟨t0, t1, t2, t3, t4, t5, tp⟩ := HX.out.2.2.2.1.chg k3 (fun _ h => h); have HK3 := Lib.hid (HX.out.2.2.2.2.trans k3 (fun _ _ _ h => h)); have t0z := tp.fz 0; have t1z := tp.fz 1; have t2z := tp.fz 2; have t3z := tp.fz 3; have t4z := tp.fz 4; have t5z := tp.fz 5; clear tp k3; go_wp2_with fail; refine HAc.out.mono ?_; rintro e w4 ⟨rfl, rfl⟩; go_wp2; refine bodyPost_ret (v := .tuple #[.agg #[.int .u64 v'.p, .int .i64 v'.md, .int .i64 0, .bool v'.ng, .slice none 0 0, .int .i64 0], .int .i64 v'.ac, .int .i64 sc.b, .bool true]) (by simp [results, Tryz.results31, go_sem, t0, t1, t2, t3, t4, t5]) rfl ?_; obtain ⟨hV, g1, g2, g3, g4, g5, g6⟩ := HG.out; refine Or.inl ⟨by rw [HX.out.1]; exact hV, ?_, six_cells HK3.out _ _ _ _ _ _⟩; rw [g2, g3, g4, g6, HX.out.1, HX.out.2.2.1]
    · obtain ⟨hng, hF⟩ := g6 x1 x2 x3 x4
      have hfm := hF.fm; obtain ⟨f1, f2, f3, f4, f5, f6⟩ := g1.fin hfm; obtain ⟨y1, y2⟩ := val_ge_top f5 f1 f6; obtain ⟨ft1, ft2, ft3⟩ := hF.fit hP1.1 (by omega) y1 y2; obtain ⟨t, ht⟩ := lowz_ex (M := val Y v'.n) (by have : (0 : Int) < 2 ^ (64 * v'.n - 1) := Int.pow_pos (by decide); omega); have hxe := g1.ex; have HZ := Lib.hid (real_fin b t P v' Y w2 g1 hfm g2 ft1 (g4 hfm) hP1.2 ht (fun j hj => HX.out.2.2.2.2.cell (HE2.out j hj) (fun h => h)) (by omega)); have wac : IntKind.i64.wrap v'.ac = v'.ac := IntWalk.i64_in _ (by omega); have HG := Lib.hid (And.intro hV (And.intro g1.c (And.intro g2 (And.intro g3 (And.intro hng (And.intro hF (And.intro f1 (And.intro f5 (And.intro f6 ht))))))))); clear hV g1 g2 g3 g4 g5 g6 hng hF hfm f1 f2 f3 f4 f5 f6 y1 y2 ft1 ft2 ft3 ht hxe tR k02; go_wp2_with fail; refine HZ.out.mono ?_; rintro e w3 ⟨a3, n3, c3, W3, rfl, i1, i2, i3, i4, i5, i6, i7, k3⟩; have HAc := Lib.hid (Acc_any b v' w3 (HG.out.2.1.chg k3 (fun _ _ h => h))); obtain ⟨t0, t1, t2, t3, t4, t5, tp⟩ := HX.out.2.2.2.1.chg k3 (fun _ h => h); have hlw : w.heap.size < w2.heap.size := HX.out.2.2.2.1.pb.lt; have HK3 := Lib.hid (And.intro (HX.out.2.2.2.2.trans k3 (fun _ _ _ h => h)) (And.intro i1 (And.intro i2 (And.intro i3 (And.intro i4 (And.intro i5 (And.intro i6 i7))))))); have t0z := tp.fz 0; have t1z := tp.fz 1; have t2z := tp.fz 2; have t3z := tp.fz 3; have t4z := tp.fz 4; have t5z := tp.fz 5; clear tp k3 i1 i2 i3 i4 i5 i6 i7; go_wp2_with fail; refine HAc.out.mono ?_; rintro e w4 ⟨rfl, rfl⟩; go_wp2; refine bodyPost_ret (v := .tuple #[.agg #[.int .u64 v'.p, .int .i64 v'.md, .int .i64 1, .bool v'.ng, .slice a3 n3 c3, .int .i64 (v'.e - (64 * v'.n - t : Nat))], .int .i64 v'.ac, .int .i64 sc.b, .bool true]) (by simp [results, Tryz.results31, go_sem, t0, t1, t2, t3, t4, t5]) rfl ?_; obtain ⟨hV, g1, g2, g3, g4, g5, f1, f5, f6, ht⟩ := HG.out; obtain ⟨k3, i1, i2, i3, i4, i5, i6, i7⟩ := HK3.out; have k6 := six_row w3 w.heap.size (.int .u64 v'.p) (.int .i64 v'.md) (.int .i64 1) (.bool v'.ng) (.slice a3 n3 c3) (.int .i64 (v'.e - (64 * v'.n - t : Nat)))
      have hfar : ∀ b' o, a3 = some ⟨b', o, none⟩ → b' ≠ w.heap.size := by
        intro b' o e
        rcases i7 with e1 | ⟨b2, o2, e1, hb2⟩
        · rw [e1] at e; cases e
        · rw [e1] at e; injection e with e; injection e with e2 _
          omega
      refine Or.inr ⟨by rw [HX.out.1]; exact hV, v', Y, t, a3, n3, c3, W3, ?_, by omega, f5, f6, ht, ?_, i1, i2.chg k6 ?_, ?_, i4, i5, i6, ?_, six_cells k3 _ _ _ _ _ _⟩
      · rw [HX.out.2.1, HX.out.1, HX.out.2.2.1]; exact g5
      · rw [g2, g3, g4, HX.out.1, HX.out.2.2.1]
      · rintro b' o ⟨po, e, _⟩ hh
        exact hfar b' po e hh.1
      · rcases i3 with i3 | ⟨b', o, e, hw⟩
        · exact Or.inl i3
        · exact Or.inr ⟨b', o, e, hw.chg k6 (fun i hi hh => hfar b' o e hh.1)⟩
      · rcases i7 with e1 | ⟨b2, o2, e1, hb2⟩
        · exact Or.inl e1
        · exact Or.inr ⟨b2, o2, e1, by omega⟩
  · exfalso
    rcases h0 with h0 | h0
    · exact h0 hok
    · exact h0.2 ⟨by omega, by omega⟩
end Go.Proofs.YtmgfajamanakcaaGreatDoor
namespace Go.Proofs.YtmgfajamanakcaaGreatDoor
set_option linter.unusedVariables false
set_option linter.unusedSimpArgs false
open Go.ChangeShapes Go.WideShapes Go.ChangeAt Go.RowKit
set_option maxRecDepth 100000
theorem pf_door (os : Os) (args : Array Value) : laidMetH Tryz.prog Rows.fnParseFailsRow.laid ((World.doorLaid Tryz.prog 400 os).forCall (fun _ _ => 0) ⟨#[], args, []⟩).memory :=
  laidMetH_of_parts3 (fuel := 8) (laidMet_of_run' 8 (by kernel_rfl) (by kernel_rfl)) (by kernel_rfl) (by kernel_rfl)
theorem laid_at {P : Program} {w : World} {n : String} {d : DataW Unit} : ∀ {l : List (String × DataW Unit)} {ps : List MemPlace}, DataW.LaidVars P w l ps → (n, d) ∈ l →
    ∃ g t cs fuel p, P.globalNamed n = some g ∧ (P.globals[g]?).map (·.type) = some t ∧ w.var? P n = some cs ∧ DataW.trod (fun _ => ()) P w 0 (fun _ => true) false fuel t cs.toList = some (d, p) ∧ ∀ x ∈ MemPlace.row ⟨g, 0, none⟩ cs.size, x ∈ ps
  | [], _, _, h => by cases h
  | (n', d') :: r, ps, h, hm => by
    obtain ⟨g, t, cs, fuel, p, q, h1, h2, h3, h4, h5, rfl⟩ := h
    rcases List.mem_cons.1 hm with e | e
    · injection e with e1 e2
      subst e1; subst e2
      exact ⟨g, t, cs, fuel, p, h1, h2, h3, h4, fun x hx => by simp [hx]⟩
    · obtain ⟨g', t', cs', fuel', p', k1, k2, k3, k4, k5⟩ := laid_at h5 e
      exact ⟨g', t', cs', fuel', p', k1, k2, k3, k4, fun x hx => by simp [k5 x hx]⟩
theorem star_err : "*" ++ "errors.errorString" = "*errors.errorString" := by decide
theorem row229 (u : TypeId) (h : Tryz.prog.typeName? 3 u = some "*errors.errorString") : u = 229 :=
  typeName_ptr_named (nm := "errors.errorString") (by rw [star_err]; kernel_rfl) (by kernel_rfl) (by decide) u (by rw [star_err]; exact h)
theorem cells231 : Tryz.prog.cellsOf 231 = 1 := by kernel_rfl
theorem cells9 : Tryz.prog.cellsOf 9 = 1 := by kernel_rfl
theorem err_at {w : World} {l : List (String × DataW Unit)} (h : laidMet Tryz.prog l w) {n : String} {g : Nat} {text : List UInt8} (hm : (n, DataW.iface "*errors.errorString" (.ptr (.agg [.lit (.string text)]))) ∈ l) (hg : Tryz.prog.globalNamed n = some g) (ht : (Tryz.prog.globals[g]?).map (·.type) = some 110) :
    ∃ a, w.cell? ⟨g, 0, none⟩ = some (.iface 229 (.pointer (some a))) := by
  obtain ⟨ps, hl, hnd, hrows⟩ := h
  obtain ⟨g', t, cs, fuel, p, k1, k2, k3, k4, k5⟩ := laid_at hl hm
  obtain rfl := Option.some.inj (hg.symm.trans k1)
  obtain rfl := Option.some.inj (ht.symm.trans k2)
  obtain ⟨l0⟩ := cs
  have ok0 : ∀ u v, l0 = [.iface u v] → Value.okWide Tryz.prog w .any 0 u v := fun u v e => by
    subst e
    exact (hrows g 0 (k5 _ (by simp [MemPlace.row]))).2 u v (by simpa using World.var?_cell k1 k3 0)
  obtain ⟨a, s, rfl, _, _, _, _⟩ := errorString_of_trod Tryz.underlying110 row229 Tryz.underlying229 Tryz.underlying231 rfl rfl Tryz.underlying9 cells231 cells9 k4 ok0
  exact ⟨a, by simpa using World.var?_cell k1 k3 0⟩
theorem lit_at {w : World} {l : List (String × DataW Unit)} (h : laidMet Tryz.prog l w) {n : String} {g : Nat} {ty : TypeId} {k : IntKind} {x : Int} (hm : (n, DataW.lit (.int k x)) ∈ l) (hg : Tryz.prog.globalNamed n = some g) (ht : (Tryz.prog.globals[g]?).map (·.type) = some ty) (hu : Tryz.prog.underlying ty = some (.int k)) :
    w.cell? ⟨g, 0, none⟩ = some (.int k x) := by
  obtain ⟨ps, hl, hnd, hrows⟩ := h
  obtain ⟨g', t, cs, fuel, p, k1, k2, k3, k4, k5⟩ := laid_at hl hm
  obtain rfl := Option.some.inj (hg.symm.trans k1)
  obtain rfl := Option.some.inj (ht.symm.trans k2)
  obtain ⟨l0⟩ := cs
  obtain ⟨y, e1, e2, _⟩ := DataW.trod_int hu k4
  injection e2 with e3 _
  injection e3 with e4
  injection e4 with _ e5
  subst e5
  have e6 : l0 = [.int k x] := e1
  subst e6
  simpa using World.var?_cell k1 k3 0
theorem tab_at {w : World} {l : List (String × DataW Unit)} (h : laidMet Tryz.prog l w) {n : String} {g N : Nat} {ty e : TypeId} {k : IntKind} {xs : List Int} (hm : (n, DataW.agg (xs.map fun x => .lit (.int k x))) ∈ l) (hg : Tryz.prog.globalNamed n = some g) (ht : (Tryz.prog.globals[g]?).map (·.type) = some ty)
    (hu : Tryz.prog.underlying ty = some (.array N e)) (hc : Tryz.prog.cellsOf e = 1) (hue : Tryz.prog.underlying e = some (.int k)) : ∀ i x, i < N → xs[i]? = some x → w.cell? ⟨g, i, none⟩ = some (.int k x) := by
  obtain ⟨ps, hl, hnd, hrows⟩ := h
  obtain ⟨g', t, cs, fuel, p, k1, k2, k3, k4, k5⟩ := laid_at hl hm
  obtain rfl := Option.some.inj (hg.symm.trans k1)
  obtain rfl := Option.some.inj (ht.symm.trans k2)
  obtain ⟨l0⟩ := cs
  obtain ⟨ys, m, _, e2, e3, e4, e5⟩ := DataW.trod_array hu k4
  injection e2 with e6 _
  injection e6 with e7
  intro i x hi hx
  have h1 := e5 i hi
  rw [hc, Nat.mul_one] at h1
  have hil : i < ys.length := by omega
  rw [List.getElem?_eq_getElem hil] at h1
  obtain ⟨y, f1, f2, _⟩ := DataW.trod_int hue h1
  have h2 : (ys.map (·.1))[i]? = some (ys[i].1) := by simp [hil]
  rw [← e7] at h2
  rw [List.getElem?_map, hx] at h2
  simp only [Option.map_some] at h2
  have h3 := Option.some.inj h2
  rw [f2] at h3
  injection h3 with h4
  injection h4 with _ h5
  subst h5
  have h6 : l0[i]? = some (.int k x) := by
    have h7 : ((l0.drop i).take 1)[0]? = some (.int k x) := by rw [f1]; rfl
    simpa using h7
  have h8 := World.var?_cell k1 k3 i
  simp only [List.getElem?_toArray] at h8
  rw [h6] at h8
  simpa using h8
def p5list : List Int := [1, 5, 25, 125, 625, 3125, 15625, 78125, 390625, 1953125, 9765625, 48828125, 244140625, 1220703125, 6103515625, 30517578125, 152587890625, 762939453125, 3814697265625, 19073486328125, 95367431640625, 476837158203125, 2384185791015625, 11920928955078125, 59604644775390625, 298023223876953125, 1490116119384765625, 7450580596923828125]
def deblist : List Int := [0, 1, 56, 2, 57, 49, 28, 3, 61, 58, 42, 50, 38, 29, 17, 4, 62, 47, 59, 36, 45, 43, 51, 22, 53, 39, 33, 30, 24, 18, 12, 5, 63, 55, 48, 27, 60, 41, 37, 16, 46, 35, 44, 21, 52, 32, 23, 11, 54, 26, 40, 15, 34, 20, 31, 10, 25, 14, 19, 9, 13, 8, 7, 6]
theorem p5_at : ∀ i : Nat, i < 28 → p5list[i]? = some (5 ^ i) := by decide
theorem deb_at : ∀ i : Nat, i < 64 → deblist[i]? = some ((Lib.deBruijn64tab.getD i 0 : Nat) : Int) := by decide
theorem pf_globals {w : World} (h : laidMetH Tryz.prog Rows.fnParseFailsRow.laid w) : ∃ aE a1 a2, FEnv w aE a1 a2 := by
  rw [MakeChecks.laidMetH_plain _ _ _ (by kernel_rfl)] at h
  obtain ⟨aE, hE⟩ := err_at h (n := "io.EOF") (g := 0) (text := [69, 79, 70]) (by unfold Rows.fnParseFailsRow Rows.laid_io_EOF; simp) (by kernel_rfl) (by kernel_rfl)
  obtain ⟨a1, h1⟩ := err_at h (n := "loop.example/pub-g03235/pub/bigall.errInvalSep") (g := 2) (text := [39, 95, 39, 32, 109, 117, 115, 116, 32, 115, 101, 112, 97, 114, 97, 116, 101, 32, 115, 117, 99, 99, 101, 115, 115, 105, 118, 101, 32, 100, 105, 103, 105, 116, 115]) (by unfold Rows.fnParseFailsRow Rows.laid_loop_example_pub_g03235_pub_bigall_errInvalSep; simp) (by kernel_rfl) (by kernel_rfl)
  obtain ⟨a2, h2⟩ := err_at h (n := "loop.example/pub-g03235/pub/bigall.errNoDigits") (g := 3) (text := [110, 117, 109, 98, 101, 114, 32, 104, 97, 115, 32, 110, 111, 32, 100, 105, 103, 105, 116, 115]) (by unfold Rows.fnParseFailsRow Rows.laid_loop_example_pub_g03235_pub_bigall_errNoDigits; simp) (by kernel_rfl) (by kernel_rfl)
  obtain ⟨a3, h3⟩ := err_at h (n := "strconv.ErrSyntax") (g := 12) (text := [105, 110, 118, 97, 108, 105, 100, 32, 115, 121, 110, 116, 97, 120]) (by unfold Rows.fnParseFailsRow Rows.laid_strconv_ErrSyntax; simp) (by kernel_rfl) (by kernel_rfl)
  obtain ⟨a4, h4⟩ := err_at h (n := "strconv.ErrRange") (g := 13) (text := [118, 97, 108, 117, 101, 32, 111, 117, 116, 32, 111, 102, 32, 114, 97, 110, 103, 101]) (by unfold Rows.fnParseFailsRow Rows.laid_strconv_ErrRange; simp) (by kernel_rfl) (by kernel_rfl)
  have k1 := lit_at h (n := "loop.example/pub-g03235/pub/bigall.karatsubaThreshold") (g := 1) (ty := 3) (k := .i64) (x := 40) (by unfold Rows.fnParseFailsRow Rows.laid_loop_example_pub_g03235_pub_bigall_karatsubaThreshold; simp) (by kernel_rfl) (by kernel_rfl) Tryz.underlying3
  have k4 := lit_at h (n := "loop.example/pub-g03235/pub/bigall.divRecursiveThreshold") (g := 4) (ty := 3) (k := .i64) (x := 40) (by unfold Rows.fnParseFailsRow Rows.laid_loop_example_pub_g03235_pub_bigall_divRecursiveThreshold; simp) (by kernel_rfl) (by kernel_rfl) Tryz.underlying3
  have k5 := lit_at h (n := "loop.example/pub-g03235/pub/bigall.basicSqrThreshold") (g := 5) (ty := 3) (k := .i64) (x := 12) (by unfold Rows.fnParseFailsRow Rows.laid_loop_example_pub_g03235_pub_bigall_basicSqrThreshold; simp) (by kernel_rfl) (by kernel_rfl) Tryz.underlying3
  have k6 := lit_at h (n := "loop.example/pub-g03235/pub/bigall.karatsubaSqrThreshold") (g := 6) (ty := 3) (k := .i64) (x := 80) (by unfold Rows.fnParseFailsRow Rows.laid_loop_example_pub_g03235_pub_bigall_karatsubaSqrThreshold; simp) (by kernel_rfl) (by kernel_rfl) Tryz.underlying3
  have t7 := tab_at h (n := "loop.example/pub-g03235/pub/bigall.pow5tab") (g := 7) (N := 28) (ty := 272) (e := 141) (k := .u64) (xs := p5list) (by unfold Rows.fnParseFailsRow Rows.laid_loop_example_pub_g03235_pub_bigall_pow5tab; simp [p5list]) (by kernel_rfl) (by kernel_rfl) (by kernel_rfl) (by kernel_rfl) (by kernel_rfl)
  have t11 := tab_at h (n := "math/bits.deBruijn64tab") (g := 11) (N := 64) (ty := 303) (e := 5) (k := .u8) (xs := deblist) (by unfold Rows.fnParseFailsRow Rows.laid_math_bits_deBruijn64tab; simp [deblist]) (by kernel_rfl) (by kernel_rfl) (by kernel_rfl) (by kernel_rfl) (by kernel_rfl)
  exact ⟨aE, a1, a2, ⟨hE, h1, h2⟩, ⟨⟨_, h3, Or.inr ⟨_, _, rfl⟩⟩, ⟨_, h4, Or.inr ⟨_, _, rfl⟩⟩⟩, fun i hi => t7 i _ hi (p5_at i hi), k1, k4, k5, k6, fun j hj => t11 j _ hj (deb_at j hj), cell_lt h4⟩
end Go.Proofs.YtmgfajamanakcaaGreatDoor
