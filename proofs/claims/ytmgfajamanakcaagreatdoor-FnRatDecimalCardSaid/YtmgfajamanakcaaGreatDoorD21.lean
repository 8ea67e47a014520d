/- Part of the proof of FnParse: what the functions that it reaches do, as contracts. Conditions: those that each theorem names. -/
import Derived.Test.YtmgfajamanakcaaGreatDoorD20
import Derived.Laws.Externs
import Derived.Test.YtmgfajamanakcaaGreatDoorD13
import Derived.Test.YtmgfajamanakcaaGreatDoorD15
namespace Go.Proofs.YtmgfajamanakcaaGreatDoor
set_option linter.unusedVariables false
set_option linter.unusedSimpArgs false
open Go.RowKit
set_option maxRecDepth 100000
def SetIntP (w : World) (zb : Nat) (neg : Bool) (xn : Nat) (X : Nat → Int) (e : Ending) (w' : World) : Prop :=
  ∃ a c b d, e = .returned (.pointer (some ⟨zb, 0, none⟩)) ∧ IntC w' zb 0 neg a xn c ∧ xn ≤ c ∧ ZOK w' a c ∧ Fresh w a ∧ Rd w' a xn X ∧ IntC w' zb 2 false b 1 d ∧ Fresh w b ∧ Chg (zRow zb 0 4) w w'
set_option maxHeartbeats 2000000 in
theorem SetInt_new (zb xb xo : Nat) (neg : Bool) (ax : Option Addr) (xn xc : Nat) (X : Nat → Int) (w : World) (hz : IntC w zb 0 false none 0 0) (hz2 : IntC w zb 2 false none 0 0) (hx : IntC w xb xo neg ax xn xc) (hr : Rd w ax xn X) (hxc : xn ≤ xc) (hxn : xn < 1099511627776)
    (hpz : PB w zb) (hpx : PB w xb) (hne : zb ≠ xb) :
    Calls Tryz.prog 90 #[.pointer (some ⟨zb, 0, none⟩), .pointer (some ⟨xb, xo, none⟩)] w (SetIntP w zb neg xn X) := by
  have hlt := hz.lt
  have HS := Lib.hid (Set_new zb 0 xb xo false neg ax xn xc X w hz hx hr hxc hxn hpz hpx (fun h => hne h.1) (fun o _ h => hne h.1.symm))
  have HZ := Lib.hid (And.intro hz2 hlt)
  clear hz hz2 hx hr hxc hxn hpz hpx hne hlt
  go_enter Tryz.func90, Tryz.ntmps90
  go_wp2_with fail
  refine HS.out.mono ?_
  rintro e w1 ⟨a, c, rfl, h1, h2, h3, h4, h5, h6⟩
  have hB : IntC w1 zb 2 false none 0 0 := HZ.out.1.chg h6 (fun o ho h => by have := h.2; omega)
  have HW := Lib.hid (setWord_any none 0 0 1 w1 (Or.inl ⟨rfl, rfl⟩) ⟨by decide, by decide⟩)
  have H := Lib.hid (And.intro h1 (And.intro h2 (And.intro h3 (And.intro h4 (And.intro h5 (And.intro h6 hB))))))
  clear h1 h2 h3 h4 h5 h6
  obtain ⟨y0, y1, y2, y3⟩ := hB
  go_wp2_with fail
  refine HW.out.mono ?_
  rintro e w2 ⟨b, m, d, Y, rfl, g1, g2, g3, g4, g5, g6, g7, g8⟩
  obtain rfl : m = 1 := by
    have h1 := norm_le (N := 1) g4 g5 (by rw [g6]; decide)
    have h2 : m ≠ 0 := fun h => by subst h; cases g6
    omega
  have hB2 := H.out.2.2.2.2.2.2.chg g8 (fun _ _ h => (no_zone h).elim)
  have G := Lib.hid (And.intro g7 (And.intro g8 hB2))
  obtain ⟨x0, x1, x2, x3⟩ := hB2
  clear g1 g2 g3 g4 g5 g6 g7 g8 y0 y1 y2 y3
  go_wp2_with fail
  go_ret
  obtain ⟨h1, h2, h3, h4, h5, h6, h7⟩ := H.out
  obtain ⟨g7, g8, g9⟩ := G.out
  have g8' : Chg zNone w1 w2 := g8.mono (fun _ _ _ h => (no_zone h).elim)
  have kS : Chg (zRow zb 0 4) w2 (w2.setCell ⟨zb, 3, none⟩ (.slice b 1 d)) := (Chg.refl _ _).setCell _ _ _ (fun _ => ⟨rfl, by omega, by omega⟩)
  have k2 : Chg (zRow zb 0 4) w1 (w2.setCell ⟨zb, 3, none⟩ (.slice b 1 d)) := (g8'.mono (Z' := zRow zb 0 4) (fun _ _ _ h => h.elim)).trans kS (fun _ _ _ h => h)
  have kk : Chg (zRow zb 0 4) w (w2.setCell ⟨zb, 3, none⟩ (.slice b 1 d)) := (h6.mono (Z' := zRow zb 0 4) (fun _ _ _ h => ⟨h.1, h.2.1, by have := h.2.2; omega⟩)).trans k2 (fun _ _ _ h => h)
  have hlt := HZ.out.2
  refine ⟨a, c, b, d, rfl, ?_, h2, h3.chg k2 ?_, h4, rd_far h5 k2 ?_, g9.abs, ?_, kk⟩
  · exact (h1.chg g8' (fun _ _ h => h)).chg (Z := fun b' o' => b' = zb ∧ o' = 3) ((Chg.refl _ _).setCell _ _ _ (fun _ => ⟨rfl, rfl⟩)) (fun o ho h => by have := h.2; omega)
  · rintro b o ⟨p, e, _⟩ hh; exact fresh_far h4 hlt e hh.1
  · rintro b o i e _ hh; exact fresh_far h4 hlt e hh.1
  · rcases g7 with ⟨h, _⟩ | ⟨b', o', e, hb⟩
    · exact Or.inl h
    · exact Or.inr ⟨b', o', e, Nat.le_trans h6.size hb⟩
def RatP (w : World) (xn : Bool) (U : Nat → Int) (un : Nat) (D : Nat → Int) (dn : Nat) (e : Ending) (w' : World) : Prop :=
  ∃ zb a n c b m d, e = .returned (.pointer (some ⟨zb, 0, none⟩)) ∧ w.heap.size ≤ zb ∧ PB w' zb ∧ n ≤ un ∧ m ≤ dn ∧ NumO w w' zb 0 (xn && decide (val U un ≠ 0)) a n c U (val U un) ∧ NumO w w' zb 2 false b m d D (val D dn) ∧ Chg zNone w w'
def RatRel (w wA : World) (zb un dn : Nat) (D : Nat → Int) (k : Nat) (s4 s15 : Value) (wc : World) : Prop :=
  ∃ (i : Nat) (a : Option Addr) (c : Nat), s4 = .slice a i c ∧ s15 = .int .i64 (i : Int) ∧ i + k = dn ∧ Hid (i ≤ c ∧ ZOK wc a c ∧ Fresh wA a ∧ Rd wc a i D ∧ Chg zNone wA wc)
set_option maxHeartbeats 4000000 in
theorem rat_any (xn : Bool) (ua : Option Addr) (un uc : Nat) (U : Nat → Int) (da : Option Addr) (dn dc : Nat) (D : Nat → Int) (w : World) (hu : Rd w ua un U) (hU : WF U un) (hun : un < 1073741824) (hd : Rd w da dn D) (hD : WF D dn) (hdn : dn < 1073741824) :
    Calls Tryz.prog 47 #[.agg #[.bool xn, .slice ua un uc, .slice da dn dc]] w (RatP w xn U un D dn) := by
  obtain ⟨wA, hwA⟩ : ∃ wA, wA = (w.alloc (.cells #[.bool xn, .slice ua un uc, .slice da dn dc] 31)).alloc (.cells #[.bool false, .slice none 0 0, .bool false, .slice none 0 0] 124) := ⟨_, rfl⟩
  have kA : Chg zNone w wA := by rw [hwA]; exact ((Chg.refl _ _).alloc _).alloc _
  have hN : (w.alloc (.cells #[.bool xn, .slice ua un uc, .slice da dn dc] 31)).heap.size = w.heap.size + 1 := by show (w.heap.push _).size = _; simp
  have hF : ∀ i v, (#[Value.bool xn, .slice ua un uc, .slice da dn dc])[i]? = some v → wA.cell? ⟨w.heap.size, i, none⟩ = some v := fun i v h => by
    rw [hwA]; exact ((Chg.refl zNone _).alloc _).cell (cell?_alloc_new w _ 31 i v h) (fun h => h)
  have hR : ∀ i v, (#[Value.bool false, .slice none 0 0, .bool false, .slice none 0 0])[i]? = some v → wA.cell? ⟨w.heap.size + 1, i, none⟩ = some v := fun i v h => by
    rw [hwA, ← hN]; exact cell?_alloc_new _ _ 124 i v h
  have hRz : ∀ i, wA.frozen? ⟨w.heap.size + 1, i, none⟩ = false := fun i => by
    rw [hwA, ← hN]; exact frozen?_alloc_new _ _ 124 i
  have hP : PB wA (w.heap.size + 1) := by rw [hwA, ← hN]; exact PB.new _ _ _
  have hPs : wA.heap.size = w.heap.size + 2 := by rw [hwA]; show (Array.push _ _).size = _; rw [Array.size_push, hN]
  have hI0 : IntC wA (w.heap.size + 1) 0 false none 0 0 := ⟨hR 0 _ rfl, hR 1 _ rfl, hRz 0, hRz 1⟩
  have hI2 : IntC wA (w.heap.size + 1) 2 false none 0 0 := ⟨hR 2 _ rfl, hR 3 _ rfl, hRz 2, hRz 3⟩
  have HO := Lib.hid (ofint_any xn ua un uc U wA (rd_far hu kA (fun _ _ _ _ _ h => h)) hU hun)
  have f0 := ((Chg.refl zNone wA).cell (hF 0 _ rfl) (fun h => h))
  have HA := Lib.hid (And.intro kA (And.intro hF (And.intro hP (And.intro hI0 (And.intro hI2 (And.intro hPs (rd_far hd kA (fun _ _ _ _ _ h => h))))))))
  have HD := Lib.hid hD
  have HDa := Lib.hid (show ∀ b o i, da = some ⟨b, o, none⟩ → i < dn → b < w.heap.size from fun b o i e hi => by
    rcases hd with h | ⟨b', o', e', hw⟩
    · omega
    · rw [e] at e'; injection e' with e'; injection e' with e1 _; have := lt_of_cell (hw i hi); omega)
  have HWA := Lib.hid hwA
  have f1 := hF 1 _ rfl
  rw [hwA] at f0 f1
  clear hu hU hd hD kA hF hR hRz hP hI0 hI2 hN hPs hwA
  go_enter Tryz.func47, Tryz.ntmps47
  go_wp2_with fail
  rw [← HWA.out]
  clear f0 f1
  refine HO.out.mono ?_
  rintro e w1 ⟨zi, a, n, c, rfl, g1, g2, g3, g4, g5⟩
  obtain ⟨q1, q2, q3, q4, q5, q6, q7⟩ := HA.out
  have HN := Lib.hid (SetInt_new (w.heap.size + 1) zi 0 _ a n c U w1 (q4.chg g5 (fun _ _ h => h)) (q5.chg g5 (fun _ _ h => h)) g4.ic g4.rd g4.le (by omega) (q3.chg g5) g2 (by omega))
  have HG := Lib.hid (And.intro g3 (And.intro g4 g5))
  have Hg1 := Lib.hid (show w.heap.size + 1 < w1.heap.size by have := g5.size; omega)
  clear g1 g2 g3 g4 g5 q1 q2 q3 q4 q5 q6 q7
  go_wp2_with fail
  refine HN.out.mono ?_
  rintro e w2 ⟨a1, c1, b1, d1, rfl, h1, h2, h3, h4, h5, h6, h7, h8⟩
  obtain ⟨q1, q2, q3, q4, q5, q6, q7⟩ := HA.out
  have k02 : Chg (zRow (w.heap.size + 1) 0 4) wA w2 := (HG.out.2.2.mono (Z' := zRow (w.heap.size + 1) 0 4) (fun _ _ _ h => h.elim)).trans h8 (fun _ _ _ h => h)
  have f2 : w2.cell? ⟨w.heap.size, 2, none⟩ = some (.slice da dn dc) := k02.cell (q2 2 _ rfl) (fun h => by have := h.1; omega)
  have HR2 := Lib.hid (rd_far q7 k02 (fun b o i e hi h => by have := HDa.out b o i e hi; have := h.1; omega))
  have HH := Lib.hid (And.intro h1 (And.intro h2 (And.intro h3 (And.intro h4 (And.intro h5 (And.intro h6 (And.intro h7 (And.intro h8 k02))))))))
  clear h1 h2 h3 h4 h5 h6 h7 h8 q1 q2 q3 q4 q5 q6 q7 k02
  go_wp2_with fail
  clear f2
  go_loopg [4, 6, 15] dn (fun k s4 s6 s15 wc => RatRel w w2 (w.heap.size + 1) un dn D k s4 s15 wc)
  case atStart => exact ⟨0, none, 0, rfl, rfl, by omega, Nat.le_refl _, Or.inl ⟨rfl, rfl⟩, Or.inl rfl, Or.inl rfl, Chg.refl _ _⟩
  case round =>
    obtain ⟨i, a', c', rfl, rfl, hk, H⟩ := hrel
    by_cases hi : i < dn
    · have h1 : decide ((i : Int) < (dn : Int)) = true := by simp; omega
      have h2 : (0 : Int) ≤ (i : Int) := by omega
      have h3 : (i : Int) < (dn : Int) := by omega
      obtain ⟨x, hx⟩ : ∃ x, D i = x := ⟨_, rfl⟩
      obtain ⟨b, o, rfl, hw⟩ : ∃ b o, da = some ⟨b, o, none⟩ ∧ Words w2 b o dn D := by
        rcases HR2.out with h | h
        · omega
        · exact h
      have hc := H.out.2.2.2.2.cell (hw i hi) (fun h => h)
      rw [hx] at hc
      have Hx := Lib.hid hx
      clear hx hw
      have kal : Chg zNone wr (wr.alloc (.cells #[.int .u64 x] 153)) := (Chg.refl _ _).alloc _
      have HX := Lib.hid (show ZOK (wr.alloc (.cells #[.int .u64 x] 153)) a' c' ∧ Rd (wr.alloc (.cells #[.int .u64 x] 153)) a' i D ∧ (wr.alloc (.cells #[.int .u64 x] 153)).cell? ⟨wr.heap.size, 0, none⟩ = some (.int .u64 x) from
        ⟨H.out.2.1.chg kal (fun _ _ _ h => h), rd_far H.out.2.2.2.1 kal (fun _ _ _ _ _ h => h), cell?_alloc_new wr #[.int .u64 x] 153 0 (.int .u64 x) rfl⟩)
      have HK := Lib.hid (H.out.2.2.2.2.trans kal (fun _ _ _ h => h))
      have x3 := H.out.1
      have x4 : i < 1099511627776 := by omega
      clear kal
      go_wp2_with (refine wpList_append_wordl rfl (.tmp 19) (.tmp 21) rfl a' i c' D _ _ rfl rfl HX.out.1 HX.out.2.1 x3 x4 HX.out.2.2 ?_; rintro a2 c2 w3 h2; have H2 := Lib.hid h2; clear h2)
      go_roundg (gk - 1)
      case measure => omega
      case rel =>
        obtain ⟨g1, g2, g3, g4, g5⟩ := H2.out
        refine ⟨i + 1, a2, c2, rfl, by go_num, by omega, g1, g2, fresh_home H.out.2.2.1 g4 HK.out.size, ?_, HK.out.trans g5 ?_⟩
        · rcases g3 with h | ⟨b', o', e, hw⟩
          · omega
          · refine Or.inr ⟨b', o', e, hw.congr (fun j hj => ?_)⟩
            by_cases hji : j = i
            · subst hji; rw [upd_same]; exact Hx.out.symm
            · exact upd_other D x hji
        · rintro b' o' hb ⟨p, e, _⟩
          exact (fresh_far H.out.2.2.1 hb e rfl).elim
    · have h1 : decide ((i : Int) < (dn : Int)) = false := by simp; omega
      obtain rfl : i = dn := by omega
      obtain ⟨hic, hz, hfr, hrd, hkc⟩ := H.out
      obtain ⟨p1, p2, p3, p4, p5, p6, p7, p8, p9⟩ := HH.out
      have hB : IntC wr (w.heap.size + 1) 2 false b1 1 d1 := p6.chg hkc (fun _ _ h => h)
      have HDn := Lib.hid (Denom_any (w.heap.size + 1) false b1 1 d1 wr hB (by omega))
      have HSB := Lib.hid (SetBits_any (w.heap.size + 1) 2 false b1 1 d1 a' i c' D wr hB hrd hic hz.cap)
      have HB := Lib.hid hB
      clear hic hz hfr hrd hkc hB p1 p2 p3 p4 p5 p6 p7 p8 p9
      go_wp2_with fail
      refine HDn.out.mono ?_
      rintro e w3 ⟨rfl, rfl⟩
      go_wp2_with fail
      refine HSB.out.mono ?_
      rintro e w4 ⟨i1, rfl, r1, r2, r3, hw4⟩
      have HW4 := Lib.hid hw4
      have HRR := Lib.hid (And.intro r1 (And.intro r2 r3))
      clear hw4 r1 r2 r3
      go_wp2_with fail
      go_ret
      obtain ⟨hic, hz, hfr, hrd, hkc⟩ := H.out
      obtain ⟨p1, p2, p3, p4, p5, p6, p7, p8, p9⟩ := HH.out
      obtain ⟨r1, r2, r3⟩ := HRR.out
      have k4 : Chg (zRow (w.heap.size + 1) 2 2) wr w4 := by rw [HW4.out]; exact ((Chg.refl _ _).setCell _ _ _ (fun _ => ⟨rfl, by omega, by omega⟩)).setCell _ _ _ (fun _ => ⟨rfl, by omega, by omega⟩)
      have k24 : Chg (zRow (w.heap.size + 1) 2 2) w2 w4 := (hkc.mono (Z' := zRow (w.heap.size + 1) 2 2) (fun _ _ _ h => h.elim)).trans k4 (fun _ _ _ h => h)
      have hwA := HA.out.2.2.2.2.2.1
      have kA4 : Chg (zRow (w.heap.size + 1) 0 4) wA w4 := p9.trans k24 (fun b o _ h => ⟨h.1, Nat.zero_le _, by have := h.2.2; omega⟩)
      have kF : Chg zNone w w4 := HA.out.1.trans kA4 (fun b o hb h => by have := h.1; omega)
      have g1 := HG.out.1
      have g2 := HG.out.2.1
      have s1 : ∀ b o, a1 = some ⟨b, o, none⟩ → b ≠ w.heap.size + 1 := fun b o e => fresh_far p4 Hg1.out e
      have s2 : ∀ b o, a' = some ⟨b, o, none⟩ → b ≠ w.heap.size + 1 := fun b o e => fresh_far hfr (Nat.lt_of_lt_of_le Hg1.out p8.size) e
      have sz1 : w.heap.size ≤ w1.heap.size := by have := Hg1.out; omega
      refine ⟨w.heap.size + 1, a1, n, c1, a', i1, c', rfl, by omega, (HA.out.2.2.1.chg kA4), g1, r1, ⟨?_, p2, ?_, ?_, g2.wf, g2.nm, g2.v, ?_, s1⟩, ⟨?_, by omega, ?_, ?_, fun j hj => HD.out j (by omega), r3, (val_trim r1 r2).symm, ?_, s2⟩, kF⟩
      · exact p1.chg k24 (fun o ho h => by have := h.2; omega)
      · exact p3.chg k24 (by rintro b o ⟨p, e, _⟩ hh; exact s1 b p e hh.1)
      · exact rd_far p5 k24 (by rintro b o i e _ hh; exact s1 b o e hh.1)
      · exact p4.imp id (fun ⟨b, o, e, h⟩ => ⟨b, o, e, Nat.le_trans sz1 h⟩)
      · rw [HW4.out]; exact (HB.out.abs).sign
      · exact hz.chg k4 (by rintro b o ⟨p, e, _⟩ hh; exact s2 b p e hh.1)
      · refine rd_far (show Rd wr a' i1 D from ?_) k4 (by rintro b o i e _ hh; exact s2 b o e hh.1)
        rcases hrd with h | ⟨b, o, e, hw⟩
        · exact Or.inl (by omega)
        · exact Or.inr ⟨b, o, e, hw.le r1⟩
      · exact hfr.imp id (fun ⟨b, o, e, h⟩ => ⟨b, o, e, Nat.le_trans sz1 (Nat.le_trans p8.size h)⟩)
theorem archLog_run (w : World) : (Extern.MathLog.archLog #[.float .f64 0x3FE4000000000000]).run Tryz.prog w = .ok (.float .f64 13825510489450817230) w := by
  kernel_rfl
theorem call276 (w : World) : (callFunc 276 #[.float .f64 0x3FE4000000000000]).run Tryz.prog w = .ok (.value (.float .f64 13825510489450817230)) w := by
  rw [run_callFunc_extern (fn := Tryz.f276) (e := Extern.MathLog.archLog) (by kernel_rfl) (by kernel_rfl) (by kernel_rfl) (by kernel_rfl) (by kernel_rfl), archLog_run]
  rfl
theorem call283 (x : Nat) (w : World) : (callFunc 283 #[.float .f64 x]).run Tryz.prog w = .ok (.value (.int .u64 x)) w := by
  rw [run_callFunc_extern (fn := Tryz.f283) (e := Extern.MathFloatBits.float64bits) (by kernel_rfl) (by kernel_rfl) (by kernel_rfl) (by kernel_rfl) (by kernel_rfl)]
  rfl
theorem call284 (x : Nat) (w : World) : (callFunc 284 #[.int .u64 x]).run Tryz.prog w = .ok (.value (.float .f64 x)) w := by
  rw [run_callFunc_extern (fn := Tryz.f284) (e := Extern.MathFloatBits.float64frombits) (by kernel_rfl) (by kernel_rfl) (by kernel_rfl) (by kernel_rfl) (by kernel_rfl)]
  rfl
theorem abs_bits : bits BinOp.andNot IntKind.u64 4621819117588971520 9223372036854775808 = 4621819117588971520 := by decide +kernel
theorem ord_big : (FloatKind.f64.format.order 4621819117588971520 9218868437227405311 == some Ordering.gt) = false := by decide +kernel
theorem ord_same : (FloatKind.f64.format.order 4621819117588971520 4621819117588971520 != some Ordering.eq) = false := by decide +kernel
theorem ord_small : (FloatKind.f64.format.order 4621819117588971520 4503599627370496 == some Ordering.lt) = false := by decide +kernel
theorem abs_ten (w : World) : Calls Tryz.prog 288 #[.float .f64 4621819117588971520] w fun e w' => e = .returned (.float .f64 4621819117588971520) ∧ w' = w := by
  have h1 : (callFunc 283 #[.float .f64 4621819117588971520]).run Tryz.prog w = .ok (.value (.int .u64 4621819117588971520)) w := call283 4621819117588971520 w
  have h2 : (callFunc 284 #[.int .u64 4621819117588971520]).run Tryz.prog w = .ok (.value (.float .f64 4621819117588971520)) w := call284 4621819117588971520 w
  have h3 := abs_bits
  go_enter Tryz.func288, Tryz.ntmps288
  go_wp2
  go_ret
  exact ⟨rfl, rfl⟩
theorem isInf_ten (w : World) : Calls Tryz.prog 280 #[.float .f64 4621819117588971520, .int .i64 0] w fun e w' => e = .returned (.bool false) ∧ w' = w := by
  have HA := Lib.hid (abs_ten w)
  go_enter Tryz.func280, Tryz.ntmps280
  go_wp2_with fail
  refine HA.out.mono ?_
  rintro e w1 ⟨rfl, rfl⟩
  go_wp2
  go_ret
  exact ⟨by rw [ord_big]; rfl, rfl⟩
theorem isNaN_ten (w : World) : Calls Tryz.prog 281 #[.float .f64 4621819117588971520] w fun e w' => e = .returned (.bool false) ∧ w' = w := by
  go_enter Tryz.func281, Tryz.ntmps281
  go_wp2
  go_ret
  exact ⟨by rw [ord_same]; rfl, rfl⟩
theorem normalize_ten (w : World) : Calls Tryz.prog 282 #[.float .f64 4621819117588971520] w fun e w' => e = .returned (.tuple #[.float .f64 4621819117588971520, .int .i64 0]) ∧ w' = w := by
  have HA := Lib.hid (abs_ten w)
  have ho := ord_small
  go_enter Tryz.func282, Tryz.ntmps282
  go_wp2_with fail
  refine HA.out.mono ?_
  rintro e w1 ⟨rfl, rfl⟩
  go_wp2
  go_ret2
  exact ⟨rfl, rfl⟩
theorem ord_zero : (FloatKind.f64.format.order 4621819117588971520 0 == some Ordering.eq) = false := by decide +kernel
theorem fr_a : bits BinOp.and IntKind.u64 1026 2047 = 1026 := by decide +kernel
theorem fr_b : bits BinOp.andNot IntKind.u64 4621819117588971520 9218868437227405312 = 1125899906842624 := by decide +kernel
theorem fr_c : bits BinOp.or IntKind.u64 1125899906842624 4602678819172646912 = 4603804719079489536 := by decide +kernel
theorem frexp_ten (w : World) : Calls Tryz.prog 275 #[.float .f64 4621819117588971520] w fun e w' => e = .returned (.tuple #[.float .f64 0x3FE4000000000000, .int .i64 4]) ∧ w' = w := by
  have HI := Lib.hid (isInf_ten w)
  have HN := Lib.hid (isNaN_ten w)
  have HZ := Lib.hid (normalize_ten w)
  have h1 : (callFunc 283 #[.float .f64 4621819117588971520]).run Tryz.prog w = .ok (.value (.int .u64 4621819117588971520)) w := call283 4621819117588971520 w
  have h2 : (callFunc 284 #[.int .u64 4603804719079489536]).run Tryz.prog w = .ok (.value (.float .f64 4603804719079489536)) w := call284 4603804719079489536 w
  have ho := ord_zero
  have e1 := fr_a
  have e2 := fr_b
  have e3 := fr_c
  go_enter Tryz.func275, Tryz.ntmps275
  go_wp2_with (first | (refine HI.out.mono ?_; rintro e w1 ⟨rfl, rfl⟩) | (refine HN.out.mono ?_; rintro e w1 ⟨rfl, rfl⟩) | (refine HZ.out.mono ?_; rintro e w1 ⟨rfl, rfl⟩))
  go_ret2
  exact ⟨rfl, rfl⟩
theorem Frexp_ten (w : World) : Calls Tryz.prog 261 #[.float .f64 4621819117588971520] w fun e w' => e = .returned (.tuple #[.float .f64 0x3FE4000000000000, .int .i64 4]) ∧ w' = w := by
  have HI := Lib.hid (frexp_ten w)
  go_enter Tryz.func261, Tryz.ntmps261
  go_wp2_with (first | (refine HI.out.mono ?_; rintro e w1 ⟨rfl, rfl⟩))
  go_ret2
  exact ⟨rfl, rfl⟩
theorem Log_ten (w : World) : Calls Tryz.prog 262 #[.float .f64 4603804719079489536] w fun e w' => e = .returned (.float .f64 13825510489450817230) ∧ w' = w := by
  have h1 := call276 w
  go_enter Tryz.func262, Tryz.ntmps262
  go_wp2
  go_ret
  exact ⟨rfl, rfl⟩
theorem ord_half : (FloatKind.f64.format.order 4603804719079489536 4602678819172646912 == some Ordering.eq) = false := by decide +kernel
theorem fl_mul : FloatKind.f64.format.mul 13825510489450817230 4609176140021203710 = some 13827654785158443579 := by decide +kernel
theorem fl_four : floatOfInt FloatKind.f64 4 = 4616189618054758400 := by decide +kernel
theorem fl_add : FloatKind.f64.format.add 13827654785158443579 4616189618054758400 = some 4614662735865160561 := by decide +kernel
theorem run_fmul {x y r : Nat} (h : FloatKind.f64.format.mul x y = some r) (ty : TypeId) (w : World) : (binOp .mul ty (.float .f64 x) (.float .f64 y)).run Tryz.prog w = .ok (.float .f64 r) w := by
  simp [binOp, Op.floatArith, go_sem, h]
theorem run_fadd {x y r : Nat} (h : FloatKind.f64.format.add x y = some r) (ty : TypeId) (w : World) : (binOp .add ty (.float .f64 x) (.float .f64 y)).run Tryz.prog w = .ok (.float .f64 r) w := by
  simp [binOp, Op.floatArith, go_sem, h]
theorem run_fquo {x y r : Nat} (h : FloatKind.f64.format.div x y = some r) (ty : TypeId) (w : World) : (binOp .quo ty (.float .f64 x) (.float .f64 y)).run Tryz.prog w = .ok (.float .f64 r) w := by
  simp [binOp, Op.floatArith, go_sem, h]
theorem log2_ten (w : World) : Calls Tryz.prog 235 #[.float .f64 4621819117588971520] w fun e w' => e = .returned (.float .f64 4614662735865160561) ∧ w' = w := by
  have HI := Lib.hid (Frexp_ten w)
  have HL := Lib.hid (Log_ten w)
  have e1 := run_fmul fl_mul 250 w
  have e2 := fl_four
  have e3 := run_fadd fl_add 250 w
  have e4 := ord_half
  go_enter Tryz.func235, Tryz.ntmps235
  go_wp2_with (first | (refine HI.out.mono ?_; rintro e w1 ⟨rfl, rfl⟩) | (refine HL.out.mono ?_; rintro e w1 ⟨rfl, rfl⟩))

  go_ret
  exact ⟨rfl, rfl⟩
theorem Log2_ten (w : World) : Calls Tryz.prog 200 #[.float .f64 4621819117588971520] w fun e w' => e = .returned (.float .f64 4614662735865160561) ∧ w' = w := by
  have HI := Lib.hid (log2_ten w)
  go_enter Tryz.func200, Tryz.ntmps200
  go_wp2_with (first | (refine HI.out.mono ?_; rintro e w1 ⟨rfl, rfl⟩))
  go_ret
  exact ⟨rfl, rfl⟩
end Go.Proofs.YtmgfajamanakcaaGreatDoor
namespace Go.Proofs.YtmgfajamanakcaaGreatDoor
set_option linter.unusedVariables false
set_option linter.unusedSimpArgs false
open Go Go.RowKit
set_option maxRecDepth 100000
def TopAt (k : Nat) (y : Int) : Prop := 2 ^ k ≤ y ∧ y < 2 ^ (k + 1)
theorem or_word (a b : Nat) (ha : a < 2 ^ 64) (hb : b < 2 ^ 64) : bits BinOp.or IntKind.u64 (a : Int) (b : Int) = ((a ||| b : Nat) : Int) := by
  have h1 : (BitVec.ofInt 64 (a : Int)).toNat = a := by rw [BitVec.toNat_ofInt]; omega
  have h2 : (BitVec.ofInt 64 (b : Int)).toNat = b := by rw [BitVec.toNat_ofInt]; omega
  have hlt := Nat.or_lt_two_pow ha hb
  show IntKind.u64.wrap ((BitVec.ofInt 64 (a : Int) ||| BitVec.ofInt 64 (b : Int)).toNat : Nat) = _
  rw [BitVec.toNat_or, h1, h2, IntKind.wrap_u64]
  omega
theorem TopAt.smear {k : Nat} {y z : Int} (h : TopAt k y) (hk : k < 64) (h0 : 0 ≤ z) (hz : z ≤ y) : TopAt k (bits BinOp.or IntKind.u64 y z) := by
  obtain ⟨h1, h2⟩ := h
  have hp : (0 : Int) < 2 ^ k := Int.pow_pos (by decide)
  obtain ⟨a, rfl⟩ : ∃ a : Nat, y = (a : Int) := ⟨y.toNat, by omega⟩
  obtain ⟨b, rfl⟩ : ∃ b : Nat, z = (b : Int) := ⟨z.toNat, by omega⟩
  have e1 : (2 : Int) ^ k = ((2 ^ k : Nat) : Int) := by simp
  have e2 : (2 : Int) ^ (k + 1) = ((2 ^ (k + 1) : Nat) : Int) := by simp
  unfold TopAt
  rw [e1] at h1 ⊢
  rw [e2] at h2 ⊢
  have h2' : a < 2 ^ (k + 1) := by omega
  have hb' : b < 2 ^ (k + 1) := by omega
  have h64 : (2 : Nat) ^ (k + 1) ≤ 2 ^ 64 := Nat.pow_le_pow_right (by omega) (by omega)
  rw [or_word a b (by omega) (by omega)]
  have hor := Nat.or_lt_two_pow h2' hb'
  have hge : a ≤ a ||| b := Nat.left_le_or
  omega
theorem TopAt.bound {k : Nat} {y : Int} (h : TopAt k y) (hk : k < 64) : 0 < y ∧ y < 18446744073709551616 := by
  have hp : (0 : Int) < 2 ^ k := Int.pow_pos (by decide)
  have h64 : (2 : Nat) ^ (k + 1) ≤ 2 ^ 64 := Nat.pow_le_pow_right (by omega) (by omega)
  have e2 : (2 : Int) ^ (k + 1) = ((2 ^ (k + 1) : Nat) : Int) := by simp
  refine ⟨by have := h.1; omega, ?_⟩
  have := h.2
  rw [e2] at this
  omega
theorem Len_any (x : Int) (w : World) (h0 : 0 ≤ x) (h1 : x ≤ 18446744073709551615) :
    Calls Tryz.prog 231 #[.int .u64 x] w fun e w' => e = .returned (.int .i64 (Lib.bitLen x.toNat : Nat)) ∧ w = w' := by
  have HL := Lib.hid (Len64_any x w h0 h1)
  go_enter Tryz.func231, Tryz.ntmps231
  go_wp2_with fail
  refine HL.out.mono ?_
  rintro e w1 ⟨rfl, rfl⟩
  go_wp2
  go_ret
  exact ⟨rfl, rfl⟩
theorem bitLen_any (ax : Option Addr) (n c : Nat) (X : Nat → Int) (w : World) (hr : Rd w ax n X) (hw : WF X n) (hn0 : 0 < n) (hn : n < 1099511627776) (ht : X (n - 1) ≠ 0) :
    Calls Tryz.prog 186 #[.slice ax n c] w fun e w' => ∃ L : Nat, e = .returned (.int .i64 L) ∧ 0 < L ∧ L ≤ 64 * n ∧ 2 ^ (L - 1) ≤ val X n ∧ val X n < 2 ^ L ∧ w' = w := by
  obtain ⟨b, o, rfl, hW⟩ : ∃ b o, ax = some ⟨b, o, none⟩ ∧ Words w b o n X := by
    rcases hr with h | h
    · omega
    · exact h
  obtain ⟨m, rfl⟩ : ∃ m, n = m + 1 := ⟨n - 1, by omega⟩
  have hc := hW m (by omega)
  obtain ⟨x, hx⟩ : ∃ x, X m = x := ⟨_, rfl⟩
  rw [hx] at hc
  have h1 : decide ((((m + 1 : Nat) : Int) - 1) ≥ 0) = true := by simp
  have h2 : (((m + 1 : Nat) : Int) - 1) = (m : Int) := by omega
  have h3 : (0 : Int) ≤ (m : Int) := by omega
  have h4 : (m : Int) < ((m + 1 : Nat) : Int) := by omega
  have h5 : decide ((m : Int) ≥ 0) = true := by simp
  obtain ⟨y1, hy1⟩ : ∃ y, bits BinOp.or IntKind.u64 x (x / 2) = y := ⟨_, rfl⟩
  obtain ⟨y2, hy2⟩ : ∃ y, bits BinOp.or IntKind.u64 y1 (y1 / 4) = y := ⟨_, rfl⟩
  obtain ⟨y3, hy3⟩ : ∃ y, bits BinOp.or IntKind.u64 y2 (y2 / 16) = y := ⟨_, rfl⟩
  obtain ⟨y4, hy4⟩ : ∃ y, bits BinOp.or IntKind.u64 y3 (y3 / 256) = y := ⟨_, rfl⟩
  obtain ⟨y5, hy5⟩ : ∃ y, bits BinOp.or IntKind.u64 y4 (y4 / 65536) = y := ⟨_, rfl⟩
  go_enter Tryz.func186, Tryz.ntmps186
  go_wp2_with fail
  have hxw := hw m (by omega)
  rw [hx] at hxw
  have hx0 : x ≠ 0 := by rw [← hx]; exact ht
  obtain ⟨k, hk, hT⟩ : ∃ k, k < 64 ∧ TopAt k x := by
    obtain ⟨a, rfl⟩ : ∃ a : Nat, x = (a : Int) := ⟨x.toNat, by have := hxw.1; omega⟩
    have := hxw.2
    obtain ⟨i1, i2, i3, i4⟩ := bitLen_spec a (by omega) (by omega)
    refine ⟨Lib.bitLen a - 1, by omega, ?_, ?_⟩
    · have : ((2 ^ (Lib.bitLen a - 1) : Nat) : Int) ≤ a := by omega
      simpa using this
    · have : (a : Int) < ((2 ^ (Lib.bitLen a - 1 + 1) : Nat) : Int) := by rw [show Lib.bitLen a - 1 + 1 = Lib.bitLen a by omega]; omega
      simpa using this
  have T1 := hT.smear (z := x / 2) hk (by have := hT.bound hk; omega) (by have := hT.bound hk; omega)
  rw [hy1] at T1
  have T2 := T1.smear (z := y1 / 4) hk (by have := T1.bound hk; omega) (by have := T1.bound hk; omega)
  rw [hy2] at T2
  have T3 := T2.smear (z := y2 / 16) hk (by have := T2.bound hk; omega) (by have := T2.bound hk; omega)
  rw [hy3] at T3
  have T4 := T3.smear (z := y3 / 256) hk (by have := T3.bound hk; omega) (by have := T3.bound hk; omega)
  rw [hy4] at T4
  have T5 := T4.smear (z := y4 / 65536) hk (by have := T4.bound hk; omega) (by have := T4.bound hk; omega)
  rw [hy5] at T5
  have T6 := T5.smear (z := y5 / 65536 / 65536) hk (by have := T5.bound hk; omega) (by have := T5.bound hk; omega)
  obtain ⟨y6, hy6⟩ : ∃ y, bits BinOp.or IntKind.u64 y5 (y5 / 65536 / 65536) = y := ⟨_, rfl⟩
  rw [hy6] at T6 ⊢
  have hb6 := T6.bound hk
  refine (Len_any y6 w (by omega) (by omega)).mono ?_
  rintro e w1 ⟨rfl, rfl⟩
  have hL : Lib.bitLen y6.toNat = k + 1 := by
    refine bitLen_of (by omega) ?_ ?_
    · have := T6.1; have h2 : ((2 ^ k : Nat) : Int) ≤ y6 := by simpa using this
      omega
    · have := T6.2; have h2 : y6 < ((2 ^ (k + 1) : Nat) : Int) := by simpa using this
      omega
  rw [hL]
  have HT := Lib.hid hT
  have HW := Lib.hid hw
  clear T1 T2 T3 T4 T5 T6 hT hy6 hb6 hL hw
  go_wp2
  go_ret
  refine ⟨64 * m + k + 1, by show _ = Ending.returned (Value.int IntKind.i64 (((64 * m + k + 1 : Nat) : Int))); rw [show (((64 * m + k + 1 : Nat) : Int)) = (m : Int) * 64 + ((k : Int) + 1) by omega]; rfl, by omega, by omega, ?_, ?_, rfl⟩
  · obtain ⟨t1, t2⟩ := HT.out
    have a := val_nonneg (show WF X m from fun i hi => HW.out i (by omega))
    rw [show 64 * m + k + 1 - 1 = k + 64 * m by omega, Int.pow_add, val, hx, BB_pow]
    have hp : (0 : Int) < 2 ^ (64 * m) := Int.pow_pos (by decide)
    have := Int.mul_le_mul_of_nonneg_right t1 (Int.le_of_lt hp)
    omega
  · obtain ⟨t1, t2⟩ := HT.out
    have a := val_lt (show WF X m from fun i hi => HW.out i (by omega))
    rw [show 64 * m + k + 1 = (k + 1) + 64 * m by omega, Int.pow_add, val, hx]
    rw [BB_pow] at a ⊢
    have hp : (0 : Int) < 2 ^ (64 * m) := Int.pow_pos (by decide)
    have := Int.mul_le_mul_of_nonneg_right (show x + 1 ≤ 2 ^ (k + 1) by omega) (Int.le_of_lt hp)
    rw [Int.add_mul, Int.one_mul] at this
    omega
end Go.Proofs.YtmgfajamanakcaaGreatDoor
