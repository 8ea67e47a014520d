/- Part of the proof of FnParse: what the functions that it reaches do, as contracts. Conditions: those that each theorem names. -/
import Derived.Test.YtmgfajamanakcaaGreatDoorT39
import Derived.Test.YtmgfajamanakcaaGreatDoorT31
import Derived.Lib.SlBytesRow
import Derived.Deep.RegionHeld3
namespace Go.Proofs.YtmgfajamanakcaaGreatDoor
set_option linter.unusedVariables false
set_option linter.unusedSimpArgs false
open Go Go.RowKit Si
set_option maxRecDepth 100000
theorem res18 {tmps : Array Value} {w : World} {p : Nat} {ng r : Bool} {a b : Option Addr} {n c m d : Nat} (h : C3 w p (.bool ng) (.slice a n c) (.slice b m d)) (ht : tmps.getD 4 undef = .pointer (some ⟨p, 0, none⟩)) (h5 : tmps.getD 5 undef = .bool r) :
    (results Tryz.f18 tmps).run Tryz.prog w = .ok (.tuple #[ratV ng a n c b m d, .bool r]) w := by
  obtain ⟨h0, h1, h2, hp⟩ := h
  have ht' : tmps[4]?.getD undef = .pointer (some ⟨p, 0, none⟩) := by simpa using ht
  have h5'' : tmps[5]?.getD undef = .bool r := by simpa using h5
  simp [results, Tryz.results18, go_sem, ht', h5'', h0, h1, h2, ratV]
def FracLP (w : World) (xn : Bool) (U : Nat → Int) (un : Nat) (D : Nat → Int) (dn : Nat) (e : Ending) (w' : World) : Prop :=
  ∃ ng a n c b m d r, e = .returned (.tuple #[ratV ng a n c b m d, .bool r]) ∧ Chg zNone w w' ∧ (r = true → un ≤ 20 ∧ dn ≤ 20 ∧ val D dn ≠ 0 ∧ ng = xn ∧ xn = (xn && decide (val U un ≠ 0)) ∧ n ≤ 4 * un ∧ Si.NatV w' a n c (val U un) ∧ Fresh w a ∧ m ≤ 4 * dn ∧ Si.NatV w' b m d (val D dn) ∧ Fresh w b)
set_option maxHeartbeats 4000000 in
theorem fraction18_any (xn : Bool) (ua : Option Addr) (un uc : Nat) (U : Nat → Int) (da : Option Addr) (dn dc : Nat) (D : Nat → Int) (w : World)
    (hu : Rd w ua un U) (hU : WF U un) (hd : Rd w da dn D) (hD : WF D dn) (hun : un < 4611686018427387904) (hdn : dn < 4611686018427387904) :
    Calls Tryz.prog 18 #[fracV xn ua un uc da dn dc, .int .i64 20] w (FracLP w xn U un D dn) := by
  have HL : Hid (∀ W a n c, Calls Tryz.prog 51 #[.slice a n c, .int .i64 20] W (LongP W n 20)) := fun W a n c => long_any a n c 20 W
  obtain ⟨wA, hwA⟩ : ∃ wA, wA = (w.alloc (.cells #[.bool xn, .slice ua un uc, .slice da dn dc] 31)).alloc (.cells #[.bool false, .slice none 0 0, .slice none 0 0] 45) := ⟨_, rfl⟩
  have hs1 : (w.alloc (.cells #[.bool xn, .slice ua un uc, .slice da dn dc] 31)).heap.size = w.heap.size + 1 := by show (w.heap.push _).size = _; simp
  have kA : Chg zNone w wA := by rw [hwA]; exact ((Chg.refl _ _).alloc _).alloc _
  have hF : ∀ i v, (#[Value.bool xn, .slice ua un uc, .slice da dn dc])[i]? = some v → wA.cell? ⟨w.heap.size, i, none⟩ = some v := fun i v h => by
    rw [hwA]; exact ((Chg.refl zNone _).alloc _).cell (three_cells w _ _ _ 31 i v h) (fun h => h)
  have hR : C3 wA (w.heap.size + 1) (.bool false) (.slice none 0 0) (.slice none 0 0) := by
    have h := newC3 (w.alloc (.cells #[.bool xn, .slice ua un uc, .slice da dn dc] 31)) (.bool false) (.slice none 0 0) (.slice none 0 0) 45
    rw [← hwA, hs1] at h
    exact h
  have HOf : Hid (∀ W, Chg zNone wA W → dn ≤ 20 → Calls Tryz.prog 39 #[.slice da dn dc] W (OfP W (val D dn) dn)) := fun W k h20 => of_any da dn dc D W (rd_far hd (kA.trans k (fun _ _ _ h => h)) (fun _ _ _ _ _ h => h)) hD (by omega)
  have HOff : Hid (∀ W, Chg zNone wA W → un ≤ 20 → dn ≤ 20 → Calls Tryz.prog 52 #[fracV xn ua un uc da dn dc] W (OfFracP W xn U un D dn)) := fun W k h1 h2 => offraction_any xn ua un uc U da dn dc D W (rd_far hu (kA.trans k (fun _ _ _ h => h)) (fun _ _ _ _ _ h => h)) hU (by omega) (rd_far hd (kA.trans k (fun _ _ _ h => h)) (fun _ _ _ _ _ h => h)) hD (by omega)
  have HA := Lib.hid (And.intro kA (And.intro hF hR))
  have HWA := Lib.hid hwA
  have f1 := hF 1 _ rfl
  have f2 := hF 2 _ rfl
  rw [hwA] at f1 f2
  clear hu hU hd hD kA hF hR hwA hs1
  unfold fracV
  go_enter Tryz.func18, Tryz.ntmps18
  go_upto_region 1 with fail
  go_cut [23] (fun s23 wc => ∃ b, s23 = .bool b ∧ (b = false → un ≤ 20 ∧ dn ≤ 20 ∧ val D dn ≠ 0) ∧ Hid (Chg zNone wA wc))
  case first => as_aux_lemma =>
    go_wp2_with fail
    rw [← HWA.out]
    refine (HL.out wA ua un uc).mono ?_
    rintro e w1 ⟨rfl, k1⟩
    have K1 := Lib.hid k1
    have f3 := k1.cell (HA.out.2.1 2 _ rfl) (fun h => h)
    clear k1 f1 f2
    by_cases h1 : 20 < un
    · have d1 : decide (20 < un) = true := decide_eq_true h1
      rw [d1]
      go_wp2_with fail
      go_meet
      exact ⟨true, rfl, fun h => (by cases h), K1.out⟩
    · have d1 : decide (20 < un) = false := decide_eq_false h1
      rw [d1]
      go_wp2_with fail
      refine (HL.out w1 da dn dc).mono ?_
      rintro e w2 ⟨rfl, k2⟩
      have f4 := k2.cell f3 (fun h => h)
      have K2 := Lib.hid (K1.out.trans k2 (fun _ _ _ h => h))
      clear k2 f3
      by_cases h2 : 20 < dn
      · have d2 : decide (20 < dn) = true := decide_eq_true h2
        rw [d2]
        go_wp2_with fail
        go_meet
        exact ⟨true, rfl, fun h => (by cases h), K2.out⟩
      · have d2 : decide (20 < dn) = false := decide_eq_false h2
        rw [d2]
        go_wp2_with fail
        refine (HOf.out w2 K2.out (by omega)).mono ?_
        rintro e w3 ⟨a, n, c, rfl, g1, g2, g3, g4⟩
        have K3 := Lib.hid (K2.out.trans g3 (fun _ _ _ h => h))
        have H0 : Hid (n ≠ 0 → val D dn ≠ 0) := fun hn hv => hn (g2.zero.2 hv)
        clear g1 g2 g3 g4
        by_cases hn : n = 0
        · have d3 : ((n : Int) == 0) = true := by simp [hn]
          clear hn
          go_wp2_with fail
          go_meet
          exact ⟨true, rfl, fun h => (by cases h), K3.out⟩
        · have d3 : ((n : Int) == 0) = false := beq_false_of_ne (by omega)
          have Hn := Lib.hid hn
          clear hn
          go_wp2_with fail
          go_meet
          exact ⟨false, rfl, fun _ => ⟨by omega, by omega, H0.out Hn.out⟩, K3.out⟩
  case rest =>
    obtain ⟨b, rfl, hb, HK⟩ := hcut
    have kc := HK.out
    have hC := HA.out.2.2.chg kc (fun _ h => h)
    have HC := Lib.hid hC
    have l0 := hC.c0
    have l1 := hC.c1
    have l2 := hC.c2
    have z0 := hC.pb.fz 0
    have z1 := hC.pb.fz 1
    have z2 := hC.pb.fz 2
    have f0 := kc.cell (HA.out.2.1 0 _ rfl) (fun h => h)
    have f1' := kc.cell (HA.out.2.1 1 _ rfl) (fun h => h)
    have f2' := kc.cell (HA.out.2.1 2 _ rfl) (fun h => h)
    clear f1 f2 hC kc
    cases b with
    | true =>
      go_wp2
      refine bodyPost_ret (v := .tuple #[ratV false none 0 0 none 0 0, .bool false]) (res18 (HC.out.three (.bool false) (.slice none 0 0) (.slice none 0 0)) rfl rfl) rfl ?_
      exact ⟨false, none, 0, 0, none, 0, 0, false, rfl, far_row (HA.out.1.trans HK.out (fun _ _ _ h => h)) (Si.dy_row wc (w.heap.size + 1) _ _ _) (by omega), fun h => by cases h⟩
    | false =>
      obtain ⟨b1, b2, b3⟩ := hb rfl
      have HO := Lib.hid (HOff.out wc HK.out b1 b2)
      have Hb := Lib.hid (And.intro b1 (And.intro b2 b3))
      clear hb b1 b2 b3
      unfold fracV at HO
      go_wp2_with fail
      refine HO.out.mono ?_
      rintro e w1 ⟨a, n, c, b, m, d, r, rfl, g1, g2, g3, g4, g5, g6, g7, g8⟩
      have HC2 := Lib.hid (HC.out.chg g8 (fun _ h => h))
      have HG := Lib.hid (And.intro g1 (And.intro g2 (And.intro g3 (And.intro g4 (And.intro g5 (And.intro g6 (And.intro g7 g8)))))))
      have l0 := HC2.out.c0
      have l1 := HC2.out.c1
      have l2 := HC2.out.c2
      have z0 := HC2.out.pb.fz 0
      have z1 := HC2.out.pb.fz 1
      have z2 := HC2.out.pb.fz 2
      clear g1 g2 g3 g4 g5 g6 g7 g8 f0 f1' f2'
      unfold ratV
      go_wp2
      refine bodyPost_ret (v := .tuple #[ratV xn a n c b m d, .bool r]) (res18 (HC2.out.three (.bool xn) (.slice a n c) (.slice b m d)) rfl rfl) rfl ?_
      obtain ⟨g1, g2, g3, g4, g5, g6, g7, g8⟩ := HG.out
      have kS := Si.dy_row w1 (w.heap.size + 1) (.bool xn) (.slice a n c) (.slice b m d)
      have kw := HA.out.1.trans HK.out (fun _ _ _ h => h)
      have hlt : w.heap.size + 1 < wc.heap.size := HC.out.pb.lt
      refine ⟨xn, a, n, c, b, m, d, r, rfl, far_row (kw.trans g8 (fun _ _ _ h => h)) kS (by omega), fun hr => ⟨Hb.out.1, Hb.out.2.1, Hb.out.2.2, rfl, (g1.1 hr).1.1, g2, g3.chg kS (fresh_row g4 hlt), g4.base kw.size, g5, g6.chg kS (fresh_row g7 hlt), g7.base kw.size⟩⟩
end Go.Proofs.YtmgfajamanakcaaGreatDoor
namespace Go.Proofs.YtmgfajamanakcaaGreatDoor
set_option linter.unusedVariables false
set_option linter.unusedSimpArgs false
open Go Go.RowKit
set_option maxRecDepth 100000
def FracW (B : Nat → Int) (n : Nat) (neg : Bool) (V D : Int) : Prop :=
  ∃ m1 m2, n = m1 + 1 + m2 ∧ TextW B m1 neg V ∧ B m1 = 47 ∧ TextW (fun i => B (m1 + 1 + i)) m2 false D
theorem TextW.congr {B B' : Nat → Int} {n : Nat} {neg : Bool} {V : Int} (h : TextW B n neg V) (e : ∀ i, i < n → B' i = B i) : TextW B' n neg V := by
  obtain ⟨m, h1, h2, h3, h4, h5⟩ := h
  exact ⟨m, h1, fun hn => by rw [e 0 (by omega)]; exact h2 hn, h3, h4.congr (fun i _ hi => e i hi), h5⟩
def MarP (w : World) (neg : Bool) (V D : Int) (e : Ending) (w' : World) : Prop :=
  ∃ a n c B, e = .returned (.slice a n c) ∧ n ≤ c ∧ BRd w' a n B ∧ FracW B n (neg && decide (V ≠ 0)) V D ∧ Chg zNone w w'
set_option maxHeartbeats 4000000 in
theorem marshal_any (rb : Nat) (sg sg2 : Bool) (xa : Option Addr) (xn xc : Nat) (X : Nat → Int) (V : Int) (ya : Option Addr) (yn yc : Nat) (Y : Nat → Int) (D : Int) (w : World) (hA : IntC w rb 0 sg xa xn xc) (hB : IntC w rb 2 false ya yn yc) (hx : NatIn w xa xn xc X) (hnx : Norm X xn) (hv : val X xn = V) (hn22 : xn < 22)
    (hy : NatIn w ya yn yc Y) (hny : Norm Y yn) (hd : val Y yn = D) (hm22 : yn < 22) (hm0 : 0 < yn) (hg : Glob w) :
    Calls Tryz.prog 95 #[.pointer (some ⟨rb, 0, none⟩), .slice none 0 0] w (MarP w sg V D) := by
  have H1 := Lib.hid (Append_any rb 0 sg xa xn xc X V none 0 0 (fun _ => 0) w hA hx hnx hv hn22 hg (Or.inl ⟨rfl, rfl⟩) (Or.inl rfl) (Nat.le_refl _) (by omega))
  have HB := Lib.hid (And.intro hB (And.intro hy (And.intro hny (And.intro hd hg))))
  have hyn : ((yn : Int) != 0) = true := by simp; omega
  clear hA hx hnx hv hy hny hd hg
  go_enter Tryz.func95, Tryz.ntmps95
  go_wp2_with fail
  refine H1.out.mono ?_
  rintro e w1 ⟨a1, m1, c1, Y1, rfl, g0, g1, g2, g3, g4, g5, g6⟩
  rw [cat_zero] at g3
  simp only [Nat.zero_add] at g1 g3 ⊢
  have k1 : Chg zNone w w1 := g6.mono (fun _ _ _ h => (no_zone h).elim)
  have hf1 : ∀ b o, a1 = some ⟨b, o, none⟩ → w.heap.size ≤ b := by
    intro b o e
    rcases g5 with ⟨h, _⟩ | ⟨b', o', e', hb⟩
    · rw [h] at e; cases e
    · rw [e'] at e; injection e with e; injection e with e1 _; omega
  have hm1 : m1 < 1099511627776 := by omega
  have kal : Chg zNone w1 (w1.alloc (.cells #[.int .u8 47] 5)) := (Chg.refl _ _).alloc _
  have HX := Lib.hid (show BZOK (w1.alloc (.cells #[.int .u8 47] 5)) a1 c1 ∧ BRd (w1.alloc (.cells #[.int .u8 47] 5)) a1 m1 Y1 ∧ (w1.alloc (.cells #[.int .u8 47] 5)).cell? ⟨w1.heap.size, 0, none⟩ = some (.int .u8 47) from by
    refine ⟨g2.chg kal (fun _ _ _ h => h), ?_, cell?_alloc_new w1 #[.int .u8 47] 5 0 (.int .u8 47) rfl⟩
    rcases g3 with h0 | ⟨b, o, e, hw⟩
    · exact Or.inl h0
    · exact Or.inr ⟨b, o, e, hw.chg kal (fun _ _ h => h)⟩)
  have HA := Lib.hid (And.intro g4 (And.intro k1 (And.intro hf1 kal)))
  clear g2 g3 g4 g5 g6 k1 hf1 kal
  have hrb := HB.out.1.lt
  have HY1 : Hid (∀ a2 c2 w2, BAppRes (w1.alloc (.cells #[.int .u8 47] 5)) a1 m1 c1 Y1 47 a2 c2 w2 → Chg zNone w w2 ∧ w2.cell? ⟨rb, 3, none⟩ = some (.slice ya yn yc)) := fun a2 c2 w2 h => by
    obtain ⟨h1, h2, h3, h4, h5⟩ := h
    obtain ⟨q1, q2, q3, q4⟩ := HA.out
    have k : Chg zNone w w2 := (q2.trans q4 (fun _ _ _ h => h)).trans h5 (by
      rintro b o hb ⟨p', e, _⟩
      have := q3 b p' e; omega)
    exact ⟨k, k.cell HB.out.1.2.1 (fun h => h)⟩
  go_wp2_with (refine wpList_append_byte rfl (.tmp 10) (.tmp 11) rfl a1 m1 c1 Y1 _ _ rfl rfl HX.out.1 HX.out.2.1 g1 hm1 HX.out.2.2 ?_; rintro a2 c2 w2 h2; have HY2 := Lib.hid (HY1.out a2 c2 w2 h2).1; have y1 := (HY1.out a2 c2 w2 h2).2; have H2 := Lib.hid h2; clear h2)
  obtain ⟨q1, q2, q3, q4⟩ := HA.out
  obtain ⟨h1, h2, h3, h4, h5⟩ := H2.out
  obtain ⟨b1, b2, b3, b4, b5⟩ := HB.out
  have HN := Lib.hid (Append_any rb 2 false ya yn yc Y D a2 (m1 + 1) c2 (upd Y1 m1 47) w2 (b1.chg HY2.out (fun _ _ h => h)) ⟨rd_far b2.rd HY2.out (fun _ _ _ _ _ h => h), b2.wf, b2.le, b2.small, b2.aok.chg HY2.out⟩ b3 b4 hm22 (b5.far HY2.out) h2 h3 h1 (by omega))
  have hf2 : ∀ b o, a2 = some ⟨b, o, none⟩ → w.heap.size ≤ b := by
    intro b o e
    rcases h4 with ⟨h, _⟩ | ⟨b', o', e', hb⟩
    · exact q3 b o (h ▸ e)
    · rw [e'] at e; injection e with e; injection e with e1 _
      have := q2.size
      have := q4.size
      omega
  have HF2 := Lib.hid (And.intro hf2 q1)
  clear q1 q2 q3 q4 h1 h2 h3 h4 h5 b1 b2 b3 b4 b5 hf2
  go_wp2_with fail
  refine HN.out.mono ?_
  rintro e w3 ⟨a3, m2, c3, Y3, rfl, x0, x1, x2, x3, x4, x5, x6⟩
  have HZ := Lib.hid (And.intro x1 (And.intro x3 (And.intro x4 x6)))
  clear x0 x1 x2 x3 x4 x5 x6
  go_wp2
  go_ret
  obtain ⟨x1, x3, x4, x6⟩ := HZ.out
  refine ⟨a3, m1 + 1 + m2, c3, _, rfl, x1, x3, ⟨m1, m2, rfl, HF2.out.2.congr (fun i hi => ?_), ?_, x4.congr (fun i hi => ?_)⟩, HY2.out.trans x6 (by
    rintro b o hb ⟨p', e, _⟩
    have := HF2.out.1 b p' e; omega)⟩
  · unfold cat; rw [if_pos (by omega)]; exact upd_other _ _ (by omega)
  · unfold cat; rw [if_pos (by omega)]; exact upd_same _ _ _
  · unfold cat; rw [if_neg (by omega)]; congr 1; omega
def strOf (B : Nat → Int) (n : Nat) : ByteArray := ⟨((List.range n).map fun i => UInt8.ofNat (B i).toNat).toArray⟩
theorem strOf_size (B : Nat → Int) (n : Nat) : (strOf B n).size = n := by
  show (((List.range n).map _).toArray).size = n
  simp
theorem strOf_at (B : Nat → Int) (n i : Nat) (hi : i < n) (h : 0 ≤ B i ∧ B i < 256) : byteAt (strOf B n) i = B i := by
  unfold byteAt strOf
  simp only [List.getD_eq_getElem?_getD, List.getElem?_map, List.getElem?_range hi, Option.map_some, Option.getD_some]
  rw [UInt8.toNat_ofNat']
  omega
theorem conv_str (w : World) (b o n c : Nat) (B : Nat → Int) (hB : BWords w b o n B) (hr : ∀ i, i < n → 0 ≤ B i ∧ B i < 256) :
    (convert 100 9 (.slice (some ⟨b, o, none⟩) n c)).run Tryz.prog w = .ok (.string (strOf B n)) w := by
  have hs : Lib.Bytes w b o (strOf B n) := fun i hi => by
    rw [byteAt_eq]
    rw [strOf_size] at hi
    rw [strOf_at B n i hi (hr i hi)]
    exact hB i hi
  have := Lib.run_convert_whole (P := Tryz.prog) w 100 5 9 Tryz.underlying100 Tryz.underlying5 Tryz.underlying9 b o (strOf B n) hs c
  rwa [strOf_size] at this
theorem TextW.byte {B : Nat → Int} {n : Nat} {neg : Bool} {V : Int} (h : TextW B n neg V) : ∀ i, i < n → 0 ≤ B i ∧ B i < 256 := by
  obtain ⟨m, h1, h2, h3, h4, h5⟩ := h
  intro i hi
  by_cases hm : m ≤ i
  · have := h4.dig hm hi
    omega
  · have : neg = true := by
      cases neg with
      | true => rfl
      | false => simp at h1; omega
    have h0 := h2 this
    rw [this] at h1
    simp at h1
    obtain rfl : i = 0 := by omega
    omega
theorem FracW.byte {B : Nat → Int} {n : Nat} {neg : Bool} {V D : Int} (h : FracW B n neg V D) : ∀ i, i < n → 0 ≤ B i ∧ B i < 256 := by
  obtain ⟨m1, m2, hn, h1, h2, h3⟩ := h
  intro i hi
  by_cases a : i < m1
  · exact h1.byte i a
  · by_cases b : i = m1
    · subst b; omega
    · have := h3.byte (i - (m1 + 1)) (by omega)
      simp only [show m1 + 1 + (i - (m1 + 1)) = i by omega] at this
      exact this
theorem FracW.congr {B B' : Nat → Int} {n : Nat} {neg : Bool} {V D : Int} (h : FracW B n neg V D) (e : ∀ i, i < n → B' i = B i) : FracW B' n neg V D := by
  obtain ⟨m1, m2, hn, h1, h2, h3⟩ := h
  exact ⟨m1, m2, hn, h1.congr (fun i hi => e i (by omega)), by rw [e m1 (by omega)]; exact h2, h3.congr (fun i hi => e _ (by omega))⟩
def FracS (s : ByteArray) (neg : Bool) (V D : Int) : Prop := FracW (byteAt s) s.size neg V D
def NumS (s : ByteArray) (neg : Bool) (V : Int) : Prop := TextW (byteAt s) s.size neg V
def StrP (w : World) (neg : Bool) (V D : Int) (e : Ending) (w' : World) : Prop := ∃ s, e = .returned (.string s) ∧ FracS s (neg && decide (V ≠ 0)) V D ∧ Chg zNone w w'
set_option maxHeartbeats 2000000 in
theorem String_any (rb : Nat) (sg : Bool) (xa : Option Addr) (xn xc : Nat) (X : Nat → Int) (V : Int) (ya : Option Addr) (yn yc : Nat) (Y : Nat → Int) (D : Int) (w : World) (hA : IntC w rb 0 sg xa xn xc) (hB : IntC w rb 2 false ya yn yc) (hx : NatIn w xa xn xc X) (hnx : Norm X xn) (hv : val X xn = V) (hn22 : xn < 22)
    (hy : NatIn w ya yn yc Y) (hny : Norm Y yn) (hd : val Y yn = D) (hm22 : yn < 22) (hm0 : 0 < yn) (hg : Glob w) :
    Calls Tryz.prog 54 #[.pointer (some ⟨rb, 0, none⟩)] w (StrP w sg V D) := by
  have HM := Lib.hid (marshal_any rb sg false xa xn xc X V ya yn yc Y D w hA hB hx hnx hv hn22 hy hny hd hm22 hm0 hg)
  clear hA hB hx hnx hv hy hny hd hg
  go_enter Tryz.func54, Tryz.ntmps54
  go_wp2_with fail
  refine HM.out.mono ?_
  rintro e w1 ⟨a, n, c, B, rfl, g1, g2, g3, g4⟩
  have hn : 0 < n := by obtain ⟨m1, m2, hn, _⟩ := g3; omega
  obtain ⟨b, o, rfl, hW⟩ : ∃ b o, a = some ⟨b, o, none⟩ ∧ BWords w1 b o n B := by
    rcases g2 with h | h
    · omega
    · exact h
  have hcv := conv_str w1 b o n c B hW g3.byte
  have H := Lib.hid (And.intro g3 g4)
  clear g1 g2 g3 g4 hW hn
  go_wp2
  go_ret
  refine ⟨_, rfl, ?_, H.out.2⟩
  unfold FracS
  rw [strOf_size]
  exact H.out.1.congr (fun i hi => strOf_at B n i hi (H.out.1.byte i hi))
theorem ratp_nums {w w1 : World} {zb : Nat} {neg : Bool} {a : Option Addr} {n c : Nat} {X : Nat → Int} {V : Int} {zo : Nat} (h : NumO w w1 zb zo neg a n c X V) (hn : n < 22) : NatIn w1 a n c X := ⟨h.rd, h.wf, h.le, by omega, h.z.aok⟩
set_option maxHeartbeats 2000000 in
theorem rattext_any (xn : Bool) (ua : Option Addr) (un uc : Nat) (U : Nat → Int) (da : Option Addr) (dn dc : Nat) (D : Nat → Int) (w : World) (hu : Rd w ua un U) (hU : WF U un) (hun : un < 22) (hd : Rd w da dn D) (hD : WF D dn) (hdn : dn < 22) (hd0 : val D dn ≠ 0) (hg : Glob w) :
    Calls Tryz.prog 22 #[.agg #[.bool xn, .slice ua un uc, .slice da dn dc]] w (StrP w (xn && decide (val U un ≠ 0)) (val U un) (val D dn)) := by
  have kA : Chg zNone w (w.alloc (.cells #[.bool xn, .slice ua un uc, .slice da dn dc] 31)) := (Chg.refl _ _).alloc _
  have HR := Lib.hid (rat_any xn ua un uc U da dn dc D _ (rd_far hu kA (fun _ _ _ _ _ h => h)) hU (by omega) (rd_far hd kA (fun _ _ _ _ _ h => h)) hD (by omega))
  have HK := Lib.hid (And.intro kA (And.intro hg hd0))
  have f0 := cell?_alloc_new w #[.bool xn, .slice ua un uc, .slice da dn dc] 31 0 (.bool xn) rfl
  have f1 := cell?_alloc_new w #[.bool xn, .slice ua un uc, .slice da dn dc] 31 1 (.slice ua un uc) rfl
  have f2 := cell?_alloc_new w #[.bool xn, .slice ua un uc, .slice da dn dc] 31 2 (.slice da dn dc) rfl
  clear hu hU hd hD kA hg hd0
  go_enter Tryz.func22, Tryz.ntmps22
  go_wp2_with fail
  refine HR.out.mono ?_
  rintro e w1 ⟨zb, a, n, c, b, m, d, rfl, g1, g2, g3, g4, g5, g6, g7⟩
  have hm0 : 0 < m := by
    rcases Nat.eq_zero_or_pos m with h | h
    · subst h; exact absurd g6.v.symm HK.out.2.2
    · exact h
  have HS := Lib.hid (String_any zb _ a n c U (val U un) b m d D (val D dn) w1 g5.ic g6.ic (ratp_nums g5 (by omega)) g5.nm g5.v (by omega) (ratp_nums g6 (by omega)) g6.nm g6.v (by omega) hm0 (HK.out.2.1.far (HK.out.1.trans g7 (fun _ _ _ h => h))))
  have H7 := Lib.hid (HK.out.1.trans g7 (fun _ _ _ h => h))
  clear g1 g2 g3 g4 g5 g6 g7 hm0
  go_wp2_with fail
  refine HS.out.mono ?_
  rintro e w2 ⟨s, rfl, h1, h2⟩
  have H := Lib.hid (And.intro h1 h2)
  clear h1 h2
  go_wp2
  go_ret
  exact ⟨s, rfl, H.out.1, H7.out.trans H.out.2 (fun _ _ _ h => h)⟩
def NumP (w : World) (neg : Bool) (V : Int) (e : Ending) (w' : World) : Prop := ∃ s, e = .returned (.string s) ∧ NumS s (neg && decide (V ≠ 0)) V ∧ Chg zNone w w'
set_option maxHeartbeats 8000000 in
theorem Text_any (zb zo : Nat) (neg : Bool) (xa : Option Addr) (xn xc : Nat) (X : Nat → Int) (V : Int) (w : World) (hz : IntC w zb zo neg xa xn xc) (hx : NatIn w xa xn xc X) (hnx : Norm X xn) (hv : val X xn = V) (hn22 : xn < 22) (hg : Glob w) :
    Calls Tryz.prog 152 #[.pointer (some ⟨zb, zo, none⟩), .int .i64 10] w (NumP w neg V) := by
  have HI : Hid (∀ W, Chg zNone w W → Calls Tryz.prog 153 #[.slice xa xn xc, .bool neg, .int .i64 10] W (ItoaP W neg V)) := fun W k =>
    itoa_all neg xa xn xc X V W ⟨rd_far hx.rd k (fun _ _ _ _ _ h => h), hx.wf, hx.le, hx.small, hx.aok.chg k⟩ hnx hv hn22 (hg.far k)
  have HL : Hid (∀ sa sn sc Y w1, (BNew w.drew w1 sa sn sc Y ∧ TextW Y sn (neg && decide (V ≠ 0)) V ∧ Chg zNone w.drew w1) → ∃ sb so, sa = some ⟨sb, so, none⟩ ∧ (convert 100 9 (.slice (some ⟨sb, so, none⟩) sn sc)).run Tryz.prog w1 = .ok (.string (strOf Y sn)) w1) := fun sa sn sc Y w1 h => by
    obtain ⟨⟨h1, h2, h3, h4⟩, ht, k⟩ := h
    have hsn : 0 < sn := by obtain ⟨m, _, _, hm, _⟩ := ht; omega
    rcases h3 with h0 | ⟨sb, so, e, hw⟩
    · omega
    · exact ⟨sb, so, e, conv_str w1 sb so sn sc Y hw ht.byte⟩
  have HF : Hid (∀ sn Y w1, TextW Y sn (neg && decide (V ≠ 0)) V → Chg zNone w.drew w1 → NumP w neg V (.returned (.string (strOf Y sn))) w1) := fun sn Y w1 ht k => by
    refine ⟨_, rfl, ?_, (Chg.refl zNone w).drew.trans k (fun _ _ _ h => h)⟩
    unfold NumS
    rw [strOf_size]
    exact ht.congr (fun i hi => strOf_at Y sn i hi (ht.byte i hi))
  obtain ⟨z0, z1, z2, z3⟩ := hz
  clear hx hnx hv hg
  go_enter Tryz.func152, Tryz.ntmps152
  go_upto_region 3 with fail
  refine wp_region_noPanic ?_
  refine wp_region_any (by kernel_rfl) ?_
  change wpAny _ _ _ _ _ _ _ (World.drew _)
  refine wpAny_take (i := 0) (v := ?_) rfl (by kernel_rfl) (by kernel_rfl) (by kernel_rfl) (fun _ _ _ h => False.elim h) (Or.inl ⟨by rfl, ?_⟩) ?_
  rotate_left 1
  · intro w9
    go_simp
    try with_reducible rfl
  try simp only [putL, putN, List.set_cons_zero, List.set_cons_succ]
  refine wpAny_take (i := 1) (v := ?_) rfl (by kernel_rfl) (by kernel_rfl) (by kernel_rfl) (fun _ _ _ h => False.elim h) (Or.inl ⟨by rfl, ?_⟩) ?_
  rotate_left 1
  · intro w9
    go_simp
    try with_reducible rfl
  try simp only [putL, putN, List.set_cons_zero, List.set_cons_succ]
  refine wpAny_take (i := 2) (v := ?_) rfl (by kernel_rfl) (by kernel_rfl) (by kernel_rfl) (fun _ _ _ h => False.elim h) (Or.inl ⟨by rfl, ?_⟩) ?_
  rotate_left 1
  · intro w9
    go_simp
    try with_reducible rfl
  try simp only [putL, putN, List.set_cons_zero, List.set_cons_succ]
  refine wpAny_take (i := 4) (v := ?_) rfl (by kernel_rfl) (by kernel_rfl) (by kernel_rfl) (fun _ _ _ h => False.elim h) (Or.inl ⟨by rfl, ?_⟩) ?_
  rotate_left 1
  · intro w9
    go_simp
    try with_reducible rfl
  try simp only [putL, putN, List.set_cons_zero, List.set_cons_succ]
  refine wpAny_take (i := 5) (v := ?_) rfl (by kernel_rfl) (by kernel_rfl) (by kernel_rfl) (fun _ _ _ h => False.elim h) (Or.inl ⟨by rfl, ?_⟩) ?_
  rotate_left 1
  · intro w9
    go_simp
    try with_reducible rfl
  try simp only [putL, putN, List.set_cons_zero, List.set_cons_succ]
  refine wpAny_take (i := 6) (v := ?_) rfl (by kernel_rfl) (by kernel_rfl) (by kernel_rfl) (fun _ _ _ h => False.elim h) (Or.inl ⟨by rfl, ?_⟩) ?_
  rotate_left 1
  · intro w9
    go_simp
    try with_reducible rfl
  try simp only [putL, putN, List.set_cons_zero, List.set_cons_succ]
  refine wpAny_take (i := 8) (v := ?_) rfl (by kernel_rfl) (by kernel_rfl) (by kernel_rfl) (fun _ _ _ h => False.elim h) (Or.inl ⟨by rfl, ?_⟩) ?_
  rotate_left 1
  · intro w9
    go_simp
    try with_reducible rfl
  try simp only [putL, putN, List.set_cons_zero, List.set_cons_succ]
  refine wpAny_ready (rs := [3, 7]) (by kernel_rfl) (by simp) ?_
  refine AllReady.cons rfl (fun K hK => ?_) (AllReady.cons rfl (fun K hK => ?_) AllReady.nil)
  · skip
    go_simp
    refine hK _ _ ?_
    clear hK K
    try simp only [putL, putN, List.set_cons_zero, List.set_cons_succ]
    refine wpAny_ready (rs := [7]) (by kernel_rfl) (by simp) ?_
    refine AllReady.cons rfl (fun K hK => ?_) AllReady.nil
    go_simp
    refine hK _ _ ?_
    clear hK K
    try simp only [putL, putN, List.set_cons_zero, List.set_cons_succ]
    refine wpAny_ready (rs := [9]) (by kernel_rfl) (by simp) ?_
    refine AllReady.cons rfl (fun K hK => ?_) AllReady.nil
    go_simp
    go_wp2_with (go_at_call 153; go_loud (refine (HI.out _ (Chg.refl _ _).drew).mono ?_; rintro e w1 ⟨sa, sn, sc, Y, rfl, t1, t2, t3⟩; obtain ⟨sb, so, rfl, hcv⟩ := HL.out _ _ _ _ _ (And.intro t1 (And.intro t2 t3)); have HT := Lib.hid (And.intro t2 t3); clear t1 t2 t3))
    try simp only [putL, putN, List.set_cons_zero, List.set_cons_succ]
    refine wpAny_ready (rs := [10]) (by kernel_rfl) (by simp) ?_
    refine AllReady.cons rfl (fun K hK => ?_) AllReady.nil
    go_simp
    refine hK _ _ ?_
    clear hK K
    try simp only [putL, putN, List.set_cons_zero, List.set_cons_succ]
    refine wpAny_take (i := 11) (v := ?_) rfl (by kernel_rfl) (by kernel_rfl) (by kernel_rfl) (fun _ _ _ h => False.elim h) (Or.inl ⟨by rfl, ?_⟩) ?_
    rotate_left 1
    · intro w9
      go_simp
      try with_reducible rfl
    try simp only [putL, putN, List.set_cons_zero, List.set_cons_succ]
    refine wpAny_done (by kernel_rfl) ?_ _
    refine NoPanic.normal ?_
    go_wp2
    go_ret
    exact HF.out _ _ _ HT.out.1 HT.out.2
  · skip
    go_simp
    refine hK _ _ ?_
    clear hK K
    try simp only [putL, putN, List.set_cons_zero, List.set_cons_succ]
    refine wpAny_ready (rs := [3]) (by kernel_rfl) (by simp) ?_
    refine AllReady.cons rfl (fun K hK => ?_) AllReady.nil
    go_simp
    refine hK _ _ ?_
    clear hK K
    try simp only [putL, putN, List.set_cons_zero, List.set_cons_succ]
    refine wpAny_ready (rs := [9]) (by kernel_rfl) (by simp) ?_
    refine AllReady.cons rfl (fun K hK => ?_) AllReady.nil
    go_simp
    go_wp2_with (go_at_call 153; go_loud (refine (HI.out _ (Chg.refl _ _).drew).mono ?_; rintro e w1 ⟨sa, sn, sc, Y, rfl, t1, t2, t3⟩; obtain ⟨sb, so, rfl, hcv⟩ := HL.out _ _ _ _ _ (And.intro t1 (And.intro t2 t3)); have HT := Lib.hid (And.intro t2 t3); clear t1 t2 t3))
    try simp only [putL, putN, List.set_cons_zero, List.set_cons_succ]
    refine wpAny_ready (rs := [10]) (by kernel_rfl) (by simp) ?_
    refine AllReady.cons rfl (fun K hK => ?_) AllReady.nil
    go_simp
    refine hK _ _ ?_
    clear hK K
    try simp only [putL, putN, List.set_cons_zero, List.set_cons_succ]
    refine wpAny_take (i := 11) (v := ?_) rfl (by kernel_rfl) (by kernel_rfl) (by kernel_rfl) (fun _ _ _ h => False.elim h) (Or.inl ⟨by rfl, ?_⟩) ?_
    rotate_left 1
    · intro w9
      go_simp
      try with_reducible rfl
    try simp only [putL, putN, List.set_cons_zero, List.set_cons_succ]
    refine wpAny_done (by kernel_rfl) ?_ _
    refine NoPanic.normal ?_
    go_wp2
    go_ret
    exact HF.out _ _ _ HT.out.1 HT.out.2
theorem IntString_any (zb zo : Nat) (neg : Bool) (xa : Option Addr) (xn xc : Nat) (X : Nat → Int) (V : Int) (w : World) (hz : IntC w zb zo neg xa xn xc) (hx : NatIn w xa xn xc X) (hnx : Norm X xn) (hv : val X xn = V) (hn22 : xn < 22) (hg : Glob w) :
    Calls Tryz.prog 96 #[.pointer (some ⟨zb, zo, none⟩)] w (NumP w neg V) := by
  have HT := Lib.hid (Text_any zb zo neg xa xn xc X V w hz hx hnx hv hn22 hg)
  clear hz hx hnx hv hg
  go_enter Tryz.func96, Tryz.ntmps96
  go_wp2_with fail
  refine HT.out.mono ?_
  rintro e w1 ⟨s, rfl, h1, h2⟩
  have H := Lib.hid (And.intro h1 h2)
  clear h1 h2
  go_wp2
  go_ret
  exact ⟨s, rfl, H.out⟩
end Go.Proofs.YtmgfajamanakcaaGreatDoor
