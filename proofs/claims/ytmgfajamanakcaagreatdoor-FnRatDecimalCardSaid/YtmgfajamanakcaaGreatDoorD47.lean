/- Part of the proof of FnParse: what the functions that it reaches do, as contracts. Conditions: those that each theorem names. -/
import Derived.Test.YtmgfajamanakcaaGreatDoorD46
import Derived.Test.YtmgfajamanakcaaGreatDoorD39
import Derived.Test.YtmgfajamanakcaaGreatDoorD23
import Derived.Test.YtmgfajamanakcaaGreatDoorD31
import Derived.Test.YtmgfajamanakcaaGreatDoorD19
import Derived.Lib.SlBytesRow
import Derived.Test.YtmgfajamanakcaaGreatDoorD41
import Derived.Test.YtmgfajamanakcaaGreatDoorD42
import Derived.Test.YtmgfajamanakcaaGreatDoorD36
namespace Go.Proofs.YtmgfajamanakcaaGreatDoor
set_option linter.unusedVariables false
set_option linter.unusedSimpArgs false
open Go Go.RowKit Si
set_option maxRecDepth 100000
theorem res18 {tmps : Array Value} {w : World} {p : Nat} {ng r : Bool} {a b : Option Addr} {n c m d : Nat} (h : C3 w p (.bool ng) (.slice a n c) (.slice b m d)) (ht : tmps.getD 4 undef = .pointer (some ⟨p, 0, none⟩)) (h5 : tmps.getD 5 undef = .bool r) :
    (results Tryz.f18 tmps).run Tryz.prog w = .ok (.tuple #[ratV ng a n c b m d, .bool r]) w := by
  obtain ⟨h0, h1, h2, hp⟩ := h
  have ht' : tmps[4]?.getD undef = .pointer (some ⟨p, 0, none⟩) := by simpa using ht
  have h5'' : tmps[5]?.getD undef = .bool r := by simpa using h5
  simp [results, Tryz.results18, go_sem, ht', h5'', h0, h1, h2, ratV]
def FracLT (w : World) (xn : Bool) (U : Nat → Int) (un : Nat) (D : Nat → Int) (dn : Nat) (e : Ending) (w' : World) : Prop :=
  ∃ ng a n c b m d r, e = .returned (.tuple #[ratV ng a n c b m d, .bool r]) ∧ Chg zNone w w' ∧ (r = true → un ≤ 10 ∧ dn ≤ 10 ∧ val D dn ≠ 0 ∧ ng = xn ∧ xn = (xn && decide (val U un ≠ 0)) ∧ n ≤ 4 * un ∧ Si.NatV w' a n c (val U un) ∧ Fresh w a ∧ m ≤ 4 * dn ∧ Si.NatV w' b m d (val D dn) ∧ Fresh w b)
set_option maxHeartbeats 4000000 in
theorem fraction18_ten (xn : Bool) (ua : Option Addr) (un uc : Nat) (U : Nat → Int) (da : Option Addr) (dn dc : Nat) (D : Nat → Int) (w : World)
    (hu : Rd w ua un U) (hU : WF U un) (hd : Rd w da dn D) (hD : WF D dn) (hun : un < 4611686018427387904) (hdn : dn < 4611686018427387904) :
    Calls Tryz.prog 18 #[fracV xn ua un uc da dn dc, .int .i64 10] w (FracLT w xn U un D dn) := by
  have HL : Hid (∀ W a n c, Calls Tryz.prog 51 #[.slice a n c, .int .i64 10] W (LongP W n 10)) := fun W a n c => long_any a n c 10 W
  obtain ⟨wA, hwA⟩ : ∃ wA, wA = (w.alloc (.cells #[.bool xn, .slice ua un uc, .slice da dn dc] 31)).alloc (.cells #[.bool false, .slice none 0 0, .slice none 0 0] 45) := ⟨_, rfl⟩
  have hs1 : (w.alloc (.cells #[.bool xn, .slice ua un uc, .slice da dn dc] 31)).heap.size = w.heap.size + 1 := by show (w.heap.push _).size = _; simp
  have kA : Chg zNone w wA := by rw [hwA]; exact ((Chg.refl _ _).alloc _).alloc _
  have hF : ∀ i v, (#[Value.bool xn, .slice ua un uc, .slice da dn dc])[i]? = some v → wA.cell? ⟨w.heap.size, i, none⟩ = some v := fun i v h => by
    rw [hwA]; exact ((Chg.refl zNone _).alloc _).cell (three_cells w _ _ _ 31 i v h) (fun h => h)
  have hR : C3 wA (w.heap.size + 1) (.bool false) (.slice none 0 0) (.slice none 0 0) := by
    have h := newC3 (w.alloc (.cells #[.bool xn, .slice ua un uc, .slice da dn dc] 31)) (.bool false) (.slice none 0 0) (.slice none 0 0) 45
    rw [← hwA, hs1] at h
    exact h
  have HOf : Hid (∀ W, Chg zNone wA W → dn ≤ 10 → Calls Tryz.prog 39 #[.slice da dn dc] W (OfP W (val D dn) dn)) := fun W k h10 => of_any da dn dc D W (rd_far hd (kA.trans k (fun _ _ _ h => h)) (fun _ _ _ _ _ h => h)) hD (by omega)
  have HOff : Hid (∀ W, Chg zNone wA W → un ≤ 10 → dn ≤ 10 → Calls Tryz.prog 52 #[fracV xn ua un uc da dn dc] W (OfFracP W xn U un D dn)) := fun W k h1 h2 => offraction_any xn ua un uc U da dn dc D W (rd_far hu (kA.trans k (fun _ _ _ h => h)) (fun _ _ _ _ _ h => h)) hU (by omega) (rd_far hd (kA.trans k (fun _ _ _ h => h)) (fun _ _ _ _ _ h => h)) hD (by omega)
  have HA := Lib.hid (And.intro kA (And.intro hF hR))
  have HWA := Lib.hid hwA
  have f1 := hF 1 _ rfl
  have f2 := hF 2 _ rfl
  rw [hwA] at f1 f2
  clear hu hU hd hD kA hF hR hwA hs1
  unfold fracV
  go_enter Tryz.func18, Tryz.ntmps18
  go_upto_region 1 with fail
  go_cut [23] (fun s23 wc => ∃ b, s23 = .bool b ∧ (b = false → un ≤ 10 ∧ dn ≤ 10 ∧ val D dn ≠ 0) ∧ Hid (Chg zNone wA wc))
  case first => as_aux_lemma =>
    go_wp2_with fail
    rw [← HWA.out]
    refine (HL.out wA ua un uc).mono ?_
    rintro e w1 ⟨rfl, k1⟩
    have K1 := Lib.hid k1
    have f3 := k1.cell (HA.out.2.1 2 _ rfl) (fun h => h)
    clear k1 f1 f2
    by_cases h1 : 10 < un
    · have d1 : decide (10 < un) = true := decide_eq_true h1
      rw [d1]
      go_wp2_with fail
      go_meet
      exact ⟨true, rfl, fun h => (by cases h), K1.out⟩
    · have d1 : decide (10 < un) = false := decide_eq_false h1
      rw [d1]
      go_wp2_with fail
      refine (HL.out w1 da dn dc).mono ?_
      rintro e w2 ⟨rfl, k2⟩
      have f4 := k2.cell f3 (fun h => h)
      have K2 := Lib.hid (K1.out.trans k2 (fun _ _ _ h => h))
      clear k2 f3
      by_cases h2 : 10 < dn
      · have d2 : decide (10 < dn) = true := decide_eq_true h2
        rw [d2]
        go_wp2_with fail
        go_meet
        exact ⟨true, rfl, fun h => (by cases h), K2.out⟩
      · have d2 : decide (10 < dn) = false := decide_eq_false h2
        rw [d2]
        go_wp2_with fail
        refine (HOf.out w2 K2.out (by omega)).mono ?_
        rintro e w3 ⟨a, n, c, rfl, g1, g2, g3, g4⟩
        have K3 := Lib.hid (K2.out.trans g3 (fun _ _ _ h => h))
        have H0 : Hid (n ≠ 0 → val D dn ≠ 0) := fun hn hv => hn (g2.zero.2 hv)
        clear g1 g2 g3 g4
        by_cases hn : n = 0
        · have d3 : ((n : Int) == 0) = true := by simp [hn]
          clear hn
          go_wp2_with fail
          go_meet
          exact ⟨true, rfl, fun h => (by cases h), K3.out⟩
        · have d3 : ((n : Int) == 0) = false := beq_false_of_ne (by omega)
          have Hn := Lib.hid hn
          clear hn
          go_wp2_with fail
          go_meet
          exact ⟨false, rfl, fun _ => ⟨by omega, by omega, H0.out Hn.out⟩, K3.out⟩
  case rest =>
    obtain ⟨b, rfl, hb, HK⟩ := hcut
    have kc := HK.out
    have hC := HA.out.2.2.chg kc (fun _ h => h)
    have HC := Lib.hid hC
    have l0 := hC.c0
    have l1 := hC.c1
    have l2 := hC.c2
    have z0 := hC.pb.fz 0
    have z1 := hC.pb.fz 1
    have z2 := hC.pb.fz 2
    have f0 := kc.cell (HA.out.2.1 0 _ rfl) (fun h => h)
    have f1' := kc.cell (HA.out.2.1 1 _ rfl) (fun h => h)
    have f2' := kc.cell (HA.out.2.1 2 _ rfl) (fun h => h)
    clear f1 f2 hC kc
    cases b with
    | true =>
      go_wp2
      refine bodyPost_ret (v := .tuple #[ratV false none 0 0 none 0 0, .bool false]) (res18 (HC.out.three (.bool false) (.slice none 0 0) (.slice none 0 0)) rfl rfl) rfl ?_
      exact ⟨false, none, 0, 0, none, 0, 0, false, rfl, far_row (HA.out.1.trans HK.out (fun _ _ _ h => h)) (Si.dy_row wc (w.heap.size + 1) _ _ _) (by omega), fun h => by cases h⟩
    | false =>
      obtain ⟨b1, b2, b3⟩ := hb rfl
      have HO := Lib.hid (HOff.out wc HK.out b1 b2)
      have Hb := Lib.hid (And.intro b1 (And.intro b2 b3))
      clear hb b1 b2 b3
      unfold fracV at HO
      go_wp2_with fail
      refine HO.out.mono ?_
      rintro e w1 ⟨a, n, c, b, m, d, r, rfl, g1, g2, g3, g4, g5, g6, g7, g8⟩
      have HC2 := Lib.hid (HC.out.chg g8 (fun _ h => h))
      have HG := Lib.hid (And.intro g1 (And.intro g2 (And.intro g3 (And.intro g4 (And.intro g5 (And.intro g6 (And.intro g7 g8)))))))
      have l0 := HC2.out.c0
      have l1 := HC2.out.c1
      have l2 := HC2.out.c2
      have z0 := HC2.out.pb.fz 0
      have z1 := HC2.out.pb.fz 1
      have z2 := HC2.out.pb.fz 2
      clear g1 g2 g3 g4 g5 g6 g7 g8 f0 f1' f2'
      unfold ratV
      go_wp2
      refine bodyPost_ret (v := .tuple #[ratV xn a n c b m d, .bool r]) (res18 (HC2.out.three (.bool xn) (.slice a n c) (.slice b m d)) rfl rfl) rfl ?_
      obtain ⟨g1, g2, g3, g4, g5, g6, g7, g8⟩ := HG.out
      have kS := Si.dy_row w1 (w.heap.size + 1) (.bool xn) (.slice a n c) (.slice b m d)
      have kw := HA.out.1.trans HK.out (fun _ _ _ h => h)
      have hlt : w.heap.size + 1 < wc.heap.size := HC.out.pb.lt
      refine ⟨xn, a, n, c, b, m, d, r, rfl, far_row (kw.trans g8 (fun _ _ _ h => h)) kS (by omega), fun hr => ⟨Hb.out.1, Hb.out.2.1, Hb.out.2.2, rfl, (g1.1 hr).1.1, g2, g3.chg kS (fresh_row g4 hlt), g4.base kw.size, g5, g6.chg kS (fresh_row g7 hlt), g7.base kw.size⟩⟩
end Go.Proofs.YtmgfajamanakcaaGreatDoor
namespace Go.Proofs.YtmgfajamanakcaaGreatDoor.Si
set_option linter.unusedVariables false
set_option linter.unusedSimpArgs false
open Go Go.RowKit
set_option maxRecDepth 100000
theorem natv_lt {w : World} {a : Option Addr} {n c : Nat} {V : Int} (h : NatV w a n c V) : V < SB ^ n := by
  obtain ⟨_, _, A, _, f1, _, rfl⟩ := h
  exact vs_lt f1
theorem two_le_ten (k : Nat) : (2 : Int) ^ k ≤ 10 ^ k := by
  induction k with
  | zero => simp
  | succ k ih =>
    rw [Int.pow_succ, Int.pow_succ]
    have := ten_pos k
    omega
theorem conv_digit (w1 : World) {d : Int} (h0 : 0 ≤ d) (h1 : d ≤ 9) :
    (convert 100 9 (.slice (some ⟨w1.heap.size, 0, none⟩) 1 1)).run Tryz.prog (w1.alloc (.cells #[.int .u8 (48 + d)] 5)) = .ok (.string ⟨#[UInt8.ofNat (48 + d).toNat]⟩) (w1.alloc (.cells #[.int .u8 (48 + d)] 5)) := by
  have hb : Lib.Bytes (w1.alloc (.cells #[.int .u8 (48 + d)] 5)) w1.heap.size 0 ⟨#[UInt8.ofNat (48 + d).toNat]⟩ := fun i hi => by
    have hi0 : i = 0 := by
      have : (⟨#[UInt8.ofNat (48 + d).toNat]⟩ : ByteArray).size = 1 := rfl
      omega
    subst hi0
    rw [cell?_alloc_new w1 #[.int .u8 (48 + d)] 5 0 (.int .u8 (48 + d)) rfl]
    congr 2
    show 48 + d = (((UInt8.ofNat (48 + d).toNat).toNat : Nat) : Int)
    rw [UInt8.toNat_ofNat']
    omega
  exact Lib.run_convert_whole (P := Tryz.prog) _ 100 5 9 Tryz.underlying100 Tryz.underlying5 Tryz.underlying9 w1.heap.size 0 ⟨#[UInt8.ofNat (48 + d).toNat]⟩ hb 1
theorem cons_digit (t : ByteArray) {d : Int} (h0 : 0 ≤ d) (h1 : d ≤ 9) : ((⟨#[UInt8.ofNat (48 + d).toNat]⟩ : ByteArray) ++ t).size = t.size + 1 ∧ byteAt ((⟨#[UInt8.ofNat (48 + d).toNat]⟩ : ByteArray) ++ t) 0 = 48 + d ∧ ∀ i, byteAt ((⟨#[UInt8.ofNat (48 + d).toNat]⟩ : ByteArray) ++ t) (i + 1) = byteAt t i := by
  have e : ((⟨#[UInt8.ofNat (48 + d).toNat]⟩ : ByteArray) ++ t).data.toList = UInt8.ofNat (48 + d).toNat :: t.data.toList := by
    rw [ByteArray.data_append]
    simp
  refine ⟨?_, ?_, fun i => ?_⟩
  · rw [ByteArray.size_append]
    show 1 + t.size = t.size + 1
    omega
  · unfold byteAt
    rw [e]
    show (((UInt8.ofNat (48 + d).toNat).toNat : Nat) : Int) = 48 + d
    rw [UInt8.toNat_ofNat']
    omega
  · unfold byteAt
    rw [e]
    rfl
def DgRel (w : World) (V : Int) (gk : Nat) (s0 s3 : Value) (wc : World) : Prop :=
  ∃ a n c A t, s0 = .slice a n c ∧ s3 = .string t ∧ n < 1048576 ∧ Hid (NatV wc a n c A ∧ A = V / 10 ^ t.size ∧ DigW (byteAt t) 0 t.size (V % 10 ^ t.size) ∧ (t.size = 0 ∨ 0 < V / 10 ^ (t.size - 1)) ∧ gk = A.toNat ∧ Chg zNone w wc)
def DigP (w : World) (V : Int) (e : Ending) (w' : World) : Prop := ∃ t, e = .returned (.string t) ∧ DecS t V ∧ Chg zNone w w'
set_option maxHeartbeats 2000000 in
theorem digits_any (a : Option Addr) (n c : Nat) (V : Int) (w : World) (h : NatV w a n c V) (hn : n < 1048576) : Calls Tryz.prog 19 #[.slice a n c] w (DigP w V) := by
  have hz := h.zero
  have hV0 := h.nonneg
  have H := Lib.hid (And.intro h (And.intro hz hV0))
  clear h hz hV0
  by_cases hn0 : n = 0
  · have d1 : ((n : Int) == 0) = true := by simp [hn0]
    have d1' : (n == 0) = true := by simp [hn0]
    have HV : Hid (V = 0) := H.out.2.1.1 hn0
    clear hn0
    go_enter Tryz.func19, Tryz.ntmps19
    go_wp2
    go_ret
    refine ⟨_, rfl, ?_, Chg.refl _ _⟩
    rw [HV.out]
    refine ⟨⟨by decide, by decide, by decide, fun j hj => ?_⟩, by decide, Or.inl (by decide)⟩
    have : j = 0 := by
      have e : (⟨#[48]⟩ : ByteArray).size = 1 := rfl
      omega
    subst this
    rfl
  · have d1 : ((n : Int) == 0) = false := by simp [hn0]
    have d1' : (n == 0) = false := by simp [hn0]
    obtain ⟨n0, hn00⟩ : ∃ n0, n0 = n := ⟨_, rfl⟩
    have hn0b : n0 < 1048576 := by omega
    rw [← hn00] at H
    go_enter Tryz.func19, Tryz.ntmps19
    go_wp2_with fail
    go_loopg [0, 3, 4, 5] V.toNat (fun gk s0 s3 s4 s5 wc => DgRel w V gk s0 s3 wc)
    case atStart => exact ⟨a, n, c, V, ⟨#[]⟩, rfl, rfl, hn, by rw [← hn00]; exact H.out.1, by show V = V / 10 ^ 0; rw [Int.pow_zero, Int.ediv_one], by
      show DigW _ 0 0 (V % 10 ^ 0)
      rw [Int.pow_zero, Int.emod_one]; exact DigW.nil, Or.inl rfl, rfl, Chg.refl _ _⟩
    case round =>
      obtain ⟨a, n, c, A, t, rfl, rfl, hn, HL⟩ := hrel
      by_cases hm0 : n = 0
      · have g1 : decide ((0 : Int) < (n : Int)) = false := decide_eq_false (by omega)
        have g1' : decide (0 < n) = false := decide_eq_false (by omega)
        have HA : Hid (A = 0) := HL.out.1.zero.1 hm0
        clear hm0
        go_wp2
        go_ret
        obtain ⟨e1, e2, e3, e4, e5, e6⟩ := HL.out
        rw [HA.out] at e2
        have hVp : V ≠ 0 := fun h => hn0 (by rw [← hn00]; exact H.out.2.1.2 h)
        have hV0 := H.out.2.2
        have hlt : V < 10 ^ t.size := by
          have := Int.lt_mul_ediv_self_add (ten_pos t.size) (x := V)
          rw [← e2] at this
          omega
        have hs : 0 < t.size := by
          rcases Nat.eq_zero_or_pos t.size with h0 | h0
          · rw [h0, Int.pow_zero] at hlt; omega
          · exact h0
        rw [Int.emod_eq_of_lt hV0 hlt] at e3
        refine ⟨t, rfl, ⟨e3, hs, Or.inr ?_⟩, e6⟩
        rcases e4 with h | h
        · omega
        · have h5 : 1 ≤ V / 10 ^ (t.size - 1) := by omega
          rw [Int.le_ediv_iff_mul_le (ten_pos _)] at h5
          omega
      · have g1 : decide ((0 : Int) < (n : Int)) = true := decide_eq_true (by omega)
        have g1' : decide (0 < n) = true := decide_eq_true (by omega)
        have HB := Lib.hid (byDigit_any a n c A 10 wr HL.out.1 (by omega) (by omega) (by omega))
        go_wp2_with fail
        refine HB.out.mono ?_
        rintro e w1 ⟨qa, qn, qc, rfl, g1, g2⟩
        have HG := Lib.hid (And.intro g1 g2)
        have hqn : qn ≤ n := g1.len (by
          have := HL.out.1.nonneg
          have := Int.ediv_le_self 10 this
          have := natv_lt HL.out.1
          omega)
        obtain ⟨d, hd⟩ : ∃ d, A % 10 = d := ⟨_, rfl⟩
        rw [hd]
        have hd0 : 0 ≤ d := by omega
        have hd1 : d ≤ 9 := by omega
        have HD := Lib.hid hd
        clear g1 g2 hd
        have hcv := conv_digit w1 hd0 hd1
        obtain ⟨t2, ht2⟩ : ∃ t2, (⟨#[UInt8.ofNat (48 + d).toNat]⟩ : ByteArray) ++ t = t2 := ⟨_, rfl⟩
        have hcs := cons_digit t hd0 hd1
        rw [ht2] at hcs
        have HT := Lib.hid (And.intro hcs HG.out)
        obtain ⟨b1, hb1⟩ : ∃ b1, b1 = (⟨#[UInt8.ofNat (48 + d).toNat]⟩ : ByteArray) := ⟨_, rfl⟩
        have hb1s : b1.size = 1 := by rw [hb1]; rfl
        rw [← hb1] at hcv ht2
        have hts : t.size < 33554432 := by
          rcases HL.out.2.2.2.1 with h | h
          · omega
          · have h5 : 1 ≤ V / 10 ^ (t.size - 1) := by omega
            rw [Int.le_ediv_iff_mul_le (ten_pos _)] at h5
            have h6 := natv_lt H.out.1
            rw [SB_pow] at h6
            have h7 := two_le_ten (t.size - 1)
            rcases Nat.lt_or_ge (t.size - 1) (16 * n0) with g | g
            · omega
            · have := ipow_le (b := 2) (by decide) g
              omega
        have hcc : ¬ (b1.size + t.size > 9223372036854775807) := by omega
        have hcc2 : b1.size + t.size ≤ 9223372036854775807 := by omega
        have HTS := Lib.hid hts
        clear hcs hb1 hts
        go_wp2
        go_roundg ((A / 10).toNat)
        case measure =>
          have h1 := HL.out.2.2.2.2.1
          have h2 := HL.out.1.nonneg
          have h3 : A ≠ 0 := fun h => hm0 (HL.out.1.zero.2 h)
          omega
        case rel =>
          obtain ⟨⟨q1, q2, q3⟩, q4, q5⟩ := HT.out
          have hkal : Chg zNone w1 (w1.alloc (.cells #[.int .u8 (48 + d)] 5)) := (Chg.refl _ _).alloc _
          obtain ⟨e1, e2, e3, e4, e5, e6⟩ := HL.out
          have hA0 : 0 < A := by
            have h2 := e1.nonneg
            have h3 : A ≠ 0 := fun h => hm0 (e1.zero.2 h)
            omega
          refine ⟨qa, qn, qc, A / 10, t2, rfl, rfl, by omega, q4.far hkal, ?_, ?_, ?_, rfl, (e6.trans q5 (fun _ _ _ h => h)).trans hkal (fun _ _ _ h => h)⟩
          · rw [e2, q1, Int.pow_succ, Int.ediv_ediv_of_nonneg (Int.le_of_lt (ten_pos _))]
          · rw [q1]
            have h0 : DigW (byteAt t2) (0 + 1) (t.size + 1) (V % 10 ^ (t.size + 1 - (0 + 1))) := by
              obtain ⟨z1, z2, z3, z4⟩ := e3
              refine ⟨by omega, by rw [show t.size + 1 - (0 + 1) = t.size by omega]; exact z2, by rw [show t.size + 1 - (0 + 1) = t.size by omega]; rw [Nat.sub_zero] at z3; exact z3, fun j hj => ?_⟩
              have h7 : t.size - j = (t.size - 1 - j) + 1 := by omega
              simp only [Nat.zero_add, Nat.add_sub_cancel]
              rw [h7, q3, z4 j (by omega)]
            exact h0.next (by omega) (by
              rw [q2, show t.size + 1 - (0 + 1) = t.size by omega, ← e2]
              have := HD.out
              omega)
          · right
            rw [q1, Nat.add_sub_cancel, ← e2]
            exact hA0
def nearQ (M D : Int) : Int := if 2 * (M % D) < D then M / D else M / D + 1
def NearP (w : World) (M D : Int) (e : Ending) (w' : World) : Prop :=
  ∃ b n a m c, e = .returned (.slice (some ⟨b, 0, none⟩) (n + 1) (n + 1)) ∧ n ≤ 1 ∧ w'.cell? ⟨b, n, none⟩ = some (.slice a m c) ∧ NatV w' a m c (nearQ M D) ∧ Chg zNone w w'
set_option maxHeartbeats 4000000 in
theorem nearest_any (a1 a2 : Option Addr) (n1 c1 n2 c2 : Nat) (M D : Int) (w : World) (h1 : NatV w a1 n1 c1 M) (h2 : NatV w a2 n2 c2 D) (hD : 0 < D) (hn1 : n1 < 16384) (hn2 : n2 < 16384) :
    Calls Tryz.prog 24 #[.slice a1 n1 c1, .slice a2 n2 c2] w (NearP w M D) := by
  have HD1 := Lib.hid (divmod_any a1 a2 n1 c1 n2 c2 M D w h1 h2 hD hn1 hn2)
  have hM0 := h1.nonneg
  have hML := natv_lt h1
  have hDL := natv_lt h2
  have HI := Lib.hid (And.intro h2 (And.intro hD (And.intro hM0 (And.intro hML hDL))))
  clear h1 h2 hD hM0 hML hDL
  go_enter Tryz.func24, Tryz.ntmps24
  go_wp2_with fail
  refine HD1.out.mono ?_
  rintro e w1 ⟨qa, qn, qc, ra, rn, rc, rfl, g1, g2, k1⟩
  have hq0 : M / D ≤ M := Int.ediv_le_self _ HI.out.2.2.1
  have hr1 := Int.emod_lt_of_pos M HI.out.2.1
  have hr0 := Int.emod_nonneg M (show D ≠ 0 by have := HI.out.2.1; omega)
  have hqn : qn ≤ n1 := g1.len (Int.lt_of_le_of_lt hq0 HI.out.2.2.2.1)
  have hrn : rn ≤ n2 := g2.len (Int.lt_trans hr1 HI.out.2.2.2.2)
  have HR := Lib.hid (And.intro hr0 hr1)
  have H1 := Lib.hid (And.intro g1 (And.intro g2 k1))
  clear g1 g2 k1 hq0 hr1 hr0
  go_wp2_with fail
  refine (small_any 1 w1 (by omega)).mono ?_
  rintro e w2 ⟨oa, on, oc, rfl, g1, k2⟩
  have hon : on ≤ 1 := g1.len (by decide)
  have H2 := Lib.hid (And.intro g1 k2)
  clear g1 k2
  have HA := Lib.hid (add_any qa oa qn qc on oc (M / D) 1 w2 (H1.out.1.far H2.out.2) H2.out.1 (by omega) (by omega))
  go_wp2_with fail
  refine HA.out.mono ?_
  rintro e w3 ⟨ma, mn, mc, rfl, g1, k3⟩
  have H3 := Lib.hid (And.intro g1 (And.intro (k3) (H2.out.2.trans k3 (fun _ _ _ h => h))))
  clear g1 k3
  have HA2 := Lib.hid (add_any ra ra rn rc rn rc (M % D) (M % D) w3 (H1.out.2.1.far H3.out.2.2) (H1.out.2.1.far H3.out.2.2) (by omega) (by omega))
  go_wp2_with fail
  refine HA2.out.mono ?_
  rintro e w4 ⟨da, dn, dc, rfl, g1, k4⟩
  have hdn : dn ≤ n2 + 1 := g1.len (by
    have h := HR.out
    have h2 := HI.out.2.2.2.2
    rw [Int.pow_succ]
    unfold SB at *
    omega)
  have H4 := Lib.hid (And.intro g1 (And.intro k4 ((H1.out.2.2.trans H3.out.2.2 (fun _ _ _ h => h)).trans k4 (fun _ _ _ h => h))))
  clear g1 k4
  have HC := Lib.hid (cmp_any da a2 dn dc n2 c2 (M % D + M % D) D w4 H4.out.1 (HI.out.1.far H4.out.2.2) (by omega) (by omega))
  obtain ⟨z, hz⟩ : ∃ z, cmpV (M % D + M % D) D = z := ⟨_, rfl⟩
  rw [hz] at HC
  have hcs := cmp_cases (M % D + M % D) D
  rw [hz] at hcs
  clear hz
  have HF : Hid (∀ w5, (∃ n, w5 = w4.drewN n) → Chg zNone w w5 ∧ NatV w5 qa qn qc (M / D) ∧ NatV w5 ma mn mc (M / D + 1)) := fun w5 ⟨n, e⟩ => by
    have kd : Chg zNone w4 w5 := by rw [e]; exact (Chg.refl _ _).drewN n
    exact ⟨H4.out.2.2.trans kd (fun _ _ _ h => h), ((H1.out.1.far H3.out.2.2).far H4.out.2.1).far kd, (H3.out.1.far H4.out.2.1).far kd⟩
  clear HR HA HA2 HD1
  rcases hcs with ⟨hlt, rfl⟩ | ⟨hlt, rfl⟩ | ⟨hlt, rfl⟩
  · have HL := Lib.hid hlt
    clear hlt
    go_wp2_with fail
    refine HC.out.mono ?_
    rintro e w5 ⟨rfl, hw5⟩
    have H5 := Lib.hid (HF.out w5 hw5)
    clear hw5
    go_wp2_with fail
    go_ret
    refine ⟨w5.heap.size, 0, qa, qn, qc, rfl, by omega, cell?_alloc_new w5 #[.slice qa qn qc] _ 0 _ rfl, ?_, H5.out.1.alloc _⟩
    unfold nearQ
    rw [if_pos (by have := HL.out; omega)]
    exact H5.out.2.1.far ((Chg.refl _ _).alloc _)
  · have HL := Lib.hid hlt
    clear hlt
    go_wp2_with fail
    refine HC.out.mono ?_
    rintro e w5 ⟨rfl, hw5⟩
    have H5 := Lib.hid (HF.out w5 hw5)
    clear hw5
    go_wp2_with fail
    go_ret
    refine ⟨w5.heap.size, 1, ma, mn, mc, rfl, by omega, cell?_alloc_new w5 #[.slice qa qn qc, .slice ma mn mc] _ 1 _ rfl, ?_, H5.out.1.alloc _⟩
    unfold nearQ
    rw [if_neg (by have := HL.out; omega)]
    exact H5.out.2.2.far ((Chg.refl _ _).alloc _)
  · have HL := Lib.hid hlt
    clear hlt
    go_wp2_with fail
    refine HC.out.mono ?_
    rintro e w5 ⟨rfl, hw5⟩
    have H5 := Lib.hid (HF.out w5 hw5)
    clear hw5
    go_wp2_with fail
    go_ret
    refine ⟨w5.heap.size, 0, ma, mn, mc, rfl, by omega, cell?_alloc_new w5 #[.slice ma mn mc] _ 0 _ rfl, ?_, H5.out.1.alloc _⟩
    unfold nearQ
    rw [if_neg (by have := HL.out; omega)]
    exact H5.out.2.2.far ((Chg.refl _ _).alloc _)
def PointP (w : World) (V : Int) (k : Nat) (e : Ending) (w' : World) : Prop := ∃ t, e = .returned (.string t) ∧ t.size < 134217728 ∧ PointS t false V k ∧ Chg zNone w w'
theorem byteAt_sub (s : ByteArray) (a b i : Nat) (hb : b ≤ s.size) (hi : a + i < b) : byteAt (s.extract a b) i = byteAt s (a + i) := by
  unfold byteAt
  rw [List.getD_eq_getElem?_getD, List.getD_eq_getElem?_getD, ByteArray.data_extract, Array.getElem?_toList, Array.getElem?_toList, Array.getElem?_extract]
  have hs : s.size = s.data.size := rfl
  rw [if_pos (by omega)]
theorem cut_point (d : ByteArray) (k : Nat) (hk : k < d.size) : (d.extract 0 (d.size - k) ++ (⟨#[46]⟩ : ByteArray) ++ d.extract (d.size - k) d.size).size = d.size + 1 ∧ (∀ i, i < d.size - k → byteAt (d.extract 0 (d.size - k) ++ (⟨#[46]⟩ : ByteArray) ++ d.extract (d.size - k) d.size) i = byteAt d i) ∧
    byteAt (d.extract 0 (d.size - k) ++ (⟨#[46]⟩ : ByteArray) ++ d.extract (d.size - k) d.size) (d.size - k) = 46 ∧ (∀ i, i < k → byteAt (d.extract 0 (d.size - k) ++ (⟨#[46]⟩ : ByteArray) ++ d.extract (d.size - k) d.size) (d.size - k + 1 + i) = byteAt d (d.size - k + i)) := by
  have h1 : (d.extract 0 (d.size - k)).size = d.size - k := by rw [ByteArray.size_extract]; omega
  have h2 : (d.extract (d.size - k) d.size).size = k := by rw [ByteArray.size_extract]; omega
  have h3 : (⟨#[46]⟩ : ByteArray).size = 1 := rfl
  have h4 : (d.extract 0 (d.size - k) ++ (⟨#[46]⟩ : ByteArray)).size = d.size - k + 1 := by rw [ByteArray.size_append, h1, h3]
  refine ⟨by rw [ByteArray.size_append, h4, h2]; omega, fun i hi => ?_, ?_, fun i hi => ?_⟩
  · rw [byteAt_app, if_pos (by omega), byteAt_app, if_pos (by omega), byteAt_sub _ _ _ _ (by omega) (by omega), Nat.zero_add]
  · rw [byteAt_app, if_pos (by omega), byteAt_app, if_neg (by omega), h1, Nat.sub_self]; rfl
  · rw [byteAt_app, if_neg (by omega), h4, byteAt_sub _ _ _ _ (by omega) (by omega)]
    congr 1; omega
def PoRel (w : World) (V : Int) (k gk : Nat) (s5 : Value) (wc : World) : Prop :=
  ∃ d : ByteArray, s5 = .string d ∧ d.size < 67108864 ∧ Hid (gk = k + 1 - d.size) ∧ Hid (DigW (byteAt d) 0 d.size V ∧ 0 < d.size ∧ (d.size = 1 ∨ 10 ^ (d.size - 1) ≤ V ∨ d.size ≤ k + 1) ∧ Chg zNone w wc)
theorem dig_small {t : ByteArray} {V : Int} {n : Nat} (h : DecS t V) (hV : V < SB ^ n) (hn : n < 1048576) : t.size < 33554432 := by
  obtain ⟨_, h2, h3⟩ := h
  rcases h3 with h3 | h3
  · omega
  · rw [SB_pow] at hV
    have h7 := two_le_ten (t.size - 1)
    rcases Nat.lt_or_ge (t.size - 1) (16 * n) with g | g
    · omega
    · have := ipow_le (b := 2) (by decide) g
      omega
set_option maxHeartbeats 4000000 in
theorem pointed_any (a : Option Addr) (n c k : Nat) (V : Int) (w : World) (h : NatV w a n c V) (hn : n < 1048576) (hk : k < 1048576) : Calls Tryz.prog 28 #[.slice a n c, .int .i64 (k : Int)] w (PointP w V k) := by
  have HDg := Lib.hid (digits_any a n c V w h hn)
  have hV := Lib.hid (natv_lt h)
  clear h
  go_enter Tryz.func28, Tryz.ntmps28
  go_wp2_with fail
  refine HDg.out.mono ?_
  rintro e w1 ⟨t, rfl, g1, k1⟩
  have hts : t.size < 67108864 := by have := dig_small g1 hV.out hn; omega
  have H1 := Lib.hid (And.intro g1 k1)
  clear g1 k1
  go_wp2_with fail
  go_loopg [5] (k + 1 - t.size) (PoRel w V k)
  case atStart => exact ⟨t, rfl, hts, rfl, H1.out.1.1, H1.out.1.2.1, H1.out.1.2.2.elim Or.inl (fun h => Or.inr (Or.inl h)), H1.out.2⟩
  case round =>
    obtain ⟨d, rfl, hds, Hgk, H⟩ := hrel
    by_cases hle : d.size ≤ k
    · have q1 : decide ((d.size : Int) ≤ (k : Int)) = true := decide_eq_true (by omega)
      have q1' : decide (d.size ≤ k) = true := decide_eq_true hle
      have HLe := Lib.hid hle
      clear hle
      obtain ⟨d2, hd2⟩ : ∃ d2, (⟨#[48]⟩ : ByteArray) ++ d = d2 := ⟨_, rfl⟩
      have hcs := cons_digit d (d := 0) (by omega) (by omega)
      have ho : (⟨#[UInt8.ofNat (48 + 0 : Int).toNat]⟩ : ByteArray) = ⟨#[48]⟩ := rfl
      rw [ho, hd2] at hcs
      have ho1s : (⟨#[48]⟩ : ByteArray).size = 1 := rfl
      have hcc : ¬ ((⟨#[48]⟩ : ByteArray).size + d.size > 9223372036854775807) := by omega
      have hcc2 : (⟨#[48]⟩ : ByteArray).size + d.size ≤ 9223372036854775807 := by omega
      have HC := Lib.hid hcs
      have HD2 := Lib.hid hd2
      clear hcs ho hd2
      go_wp2
      go_roundg (gk - 1)
      case measure => have := Hgk.out; have := HLe.out; omega
      case rel =>
        obtain ⟨c1, c2, c3⟩ := HC.out
        obtain ⟨h1, h2, h3, h4⟩ := H.out
        have hle := HLe.out
        have h1' : DigW (byteAt d2) (0 + 1) (0 + 1 + d.size) V := by
          have := h1.slide 1 (Y := byteAt d2) (fun i _ _ => by rw [Nat.add_comm]; exact c3 i)
          rwa [Nat.add_comm 1 0] at this
        refine ⟨d2, congrArg Value.string HD2.out, by omega, ?_, ?_, by omega, Or.inr (Or.inr (by omega)), h4⟩
        · have := Hgk.out
          show _ = _
          omega
        · rw [c1, show d.size + 1 = 0 + 1 + d.size by omega]
          exact h1'.pad (by rw [c2]; omega)
    · have q1 : decide ((d.size : Int) ≤ (k : Int)) = false := decide_eq_false (by omega)
      have q1' : decide (d.size ≤ k) = false := decide_eq_false hle
      have hlt : k < d.size := by omega
      have hcan : Hid (d.size = k + 1 ∨ 10 ^ (d.size - 1) ≤ V) := by
        rcases H.out.2.2.1 with h | h | h
        · left; omega
        · right; exact h
        · left; omega
      clear hle
      by_cases hk0 : k = 0
      · have q2 : ((k : Int) == 0) = true := by simp [hk0]
        have q2' : (k == 0) = true := by simp [hk0]
        have HK := Lib.hid hk0
        have HLt := Lib.hid hlt
        clear hk0
        go_wp2_with fail
        go_ret
        exact ⟨d, rfl, by omega, PointS.of H.out.1 HLt.out hcan.out (fun _ => rfl) (fun h => by have := HK.out; omega), H.out.2.2.2⟩
      · have q2 : ((k : Int) == 0) = false := beq_false_of_ne (by omega)
        have q2' : (k == 0) = false := beq_false_of_ne hk0
        have HLt := Lib.hid hlt
        have y1 : (0 : Int) ≤ (d.size : Int) - (k : Int) := by omega
        have y2 : (d.size : Int) - (k : Int) ≤ (d.size : Int) := by omega
        have y3 : ((d.size : Int) - (k : Int)).toNat = d.size - k := by omega
        have HK := Lib.hid hk0
        clear hk0
        go_upto_region 6 with fail
        go_quiet (fail)
        go_wp2
        go_ret
        refine ⟨_, rfl, by rw [(cut_point d k HLt.out).1]; omega, PointS.of H.out.1 HLt.out hcan.out (fun h => absurd h (by have := HK.out; omega)) (fun _ => cut_point d k HLt.out), H.out.2.2.2.drewN _⟩
end Go.Proofs.YtmgfajamanakcaaGreatDoor.Si
