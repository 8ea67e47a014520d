/- Part of the proof of FnParse: what the functions that it reaches do, as contracts. Conditions: those that each theorem names. -/
import Derived.Test.YtmgfajamanakcaaGreatDoorD35
import Derived.Deep.CutBlock
import Derived.Deep.DeepCutAuto
import Derived.Test.YtmgfajamanakcaaGreatDoorD11
namespace Go.Proofs.YtmgfajamanakcaaGreatDoor.Si
set_option linter.unusedVariables false
set_option linter.unusedSimpArgs false
open Go Go.RowKit
set_option maxRecDepth 100000
def ext (A : Nat → Int) (n : Nat) : Nat → Int := fun j => if j < n then A j else 0
theorem ext_lt {A : Nat → Int} {n j : Nat} (h : j < n) : ext A n j = A j := if_pos h
theorem ext_ge {A : Nat → Int} {n j : Nat} (h : ¬ j < n) : ext A n j = 0 := if_neg h
theorem vs_ext {A : Nat → Int} {n i : Nat} (h : n ≤ i) : vs (ext A n) i = vs A n := by
  rw [vs_top h (fun j h1 _ => ext_ge (by omega))]
  exact vs_congr (fun j hj => ext_lt hj)
theorem df_ext {A : Nat → Int} {n : Nat} (h : DF A n) (j : Nat) : D16 (ext A n j) := by
  unfold ext
  split
  · exact h j (by assumption)
  · exact ⟨by omega, by omega⟩
theorem Rd.at {w : World} {a : Option Addr} {n i : Nat} {X : Nat → Int} (h : Rd w a n X) (hi : i < n) : ∃ b o, a = some ⟨b, o, none⟩ ∧ w.cell? ⟨b, o + i, none⟩ = some (.int .i64 (X i)) := by
  rcases h with h | ⟨b, o, e, hw⟩
  · omega
  · exact ⟨b, o, e, hw i hi⟩
theorem Rd.le {w : World} {a : Option Addr} {n m : Nat} {X : Nat → Int} (h : Rd w a n X) (hm : m ≤ n) : Rd w a m X := by
  rcases h with h | ⟨b, o, e, hw⟩
  · exact Or.inl (by omega)
  · exact Or.inr ⟨b, o, e, hw.le hm⟩
def AddRel (w : World) (A B : Nat → Int) (n1 n2 : Nat) (gk : Nat) (s5 s6 s7 : Value) (wc : World) : Prop :=
  ∃ (i : Nat) (cy : Int) (a : Option Addr) (c : Nat) (X : Nat → Int), s5 = .slice a i c ∧ s6 = .int .i64 cy ∧ s7 = .int .i64 (i : Int) ∧ i + gk = max n1 n2 ∧ 0 ≤ cy ∧ cy ≤ 1 ∧ Hid (Out w wc a i c X ∧ DF X i ∧ vs X i + SB ^ i * cy = vs (ext A n1) i + vs (ext B n2) i)
set_option maxHeartbeats 4000000 in
theorem add_any (a1 a2 : Option Addr) (n1 c1 n2 c2 : Nat) (V1 V2 : Int) (w : World) (h1 : NatV w a1 n1 c1 V1) (h2 : NatV w a2 n2 c2 V2) (hn1 : n1 < 1073741824) (hn2 : n2 < 1073741824) :
    Calls Tryz.prog 57 #[.slice a1 n1 c1, .slice a2 n2 c2] w (NRes w (V1 + V2)) := by
  obtain ⟨l1, z1, A, r1, f1, t1, rfl⟩ := h1
  obtain ⟨l2, z2, B, r2, f2, t2, rfl⟩ := h2
  have HA := Lib.hid (And.intro r1 f1)
  have HB := Lib.hid (And.intro r2 f2)
  clear r1 f1 t1 r2 f2 t2 z1 z2
  go_enter Tryz.func57, Tryz.ntmps57
  go_wp2_with fail
  go_loopg [5, 6, 7] (max n1 n2) (AddRel w A B n1 n2)
  case atStart => exact ⟨0, 0, _, 0, _, rfl, rfl, rfl, by omega, by omega, by omega, Out.empty w w (Chg.refl _ _) (Nat.le_refl _), fun i hi => by omega, by simp [vs]⟩
  case round =>
    obtain ⟨i, cy, a, c, X, rfl, rfl, rfl, hk, hc0, hc1, H⟩ := hrel
    by_cases hi : i < max n1 n2
    · have HRA : Hid (Rd wr a1 n1 A ∧ Rd wr a2 n2 B) := ⟨HA.out.1.chg H.out.1.chg (fun _ _ _ _ _ h => h), HB.out.1.chg H.out.1.chg (fun _ _ _ _ _ h => h)⟩
      have i0 : (0 : Int) ≤ (i : Int) := by omega
      go_upto_region 4 with fail
      go_cut [18] (fun s18 wc => s18 = .bool true ∧ wr = wc)
      case first => as_aux_lemma =>
        by_cases q1 : i < n1
        · have d1 : decide ((i : Int) < (n1 : Int)) = true := decide_eq_true (by omega)
          have d1' : decide (i < n1) = true := decide_eq_true q1
          go_wp2
          go_meet
          exact ⟨rfl, rfl⟩
        · have d1 : decide ((i : Int) < (n1 : Int)) = false := decide_eq_false (by omega)
          have d1' : decide (i < n1) = false := decide_eq_false q1
          have d2 : decide ((i : Int) < (n2 : Int)) = true := decide_eq_true (by omega)
          have d2' : decide (i < n2) = true := decide_eq_true (by omega)
          go_wp2
          go_meet
          exact ⟨rfl, rfl⟩
      case rest => as_aux_lemma =>
        obtain ⟨rfl, rfl⟩ := hcut
        go_upto_if 24 with fail
        go_cut [6] (fun s6 wc => s6 = .int .i64 (cy + ext A n1 i) ∧ wr = wc)
        case first => as_aux_lemma =>
          by_cases q1 : i < n1
          · have d1 : decide ((i : Int) < (n1 : Int)) = true := decide_eq_true (by omega)
            have d1' : decide (i < n1) = true := decide_eq_true q1
            try first | rw [d1] | rw [d1']
            obtain ⟨b, o, rfl, hcell⟩ := HRA.out.1.at q1
            have hx := HA.out.2 i q1
            have He := Lib.hid (ext_lt (A := A) q1)
            have q2 : (i : Int) < (n1 : Int) := by omega
            obtain ⟨x, hxx⟩ : ∃ x, A i = x := ⟨_, rfl⟩
            rw [hxx] at hcell hx
            have Hx := Lib.hid hxx
            have w1 : wrap64 (cy + x) = cy + x := IntWalk.wrap64_in _ (by obtain ⟨u1, u2⟩ := hx; omega)
            have w2 : IntKind.i64.wrap (cy + x) = cy + x := IntWalk.i64_in _ (by obtain ⟨u1, u2⟩ := hx; omega)
            clear hxx hx d1
            go_wp2
            go_meet
            exact ⟨by rw [He.out, Hx.out], rfl⟩
          · have d1 : decide ((i : Int) < (n1 : Int)) = false := decide_eq_false (by omega)
            have d1' : decide (i < n1) = false := decide_eq_false q1
            try first | rw [d1] | rw [d1']
            have He := Lib.hid (ext_ge (A := A) q1)
            go_wp2
            go_meet
            exact ⟨by rw [He.out, Int.add_zero], rfl⟩
        case rest => as_aux_lemma =>
          obtain ⟨rfl, rfl⟩ := hcut
          have e1 := df_ext HA.out.2 i
          have e2 := df_ext HB.out.2 i
          obtain ⟨x1, hx1⟩ : ∃ x, ext A n1 i = x := ⟨_, rfl⟩
          obtain ⟨x2, hx2⟩ : ∃ x, ext B n2 i = x := ⟨_, rfl⟩
          rw [hx1] at e1 ⊢
          rw [hx2] at e2
          obtain ⟨e1a, e1b⟩ := e1
          obtain ⟨e2a, e2b⟩ := e2
          have HX1 := Lib.hid hx1
          have HX2 := Lib.hid hx2
          clear hx1 hx2
          go_upto_if 34 with fail
          go_cut [6] (fun s6 wc => s6 = .int .i64 (cy + x1 + x2) ∧ wr = wc)
          case first => as_aux_lemma =>
            by_cases q1 : i < n2
            · have d1 : decide ((i : Int) < (n2 : Int)) = true := decide_eq_true (by omega)
              have d1' : decide (i < n2) = true := decide_eq_true q1
              try first | rw [d1] | rw [d1']
              obtain ⟨b, o, rfl, hcell⟩ := HRA.out.2.at q1
              have hx : B i = x2 := (ext_lt (A := B) q1).symm.trans HX2.out
              rw [hx] at hcell
              have q2 : (i : Int) < (n2 : Int) := by omega
              clear hx d1
              go_wp2
              go_meet
              exact ⟨rfl, rfl⟩
            · have d1 : decide ((i : Int) < (n2 : Int)) = false := decide_eq_false (by omega)
              have d1' : decide (i < n2) = false := decide_eq_false q1
              try first | rw [d1] | rw [d1']
              have He : Hid (x2 = 0) := HX2.out.symm.trans (ext_ge (A := B) q1)
              go_wp2
              go_meet
              exact ⟨by rw [He.out, Int.add_zero], rfl⟩
          case rest => as_aux_lemma =>
            obtain ⟨rfl, rfl⟩ := hcut
            obtain ⟨q, hq⟩ : ∃ q, cy + x1 + x2 = q := ⟨_, rfl⟩
            rw [hq]
            have hq0 : 0 ≤ q := by omega
            have hq1 : q < 131072 := by omega
            have HQ := Lib.hid hq
            clear hq
            have HX := Lib.hid (H.out.1.one (q % 65536))
            have x3 := H.out.1.le
            have x4 : i < 1099511627776 := by omega
            have e1 : q.tmod 65536 = q % 65536 := Int.tmod_eq_emod_of_nonneg hq0
            have e2 : q.tdiv 65536 = q / 65536 := Int.tdiv_eq_ediv_of_nonneg hq0
            go_wp2_with (refine wpList_append_int rfl (.tmp 41) (.tmp 44) rfl a i c X _ _ rfl rfl HX.out.1 HX.out.2.1 x3 x4 HX.out.2.2 ?_; rintro a3 c3 w3 h3; have H3 := Lib.hid h3; clear h3)
            go_roundg (gk - 1)
            case measure => omega
            case rel =>
              obtain ⟨g1, g2, g3⟩ := H.out
              refine ⟨i + 1, q / 65536, a3, c3, _, rfl, rfl, by go_num, by omega, by omega, by omega, g1.snoc H3.out, df_upd g2 ⟨by omega, by omega⟩, ?_⟩
              rw [vs_upd, SB_succ]
              simp only [vs]
              rw [HX1.out, HX2.out]
              have e3 := Int.emod_add_mul_ediv q 65536
              have e5 := HQ.out
              generalize SB ^ i = S at *
              have e4 : S * SB * (q / 65536) + (q % 65536) * S = S * q := by
                conv => rhs; rw [← e3]
                unfold SB
                grind
              have e6 : S * q = S * cy + x1 * S + x2 * S := by rw [← e5]; grind
              omega
    · have d1 : decide ((i : Int) < (n1 : Int)) = false := decide_eq_false (by omega)
      have d1' : decide (i < n1) = false := decide_eq_false (by omega)
      have d2 : decide ((i : Int) < (n2 : Int)) = false := decide_eq_false (by omega)
      have d2' : decide (i < n2) = false := decide_eq_false (by omega)
      have HX := Lib.hid (H.out.1.one cy)
      have x3 := H.out.1.le
      have x4 : i < 1099511627776 := by omega
      have hmx : i = max n1 n2 := by omega
      have HM := Lib.hid hmx
      clear hmx
      go_wp2_with (refine wpList_append_int rfl (.tmp 48) (.tmp 50) rfl a i c X _ _ rfl rfl HX.out.1 HX.out.2.1 x3 x4 HX.out.2.2 ?_; rintro a3 c3 w3 h3; have H3 := Lib.hid h3; clear h3)
      have HO := Lib.hid (H.out.1.snoc H3.out)
      refine (trim_any a3 (i + 1) c3 _ w3 HO.out.rd HO.out.le HO.out.z.cap).mono ?_
      rintro e w4 ⟨j, rfl, j1, j2, j3, rfl⟩
      have HJ := Lib.hid (And.intro j1 (And.intro j2 j3))
      clear j1 j2 j3
      go_wp2
      go_ret
      obtain ⟨j1, j2, j3⟩ := HJ.out
      obtain ⟨g1, g2, g3⟩ := H.out
      have hdf : DF (upd X i cy) (i + 1) := df_upd g2 ⟨by omega, by omega⟩
      refine ⟨a3, j, c3, rfl, ⟨by have := HO.out.le; omega, HO.out.z, _, HO.out.rd.le j1, hdf.le j1, j3, ?_⟩, HO.out.chg⟩
      rw [vs_trim j1 j2, vs_upd, Int.mul_comm cy, g3, HM.out, vs_ext (by omega), vs_ext (by omega)]
theorem Words.put {w : World} {b o n i : Nat} {Z : Nat → Int} (h : Words w b o n Z) (v : Int) (hi : i < n) : Words (w.setCell ⟨b, o + i, none⟩ (.int .i64 v)) b o n (upd Z i v) := fun j hj => by
  by_cases hji : j = i
  · subst hji; rw [upd_same]; exact World.cell?_setCell_same' _ _ _ (by rw [h j hj]; rfl)
  · rw [upd_other Z v hji]
    have e : (w.setCell ⟨b, o + i, none⟩ (.int .i64 v)).cell? ⟨b, o + j, none⟩ = w.cell? ⟨b, o + j, none⟩ := World.cell?_setCell_other w _ _ _ (by intro h; injection h with _ h2 _; omega)
    rw [e]; exact h j hj
structure Fill (w0 w : World) (b o N : Nat) (Z : Nat → Int) : Prop where
  pb : PB w b
  room : Room w b o N
  ws : Words w b o N Z
  fr : w0.heap.size ≤ b
  chg : Chg zNone w0 w
theorem Fill.put {w0 w : World} {b o N i : Nat} {Z : Nat → Int} (h : Fill w0 w b o N Z) (v : Int) (hi : i < N) : Fill w0 (w.setCell ⟨b, o + i, none⟩ (.int .i64 v)) b o N (upd Z i v) :=
  ⟨h.pb.chg (chg_setCell w b (o + i) _), h.room.setInt b (o + i) v, h.ws.put v hi, h.fr, h.chg.setCell b (o + i) _ (fun hh => by have := h.fr; omega)⟩
theorem Fill.made (w : World) (N : Nat) : Fill w (w.alloc (.cells (madeCells #[.int .i64 0] N) 3)) w.heap.size 0 N (fun _ => 0) :=
  ⟨PB.new w _ _, room_made w N, fun i hi => by
    have h : (madeCells #[Value.int .i64 0] N)[0 + i]? = some (.int .i64 0) := by simp [madeCells, hi, Nat.mod_one]
    exact cell?_alloc_new w _ _ _ _ h, Nat.le_refl _, (Chg.refl _ _).alloc _⟩
theorem df_put {Z : Nat → Int} {i n : Nat} {v : Int} (h : DF Z n) (hv : D16 v) : DF (upd Z i v) n := fun j hj => by
  by_cases hji : j = i
  · subst hji; rw [upd_same]; exact hv
  · rw [upd_other Z v hji]; exact h j hj
structure MulIn (A B : Nat → Int) (i k n2 : Nat) (cy : Int) (Z Z0 : Nat → Int) (N : Nat) : Prop where
  df : DF Z N
  c0 : 0 ≤ cy
  c1 : cy < 65536
  val : vs Z (i + k) + SB ^ (i + k) * cy = vs Z0 (i + k) + SB ^ i * (A i * vs B k)
  keep : ∀ j, i + k ≤ j → Z j = Z0 j
theorem MulIn.step {A B : Nat → Int} {i k n2 : Nat} {cy : Int} {Z Z0 : Nat → Int} {N : Nat} (h : MulIn A B i k n2 cy Z Z0 N) (hik : i + k < N) (ha : D16 (A i)) (hb : D16 (B k)) :
    MulIn A B i (k + 1) n2 ((cy + (Z (i + k) + A i * B k)) / 65536) (upd Z (i + k) ((cy + (Z (i + k) + A i * B k)) % 65536)) Z0 N ∧ 0 ≤ cy + (Z (i + k) + A i * B k) ∧ cy + (Z (i + k) + A i * B k) < 4294967296 := by
  have hz := h.df (i + k) hik
  have p0 := Int.mul_nonneg ha.1 hb.1
  have p1 : A i * B k ≤ 65535 * 65535 := Int.mul_le_mul (by have := ha.2; omega) (by have := hb.2; omega) hb.1 (by omega)
  obtain ⟨h1, h2, h3, h4, h5⟩ := h
  obtain ⟨z0, z1⟩ := hz
  have q0 : 0 ≤ cy + (Z (i + k) + A i * B k) := by omega
  have q1 : cy + (Z (i + k) + A i * B k) < 4294967296 := by omega
  obtain ⟨q, hq⟩ : ∃ q, cy + (Z (i + k) + A i * B k) = q := ⟨_, rfl⟩
  rw [hq] at q0 q1 ⊢
  refine ⟨⟨df_put h1 ⟨by omega, by omega⟩, by omega, by omega, ?_, fun j hj => ?_⟩, q0, q1⟩
  · rw [show i + (k + 1) = (i + k) + 1 by omega, vs_upd, SB_succ]
    simp only [vs]
    have e3 := Int.emod_add_mul_ediv q 65536
    have hk := h5 (i + k) (Nat.le_refl _)
    rw [← hk]
    have e4 : SB ^ (i + k) * SB * (q / 65536) + (q % 65536) * SB ^ (i + k) = SB ^ (i + k) * q := by
      conv => rhs; rw [← e3]
      unfold SB
      grind
    have e5 : SB ^ (i + k) * q = SB ^ (i + k) * cy + Z (i + k) * SB ^ (i + k) + SB ^ i * (A i * (B k * SB ^ k)) := by
      rw [← hq, Int.pow_add]; grind
    have e6 : SB ^ i * (A i * (vs B k + B k * SB ^ k)) = SB ^ i * (A i * vs B k) + SB ^ i * (A i * (B k * SB ^ k)) := by grind
    omega
  · rw [upd_other Z _ (by omega)]
    exact h5 j (by omega)
def InRel (w : World) (A B : Nat → Int) (i n1 n2 b o : Nat) (Z0 : Nat → Int) (gk : Nat) (s8 s26 : Value) (wc : World) : Prop :=
  ∃ (k : Nat) (cy : Int) (Z : Nat → Int), s8 = .int .i64 cy ∧ s26 = .int .i64 (k : Int) ∧ k + gk = n2 ∧ Hid (Fill w wc b o (n1 + n2) Z ∧ MulIn A B i k n2 cy Z Z0 (n1 + n2))
def OutRel (w : World) (A B : Nat → Int) (n1 n2 b o c : Nat) (gk : Nat) (s19 : Value) (wc : World) : Prop :=
  ∃ (i : Nat) (Z : Nat → Int), s19 = .int .i64 (i : Int) ∧ i + gk = n1 ∧ Hid (Fill w wc b o (n1 + n2) Z ∧ DF Z (n1 + n2) ∧ (∀ j, i + n2 ≤ j → Z j = 0) ∧ vs Z (i + n2) = vs A i * vs B n2)
set_option maxHeartbeats 4000000 in
theorem mul_any (a1 a2 : Option Addr) (n1 c1 n2 c2 : Nat) (V1 V2 : Int) (w : World) (h1 : NatV w a1 n1 c1 V1) (h2 : NatV w a2 n2 c2 V2) (hn1 : n1 < 1048576) (hn2 : n2 < 1048576) :
    Calls Tryz.prog 25 #[.slice a1 n1 c1, .slice a2 n2 c2] w (NRes w (V1 * V2)) := by
  obtain ⟨l1, z1, A, r1, f1, t1, rfl⟩ := h1
  obtain ⟨l2, z2, B, r2, f2, t2, rfl⟩ := h2
  have HA := Lib.hid (And.intro r1 f1)
  have HB := Lib.hid (And.intro r2 f2)
  clear r1 f1 t1 r2 f2 t2 z1 z2
  have hmk := fun w => run_make_ints w ((n1 : Int) + n2) ((n1 : Int) + n2) (by omega) (by omega) (by omega)
  have hN : ((n1 : Int) + (n2 : Int)).toNat = n1 + n2 := by omega
  simp only [hN] at hmk
  go_enter Tryz.func25, Tryz.ntmps25
  go_wp2_with fail
  obtain ⟨b, hb⟩ : ∃ b, b = w.heap.size := ⟨_, rfl⟩
  obtain ⟨W1, hW1⟩ : ∃ W, W = w.alloc (.cells (madeCells #[.int .i64 0] (n1 + n2)) 3) := ⟨_, rfl⟩
  have HF1 : Hid (Fill w W1 b 0 (n1 + n2) (fun _ => 0)) := by rw [hb, hW1]; exact Fill.made w _
  rw [← hb, ← hW1]
  clear hb hW1 hmk hN
  go_loopg [6, 7, 8, 9, 10, 19] n1 (fun gk s6 s7 s8 s9 s10 s19 wc => OutRel w A B n1 n2 b 0 (n1 + n2) gk s19 wc)
  case atStart => exact ⟨0, _, rfl, by omega, HF1.out, fun j hj => (show D16 0 from ⟨by omega, by omega⟩), fun j hj => rfl, by rw [vs_zeros (fun j hj => rfl)]; simp [vs]⟩
  case round =>
    obtain ⟨i, Z0, rfl, hk, H⟩ := hrel
    by_cases hi : i < n1
    · have d1 : decide ((i : Int) < (n1 : Int)) = true := decide_eq_true (by omega)
      have d1' : decide (i < n1) = true := decide_eq_true hi
      have i0 : (0 : Int) ≤ (i : Int) := by omega
      have i1 : (i : Int) < (n1 : Int) := by omega
      obtain ⟨ba, oa, rfl, hca⟩ := (HA.out.1.chg H.out.1.chg (fun _ _ _ _ _ h => h)).at hi
      have hax := HA.out.2 i hi
      obtain ⟨x, hx⟩ : ∃ x, A i = x := ⟨_, rfl⟩
      rw [hx] at hca hax
      have Hx := Lib.hid hx
      have Hax := Lib.hid hax
      clear hx hax
      go_wp2_with fail
      go_loopg [8, 9, 10, 26] n2 (fun gk s8 s9 s10 s26 wc => InRel w A B i n1 n2 b 0 Z0 gk s8 s26 wc)
      case atStart => exact ⟨0, 0, Z0, rfl, rfl, by omega, H.out.1, ⟨H.out.2.1, by omega, by omega, by simp [vs], fun j hj => rfl⟩⟩
      case round =>
        obtain ⟨k, cy, Z, rfl, rfl, hkk, HI⟩ := hrel
        by_cases hkn : k < n2
        · have d2 : decide ((k : Int) < (n2 : Int)) = true := decide_eq_true (by omega)
          have d2' : decide (k < n2) = true := decide_eq_true hkn
          have k0 : (0 : Int) ≤ (k : Int) := by omega
          have k1 : (k : Int) < (n2 : Int) := by omega
          obtain ⟨bb, ob, rfl, hcb⟩ := (HB.out.1.chg HI.out.1.chg (fun _ _ _ _ _ h => h)).at hkn
          have hby := HB.out.2 k hkn
          obtain ⟨⟨st, q0, q1⟩⟩ : Nonempty (_ ∧ _ ∧ _) := ⟨HI.out.2.step (by omega) (by rw [Hx.out]; exact Hax.out) hby⟩
          rw [Hx.out] at st q0 q1
          obtain ⟨y, hy⟩ : ∃ y, B k = y := ⟨_, rfl⟩
          obtain ⟨z, hz⟩ : ∃ z, Z (i + k) = z := ⟨_, rfl⟩
          have hcz := HI.out.1.ws (i + k) (by omega)
          rw [Nat.zero_add] at hcz
          have hfz := (HI.out.1.room (i + k) (by omega)).2
          rw [Nat.zero_add] at hfz
          rw [hy] at hcb st q0 q1 hby
          rw [hz] at hcz st q0 q1
          have HS := Lib.hid st
          have p0 := Int.mul_nonneg Hax.out.1 hby.1
          have p1 : x * y ≤ 65535 * 65535 := Int.mul_le_mul (by have := Hax.out.2; omega) (by have := hby.2; omega) hby.1 (by omega)
          obtain ⟨u, hu⟩ : ∃ u, x * y = u := ⟨_, rfl⟩
          rw [hu] at p0 p1 q0 q1 HS
          have hz16 := HI.out.2.df (i + k) (by omega)
          rw [hz] at hz16
          obtain ⟨z0, z1⟩ := hz16
          have c0 := HI.out.2.c0
          have c1 := HI.out.2.c1
          have wu : wrap64 (x * y) = u := by rw [hu]; exact IntWalk.wrap64_in _ (by omega)
          have e1 : (cy + (z + u)).tmod 65536 = (cy + (z + u)) % 65536 := Int.tmod_eq_emod_of_nonneg q0
          have e2 : (cy + (z + u)).tdiv 65536 = (cy + (z + u)) / 65536 := Int.tdiv_eq_ediv_of_nonneg q0
          have ik0 : (0 : Int) ≤ (i : Int) + (k : Int) := by omega
          have ik1 : (i : Int) + (k : Int) < (n1 : Int) + (n2 : Int) := by omega
          have HU := Lib.hid hu
          have HZy := Lib.hid (And.intro hy hz)
          clear hy hz st hby hu
          go_wp2
          go_roundg (gk - 1)
          case measure => omega
          case rel =>
            have hp := HI.out.1.put ((cy + (z + u)) % 65536) (i := i + k) (by omega)
            rw [Nat.zero_add] at hp
            exact ⟨k + 1, _, _, rfl, by go_num, by omega, hp, HS.out⟩
        · have d2 : decide ((k : Int) < (n2 : Int)) = false := decide_eq_false (by omega)
          have d2' : decide (k < n2) = false := decide_eq_false hkn
          obtain rfl : k = n2 := by omega
          have hcz := HI.out.1.ws (i + k) (by omega)
          rw [Nat.zero_add] at hcz
          have hfz := (HI.out.1.room (i + k) (by omega)).2
          rw [Nat.zero_add] at hfz
          have ik0 : (0 : Int) ≤ (i : Int) + (k : Int) := by omega
          have ik1 : (i : Int) + (k : Int) < (n1 : Int) + (k : Int) := by omega
          go_wp2
          go_roundg (n1 - i - 1)
          case measure => omega
          case rel =>
            have hp := HI.out.1.put cy (i := i + k) (by omega)
            rw [Nat.zero_add] at hp
            obtain ⟨g1, g2, g3, g4, g5⟩ := HI.out.2
            obtain ⟨t1, t2, t3, t4⟩ := H.out
            refine ⟨i + 1, _, by go_num, by omega, hp, df_put g1 ⟨g2, g3⟩, fun j hj => ?_, ?_⟩
            · rw [upd_other Z cy (by omega), g5 j (by omega)]
              exact t3 j (by omega)
            · rw [show i + 1 + k = (i + k) + 1 by omega, vs_upd, Int.mul_comm cy, g4, t4]
              simp only [vs]
              rw [Int.add_mul]
              congr 1
              grind
    · have d1 : decide ((i : Int) < (n1 : Int)) = false := decide_eq_false (by omega)
      have d1' : decide (i < n1) = false := decide_eq_false hi
      obtain rfl : i = n1 := by omega
      go_wp2_with fail
      refine (trim_any (some ⟨b, 0, none⟩) (i + n2) (i + n2) Z0 wr (Or.inr ⟨b, 0, rfl, H.out.1.ws⟩) (Nat.le_refl _) (by omega)).mono ?_
      rintro e w4 ⟨j, rfl, j1, j2, j3, rfl⟩
      have HJ := Lib.hid (And.intro j1 (And.intro j2 j3))
      clear j1 j2 j3
      go_wp2
      go_ret
      obtain ⟨j1, j2, j3⟩ := HJ.out
      obtain ⟨t1, t2, t3, t4⟩ := H.out
      refine ⟨some ⟨b, 0, none⟩, j, i + n2, rfl, ⟨j1, Or.inr ⟨b, 0, rfl, t1.pb, t1.room, by omega⟩, Z0, Or.inr ⟨b, 0, rfl, t1.ws.le j1⟩, t2.le j1, j3, ?_⟩, t1.chg⟩
      rw [vs_trim j1 j2, t4]
theorem vs_cmp {X Y : Nat → Int} {n k : Nat} (hX : DF X n) (hY : DF Y n) (hk : k < n) (heq : ∀ i, k < i → i < n → X i = Y i) (hlt : X k < Y k) : vs X n < vs Y n := by
  obtain ⟨d, rfl⟩ : ∃ d, n = (k + 1) + d := ⟨n - (k + 1), by omega⟩
  rw [vs_add X (k + 1) d, vs_add Y (k + 1) d, vs_congr (X := fun i => X (k + 1 + i)) (Y := fun i => Y (k + 1 + i)) (fun i hi => heq (k + 1 + i) (by omega) (by omega))]
  have a2 := vs_lt (hX.le (show k ≤ k + 1 + d by omega))
  have b1 := vs_nonneg (hY.le (show k ≤ k + 1 + d by omega))
  simp only [vs]
  have := Int.mul_le_mul_of_nonneg_right (show X k + 1 ≤ Y k by omega) (Int.le_of_lt (SBn_pos k))
  rw [Int.add_mul] at this
  omega
theorem SB_mono {m n : Nat} (h : m ≤ n) : SB ^ m ≤ SB ^ n := by
  obtain ⟨k, rfl⟩ : ∃ k, n = m + k := ⟨n - m, by omega⟩
  rw [Int.pow_add]
  have h1 := SBn_pos k
  have h2 := Int.mul_le_mul_of_nonneg_left (show 1 ≤ SB ^ k by omega) (Int.le_of_lt (SBn_pos m))
  omega
theorem vs_lt_of_len {X Y : Nat → Int} {n m : Nat} (hX : DF X n) (hY : DF Y m) (hY2 : DN Y m) (h : n < m) : vs X n < vs Y m := by
  have h1 := vs_lt hX
  have h2 := vs_ge hY hY2 (by omega)
  have h3 := SB_mono (show n ≤ m - 1 by omega)
  omega
set_option maxHeartbeats 2000000 in
theorem cmp_any (a1 a2 : Option Addr) (n1 c1 n2 c2 : Nat) (V1 V2 : Int) (w : World) (h1 : NatV w a1 n1 c1 V1) (h2 : NatV w a2 n2 c2 V2) (hn1 : n1 < 1099511627776) (hn2 : n2 < 1099511627776) :
    Calls Tryz.prog 20 #[.slice a1 n1 c1, .slice a2 n2 c2] w fun e w' => e = .returned (.int .i64 (cmpV V1 V2)) ∧ ∃ n, w' = w.drewN n := by
  obtain ⟨l1, z1, X, r1, f1, t1, rfl⟩ := h1
  obtain ⟨l2, z2, Y, r2, f2, t2, rfl⟩ := h2
  rcases Nat.lt_trichotomy n1 n2 with h | h | h
  · have HV := Lib.hid (cmpV_lt (vs_lt_of_len f1 f2 t2 h))
    have h1 : decide (n1 < n2) = true := by simp [h]
    have h2 : decide ((n1 : Int) < (n2 : Int)) = true := decide_eq_true (by omega)
    clear z1 r1 f1 t1 z2 r2 f2 t2
    go_enter Tryz.func20, Tryz.ntmps20
    go_wp2
    go_ret
    exact ⟨by rw [HV.out]; first | done | rfl, 0, rfl⟩
  · subst h
    have HX := Lib.hid (And.intro r1 f1)
    have HY := Lib.hid (And.intro r2 f2)
    have d1 : decide ((n1 : Int) < (n1 : Int)) = false := decide_eq_false (by omega)
    have d1' : decide (n1 < n1) = false := decide_eq_false (by omega)
    clear z1 r1 f1 t1 z2 r2 f2 t2
    go_enter Tryz.func20, Tryz.ntmps20
    go_wp2_with fail
    go_loopw [5] (fun s5 wr => ∃ k : Nat, s5 = .int .i64 ((k : Int) - 1) ∧ k ≤ n1 ∧ Hid ((∀ j, k ≤ j → j < n1 → X j = Y j) ∧ ∃ N, wr = w.drewN N)) (fun s5 _ => (intOf s5 + 1).toNat)
    case atStart => exact ⟨n1, rfl, Nat.le_refl _, fun j h1 h2 => by omega, 0, rfl⟩
    case round =>
      obtain ⟨k, rfl, hk, H⟩ := hrel
      obtain ⟨N, hN⟩ := H.out.2
      subst hN
      by_cases hk0 : k = 0
      · have HV := Lib.hid (cmpV_eq (vs_congr (fun j hj => H.out.1 j (by omega) hj)))
        obtain rfl : k = 0 := hk0
        go_wp2_with fail
        go_ret
        exact ⟨by rw [HV.out]; first | done | rfl, _, rfl⟩
      · have d2 : decide ((0 : Int) ≤ (k : Int) - 1) = true := decide_eq_true (by omega)
        have k0 : (0 : Int) ≤ (k : Int) - 1 := by omega
        have k1 : (k : Int) - 1 < (n1 : Int) := by omega
        obtain ⟨ba, oa, rfl, hca⟩ := HX.out.1.at (show k - 1 < n1 by omega)
        obtain ⟨bb, ob, rfl, hcb⟩ := HY.out.1.at (show k - 1 < n1 by omega)
        obtain ⟨xk, hxe⟩ : ∃ x, X (k - 1) = x := ⟨_, rfl⟩
        obtain ⟨yk, hye⟩ : ∃ x, Y (k - 1) = x := ⟨_, rfl⟩
        rw [hxe] at hca
        rw [hye] at hcb
        have HE := Lib.hid (And.intro hxe hye)
        clear hxe hye
        rcases Int.lt_trichotomy xk yk with hlt | heq | hgt
        · have HV := Lib.hid (cmpV_lt (vs_cmp HX.out.2 HY.out.2 (show k - 1 < n1 by omega) (fun j h1 h2 => H.out.1 j (by omega) h2) (by rw [HE.out.1, HE.out.2]; exact hlt)))
          have d3 : decide (xk < yk) = true := decide_eq_true hlt
          go_wp2_with fail
          go_quiet (fail)
          go_wp2
          go_ret
          exact ⟨by rw [HV.out]; first | done | rfl, by simp only [World.drewN_drewN]; exact ⟨_, rfl⟩⟩
        · have Heq := Lib.hid heq
          have d3 : decide (xk < yk) = false := decide_eq_false (by omega)
          have d4 : decide (yk < xk) = false := decide_eq_false (by omega)
          clear heq
          go_wp2_with fail
          go_quiet (fail)
          go_wp2_with fail
          go_quiet (fail)
          go_wp2
          go_roundw
          case rel =>
            refine ⟨k - 1, by go_num, by omega, fun j h1 h2 => ?_, _, rfl⟩
            by_cases e : j = k - 1
            · rw [e, HE.out.1, HE.out.2, Heq.out]
            · exact H.out.1 j (by omega) h2
          case measure => simp [intOf]; omega
        · have HV := Lib.hid (cmpV_gt (vs_cmp HY.out.2 HX.out.2 (show k - 1 < n1 by omega) (fun j h1 h2 => (H.out.1 j (by omega) h2).symm) (by rw [HE.out.1, HE.out.2]; exact hgt)))
          have d3 : decide (xk < yk) = false := decide_eq_false (by omega)
          have d4 : decide (yk < xk) = true := decide_eq_true hgt
          go_wp2_with fail
          go_quiet (fail)
          go_wp2_with fail
          go_quiet (fail)
          go_wp2
          go_ret
          exact ⟨by rw [HV.out]; first | done | rfl, by simp only [World.drewN_drewN]; exact ⟨_, rfl⟩⟩
  · have HV := Lib.hid (cmpV_gt (vs_lt_of_len f2 f1 t1 h))
    have h1 : decide (n1 < n2) = false := decide_eq_false (by omega)
    have h2 : decide ((n1 : Int) < (n2 : Int)) = false := decide_eq_false (by omega)
    have h3 : decide (n2 < n1) = true := decide_eq_true h
    have h4 : decide ((n2 : Int) < (n1 : Int)) = true := decide_eq_true (by omega)
    clear z1 r1 f1 t1 z2 r2 f2 t2
    go_enter Tryz.func20, Tryz.ntmps20
    go_wp2
    go_ret
    exact ⟨by rw [HV.out]; first | done | rfl, 0, rfl⟩
end Go.Proofs.YtmgfajamanakcaaGreatDoor.Si
