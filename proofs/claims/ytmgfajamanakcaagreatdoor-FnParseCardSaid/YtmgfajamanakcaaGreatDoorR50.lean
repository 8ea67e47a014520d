/- Part of the proof of FnParse: what the functions that it reaches do, as contracts. Conditions: those that each theorem names. -/
import Derived.Test.YtmgfajamanakcaaGreatDoorR42
import Derived.Test.YtmgfajamanakcaaGreatDoorR38
import Derived.Test.YtmgfajamanakcaaGreatDoorR43
import Derived.Test.YtmgfajamanakcaaGreatDoorR49
import Derived.Test.YtmgfajamanakcaaGreatDoorR48
import Derived.Deep.CutBlock
import Derived.Outline
namespace Go.Proofs.YtmgfajamanakcaaGreatDoor
set_option linter.unusedVariables false
set_option linter.unusedSimpArgs false
open Go Go.RowKit
set_option maxRecDepth 100000
theorem base_at6 (b : Int) (hb : 0 ≤ b) (_hb2 : b < 256) : ∃ bb : Int, (bb = 0 ∨ bb = 2 ∨ bb = 8 ∨ bb = 10 ∨ bb = 16) ∧ ∀ w, (Instr.index 59 (.agg #[.int .i64 0, .int .i64 2, .int .i64 8, .int .i64 10, .int .i64 16]) (.int .u8 (b.tmod 5))).run Tryz.prog w = .ok (.int .i64 bb) w := by
  have h : b.tmod 5 = 0 ∨ b.tmod 5 = 1 ∨ b.tmod 5 = 2 ∨ b.tmod 5 = 3 ∨ b.tmod 5 = 4 := by rw [Int.tmod_eq_emod_of_nonneg hb]; omega
  rcases h with h | h | h | h | h <;> rw [h]
  · exact ⟨0, by simp, fun _ => by kernel_rfl⟩
  · exact ⟨2, by simp, fun _ => by kernel_rfl⟩
  · exact ⟨8, by simp, fun _ => by kernel_rfl⟩
  · exact ⟨10, by simp, fun _ => by kernel_rfl⟩
  · exact ⟨16, by simp, fun _ => by kernel_rfl⟩
theorem dy_far {w4 wc wd : World} {r : Nat} (h : Si.DyC wc r false none 0 0 0 ∧ Si.Sz3 wc r ∧ w4.heap.size ≤ r) (k : Chg zNone wc wd) : Si.DyC wd r false none 0 0 0 ∧ Si.Sz3 wd r ∧ w4.heap.size ≤ r :=
  ⟨h.1.chg k (fun _ h => h), h.2.1.chg k, h.2.2⟩
theorem dy_new (wc w4 : World) (k : Chg zNone w4 wc) : Si.DyC (World.alloc wc (.cells #[.bool false, .slice none 0 0, .int .i64 0] 40)) (World.heap wc).size false none 0 0 0 ∧ Si.Sz3 (World.alloc wc (.cells #[.bool false, .slice none 0 0, .int .i64 0] 40)) (World.heap wc).size ∧ w4.heap.size ≤ (World.heap wc).size :=
  ⟨Si.newDy wc false none 0 0 0 40, Si.Sz3.new wc _ _ _ 40, k.size⟩
theorem dy_end {w4 wc : World} {r vn vc : Nat} {va : Option Addr} {VV sec : Int} {ng : Bool} (h : Si.DyC wc r false none 0 0 0 ∧ Si.Sz3 wc r ∧ w4.heap.size ≤ r) (hv : Si.NatV wc va vn vc VV) (h0 : 0 < VV) (k : Chg zNone w4 wc) :
    Si.DyC (((wc.setCell ⟨r, 0, none⟩ (.bool ng)).setCell ⟨r, 1, none⟩ (.slice va vn vc)).setCell ⟨r, 2, none⟩ (.int .i64 sec)) r ng va vn vc sec ∧ Si.NatV (((wc.setCell ⟨r, 0, none⟩ (.bool ng)).setCell ⟨r, 1, none⟩ (.slice va vn vc)).setCell ⟨r, 2, none⟩ (.int .i64 sec)) va vn vc VV ∧ Chg zNone w4 (((wc.setCell ⟨r, 0, none⟩ (.bool ng)).setCell ⟨r, 1, none⟩ (.slice va vn vc)).setCell ⟨r, 2, none⟩ (.int .i64 sec)) ∧ w4.heap.size ≤ r :=
  ⟨h.1.three ng va vn vc sec, hv.chg (Si.dy_row wc r _ _ _) (Si.far3 hv h0 h.1 h.2.1), k.trans (Si.dy_row wc r _ _ _) (fun b o hb hh => by have := hh.1; have := h.2.2; omega), h.2.2⟩
theorem ah_end {wB wc : World} {r vn vc : Nat} {va b : Option Addr} {m d : Nat} {VV E sec : Int} {ng ng' : Bool} (h : Si.DyC wc r ng va vn vc sec) (hr : r < wB.heap.size) (k : Chg zNone wB wc) (hf : Fresh wB b) (hv : Si.NatV wc b m d VV) :
    Si.DyC (((wc.setCell ⟨r, 0, none⟩ (.bool ng')).setCell ⟨r, 1, none⟩ (.slice b m d)).setCell ⟨r, 2, none⟩ (.int .i64 E)) r ng' b m d E ∧ Si.NatV (((wc.setCell ⟨r, 0, none⟩ (.bool ng')).setCell ⟨r, 1, none⟩ (.slice b m d)).setCell ⟨r, 2, none⟩ (.int .i64 E)) b m d VV ∧ Chg (zRow r 0 3) wB (((wc.setCell ⟨r, 0, none⟩ (.bool ng')).setCell ⟨r, 1, none⟩ (.slice b m d)).setCell ⟨r, 2, none⟩ (.int .i64 E)) :=
  ⟨h.three ng' b m d E, ((hv.fresh_set hf hr 0 _).fresh_set hf hr 1 _).fresh_set hf hr 2 _, (k.mono (fun _ _ _ h => h.elim)).trans (Si.dy_row wc r _ _ _) (fun _ _ _ h => h)⟩
theorem ten_small {k : Nat} (h : k ≤ 27) : (10 : Int) ^ k < SB ^ 28 := by
  have h1 := Si.pow_le_SB (b := 10) (by decide) k; have h2 := Si.SB_mono (show k ≤ 27 by omega); have h3 : SB ^ 28 = SB ^ 27 * SB := SB_succ 27; have h4 : (0 : Int) < SB ^ 27 := Int.pow_pos (by decide); have h5 : SB ^ 27 * SB = SB ^ 27 * 65536 := rfl; have h6 : ((10 : Nat) : Int) = 10 := rfl; rw [h6] at h1; omega
theorem vv_small {w : World} {a : Option Addr} {n c k : Nat} {V : Int} (h : Si.NatV w a n c V) (hn : n ≤ 60) (hk : k ≤ 27) : V * 10 ^ k < SB ^ 128 := by
  have h1 := Si.nat_lt h; have h2 := ten_small hk; have h3 : V * 10 ^ k ≤ SB ^ n * 10 ^ k := Int.mul_le_mul_of_nonneg_right (by omega) (Int.le_of_lt (Int.pow_pos (by decide))); have h4 : SB ^ n * 10 ^ k < SB ^ n * SB ^ 28 := Int.mul_lt_mul_of_pos_left h2 (Int.pow_pos (by decide)); rw [← Int.pow_add] at h4; have h5 := Si.SB_mono (show n + 28 ≤ 128 by omega); omega
def Law6 (w : World) (e : Ending) (w' : World) : Prop := e = .returned (.bool true) ∧ Chg zNone w w'
set_option maxHeartbeats 40000000 in
theorem law6_40 (s : ByteArray) (b m : Int) (q : Nat) (aE a1 a2 : Addr) (w : World) (hs : s.size ≤ 40) (hb : 0 ≤ b) (hb2 : b < 256) (hm : 0 ≤ m) (hm2 : m < 256) (hq : q < 256) (hE : FEnv w aE a1 a2) :
    Calls Tryz.prog 6 #[.string s, .int .u8 b, .int .u8 (q : Int), .int .u8 m] w (Law6 w) := by
  obtain ⟨bb, hbb, hix⟩ := base_at6 b hb hb2; have HE := Lib.hid hE
  have hix2 : ∀ w, (Instr.index 59 (.agg #[.int .i64 0, .int .i64 2, .int .i64 8, .int .i64 10, .int .i64 16]) (.int .u8 (b % 5))).run Tryz.prog w = .ok (.int .i64 bb) w := by
    rw [← Int.tmod_eq_emod_of_nonneg hb]; exact hix
  have HR := Lib.hid (Si.read_any s bb w (by omega) hbb); have h1 : decide ((2147483647 : Int) < (s.size : Int)) = false := by simp; omega
  have h2 : decide ((40 : Int) < (s.size : Int)) = false := by simp; omega
  clear hE
  go_enter Tryz.func6, Tryz.ntmps6
  go_wp2_with fail; refine HR.out.mono ?_; rintro e w1 ⟨ng, bs, a, n, c, bh, ex, two, ok, V, he, hN, hz, hn, r1, r2, r3, r4, hS, k1⟩; unfold Si.srcV at he; subst he; have kA : Chg zNone w1 (w1.alloc (.cells #[.bool ng, .int .i64 bs, .slice a n c, .int .i64 bh, .int .i64 ex, .bool two] 61)) := (Chg.refl _ _).alloc _; have hC := Si.newSrc w1 ng bs a n c bh ex two 61; have hT := Si.tenth_any ng bs a n c bh ex two (w1.alloc (.cells #[.bool ng, .int .i64 bs, .slice a n c, .int .i64 bh, .int .i64 ex, .bool two] 61)) r1 (by omega) (by omega) (by omega); unfold Si.srcV at hT; have HT := Lib.hid hT; have HN := Lib.hid (And.intro hN (And.intro hz (And.intro hS (And.intro (k1.trans kA (fun _ _ _ h => h)) hC)))); have K1 := Lib.hid kA; clear hN hz hS k1 kA hC hT; go_wp2_with fail; refine HT.out.mono ?_; rintro e w2 ⟨rfl, k2⟩
  have hTb : -10059 ≤ Si.tenthV bs bh ex two ∧ Si.tenthV bs bh ex two ≤ 9999 := by
    unfold Si.tenthV
    split
    · split <;> omega
    · omega
  obtain ⟨T, hTT⟩ : ∃ T, Si.tenthV bs bh ex two = T := ⟨_, rfl⟩; rw [hTT] at hTb ⊢; have HTT := Lib.hid hTT; obtain ⟨Q, hQ⟩ : ∃ Q, Q = w1.heap.size := ⟨_, rfl⟩; have hC2 := HN.out.2.2.2.2.chg k2 (fun _ h => h); rw [← hQ] at hC2 ⊢; have HC := Lib.hid (And.intro hC2 (HN.out.2.2.2.1.trans k2 (fun _ _ _ h => h))); have HN2 := Lib.hid (And.intro (fun hV => (HN.out.1 hV).far (K1.out.trans k2 (fun _ _ _ h => h))) (And.intro HN.out.2.1 HN.out.2.2.1)); clear k2 hC2 hTT hQ HN HT K1
  by_cases hgood : ok = true ∧ -27 ≤ T ∧ T ≤ 27
  · obtain ⟨rfl, t1, t2⟩ := hgood
    have d1 : decide (T < -27) = false := decide_eq_false (by omega); have d2 : decide (27 < T) = false := decide_eq_false (by omega); have hS := HN2.out.2.2 rfl
    have hb4 : bs = 2 ∨ bs = 8 ∨ bs = 10 ∨ bs = 16 := by
      rw [← hS.hb]; exact preS_b hbb
    obtain ⟨p1, p2, p3, p4, p5, p6⟩ := Si.read_parse hb4 hS; obtain ⟨P, hP⟩ : ∃ P : Nat, precOf (q : Int) = (P : Int) := ⟨if q = 0 then 64 else q, by unfold precOf; by_cases h : q = 0 <;> simp [h]⟩
    have hP1 : 1 ≤ P ∧ P ≤ 512 := by
      unfold precOf at hP
      split at hP <;> omega
    have hsecb : -11000 ≤ Si.secondV bs bh ex two ∧ Si.secondV bs bh ex two ≤ 11000 := by
      unfold Si.secondV
      split <;> split <;> (try split) <;> (try split) <;> omega
    obtain ⟨sec, hsec⟩ : ∃ x, Si.secondV bs bh ex two = x := ⟨_, rfl⟩; rw [HTT.out] at p5 p6; rw [hsec] at p6 hsecb
    have HI : Hid (Calls Tryz.prog 31 #[.string s, .int .i64 bb, .int .u64 (q : Int), .int .i64 (m % 6)] w2 fun e w' =>
        (V = 0 ∧ IZero w2 P (m % 6) ng bs e w') ∨ (V ≠ 0 ∧ IGood w2 P (m % 6) ng (V * 5 ^ T.toNat) (5 ^ (-T).toNat) (sec + T) bs e w')) := by
      have h := IParse_good s bb q P (m % 6) aE a1 a2 w2 (by omega) (Si.notInf_ok hbb p1) (HE.out.far HC.out.2 (fun _ _ _ h => h)) hP (by omega) (by omega) hbb p1 (by rw [p5]; exact t1) (by rw [p5]; exact t2) (by rw [p6]; omega) (by rw [p6]; omega); unfold numOf denOf at h; rw [p2, p3, p4, p5, p6] at h; exact h
    have HP := Lib.hid (And.intro hP (And.intro hsec hsecb)); clear hS hb4 p1 p2 p3 p4 p5 p6 hP hsec hsecb; go_wp2_with fail; refine HI.out.mono ?_; rintro e w3 (⟨hV, rfl, k3⟩ | ⟨hV, hG⟩)
    · have hn0 : n = 0 := HN2.out.2.1.2 hV
      obtain ⟨w4, hw4⟩ : ∃ w4, w4 = w3.alloc (.cells #[.int .u64 (P : Int), .int .i64 (m % 6), .int .i64 0, .bool ng, .slice none 0 0, .int .i64 0] 25) := ⟨_, rfl⟩; have k4 : Chg zNone w3 w4 := by rw [hw4]; exact (Chg.refl _ _).alloc _
      have hRl : ∀ i v, (#[Value.int .u64 (P : Int), .int .i64 (m % 6), .int .i64 0, .bool ng, .slice none 0 0, .int .i64 0])[i]? = some v → w4.cell? ⟨w3.heap.size, i, none⟩ = some v := fun i v h => by rw [hw4]; exact cell?_alloc_new w3 _ 25 i v h
      have z0 := hRl 0 _ rfl; have z1 := hRl 1 _ rfl; have z2 := hRl 2 _ rfl; have z3 := hRl 3 _ rfl; have z4 := hRl 4 _ rfl; have z5 := hRl 5 _ rfl; obtain ⟨c0, c1, c2, c3, c4, c5, _⟩ := (HC.out.1.chg k3 (fun _ h => h)).chg k4 (fun _ h => h); have HK4 := Lib.hid ((HC.out.2.trans k3 (fun _ _ _ h => h)).trans k4 (fun _ _ _ h => h)); have HW4 := Lib.hid hw4; have hIs := isreal_zero P (m % 6) ng false none 0 0 w4; unfold realV Si.dyV at hIs; have HIs := Lib.hid hIs; go_upto_if 65 with fail; rw [← hw4]; subst hn0; clear hw4 k3 k4 hRl hIs; go_cut [18] (fun s18 wd => s18 = .int .u64 (P : Int) ∧ w4 = wd)
      case first => as_aux_lemma =>
        by_cases hq0 : q = 0
        · have e1 : ((q : Int) == 0) = true := by simp [hq0]
          have e2 : P = 64 := by have := HP.out.1; unfold precOf at this; rw [if_pos (by omega)] at this; omega
          clear hq0; go_wp2; go_meet; exact ⟨by rw [e2]; rfl, rfl⟩
        · have e1 : ((q : Int) == 0) = false := by simp [hq0]
          have e2 : (q : Int) = P := by have := HP.out.1; unfold precOf at this; rw [if_neg (by omega)] at this; exact this
          have E2 := Lib.hid e2; clear hq0 e2; go_wp2; go_meet; exact ⟨by rw [E2.out], rfl⟩
      case rest => as_aux_lemma =>
        obtain ⟨rfl, rfl⟩ := hcut; go_wp2_with fail; refine HIs.out.mono ?_; rintro e w5 ⟨rfl, k5⟩; have HK5 := Lib.hid (HK4.out.trans k5 (fun _ _ _ h => h)); clear k5; go_wp2; go_ret; exact ⟨rfl, HK5.out⟩
    · obtain ⟨v, Y, t, ua, un, uc, U, g1, g2, g3, g4, g5, rfl, g7, g8, g9, g10, g11, g12, g13, k3⟩ := hG
      have hn0 : n ≠ 0 := fun h => hV (HN2.out.2.1.1 h)
      have e17 : ((n : Int) == 0) = false := by simp [hn0]
      obtain ⟨exz, hexz⟩ : ∃ exz, v.e - ((64 * v.n - t : Nat) : Int) = exz := ⟨_, rfl⟩; obtain ⟨zac, hzac⟩ : ∃ zac, v.ac = zac := ⟨_, rfl⟩; rw [hexz, hzac]; obtain ⟨w4, hw4⟩ : ∃ w4, w4 = w3.alloc (.cells #[.int .u64 (P : Int), .int .i64 (m % 6), .int .i64 1, .bool ng, .slice ua un uc, .int .i64 exz] 25) := ⟨_, rfl⟩; have k4 : Chg zNone w3 w4 := by rw [hw4]; exact (Chg.refl _ _).alloc _
      have hRl : ∀ i v, (#[Value.int .u64 (P : Int), .int .i64 (m % 6), .int .i64 1, .bool ng, .slice ua un uc, .int .i64 exz])[i]? = some v → w4.cell? ⟨w3.heap.size, i, none⟩ = some v := fun i v h => by rw [hw4]; exact cell?_alloc_new w3 _ 25 i v h
      obtain ⟨R, hR⟩ : ∃ R, R = w3.heap.size := ⟨_, rfl⟩; rw [← hR] at hRl; have hC4 := (HC.out.1.chg k3 (fun _ h => h)).chg k4 (fun _ h => h); have HS4 := Lib.hid hC4; obtain ⟨c0, c1, c2, c3, c4, c5, _⟩ := hC4; have HRl := Lib.hid hRl; have HK4 := Lib.hid ((HC.out.2.trans k3 (fun _ _ _ h => h)).trans k4 (fun _ _ _ h => h)); have hV0 : 0 < V := by have := (HN2.out.1 hV).nonneg; omega
      have HNV : Hid (Si.NatV w4 a n c V) := (HN2.out.1 hV).far (k3.trans k4 (fun _ _ _ h => h)); have HV0 : Hid (0 < V * 10 ^ T.toNat) := Int.mul_pos hV0 (Int.pow_pos (by decide)); have HVp := Lib.hid hV0
      have htl : t < 64 * v.n := g5.lt (by
        have := (val_ge_top g3 g2 g4).1; have h2 : (0 : Int) < 2 ^ (64 * v.n - 1) := Int.pow_pos (by decide)
        omega) (val_ge_top g3 g2 g4).2
      have HG := Lib.hid (And.intro g1 (And.intro g5 (And.intro hexz (And.intro hzac (And.intro g12 htl))))); have HU := Lib.hid (And.intro (rd_far g9 k4 (fun _ _ _ _ _ h => h)) (And.intro g10 (And.intro g11 (Si.odd_words g1 hP1.1 hP1.2 g5 g12 g10 g11)))); go_upto_if 65 with fail; rw [← hw4, ← hR]; clear hw4 hR k3 k4 hRl g1 g2 g3 g4 g5 g7 g8 g9 g10 g11 g12 g13 hexz hzac hn0 htl hV hV0; go_cut [18] (fun s18 wd => s18 = .int .u64 (P : Int) ∧ w4 = wd)
      case first => as_aux_lemma =>
        by_cases hq0 : q = 0
        · have e1 : ((q : Int) == 0) = true := by simp [hq0]
          have e2 : P = 64 := by have := HP.out.1; unfold precOf at this; rw [if_pos (by omega)] at this; omega
          clear hq0; go_wp2; go_meet; exact ⟨by rw [e2]; rfl, rfl⟩
        · have e1 : ((q : Int) == 0) = false := by simp [hq0]
          have e2 : (q : Int) = P := by have := HP.out.1; unfold precOf at this; rw [if_neg (by omega)] at this; exact this
          have E2 := Lib.hid e2; clear hq0 e2; go_wp2; go_meet; exact ⟨by rw [E2.out], rfl⟩
      obtain ⟨rfl, rfl⟩ := hcut; obtain ⟨TN, hTN⟩ : ∃ TN, T.toNat = TN := ⟨_, rfl⟩; rw [hTN] at HV0; have hmx : max T 0 = (TN : Int) := by omega
      have hmx2 : max 0 T = (TN : Int) := by omega
      have hTNb : TN ≤ 27 := by omega
      have HTN := Lib.hid hTN; clear hTN; have HPw : Hid (∀ W, Calls Tryz.prog 26 #[.int .i64 10, .int .i64 (TN : Int)] W (Si.NRes W (10 ^ TN))) := fun W => Si.power_any 10 TN W (by decide) (by omega)
      have HMu : Hid (∀ W pa pn pc, Chg zNone w4 W → Si.NatV W pa pn pc (10 ^ TN) → Calls Tryz.prog 25 #[.slice a n c, .slice pa pn pc] W (Si.NRes W (V * 10 ^ TN))) := fun W pa pn pc k h =>
        Si.mul_any a pa n c pn pc V _ W (HNV.out.far k) h (by omega) (by have := h.len (k := 28) (ten_small (by omega)); omega)
      have HSe : Hid (∀ W, Calls Tryz.prog 32 #[.agg #[.bool ng, .int .i64 bs, .slice a n c, .int .i64 bh, .int .i64 ex, .bool two]] W fun e w' => e = .returned (.int .i64 sec) ∧ Chg zNone W w') := fun W => by
        have h := Si.second_any ng bs a n c bh ex two W r1 (by omega) (by omega) (by omega); rw [HP.out.2.1] at h; exact h
      have hS : Si.SrcC w4.drew Q ng bs a n c bh ex two := HS4.out.chg ((Chg.refl zNone w4).drew) (fun _ h => h); have KB : Hid (Chg zNone w4 w4.drew) := (Chg.refl zNone w4).drew; have HQr : Hid (∀ r, w4.heap.size ≤ r → Q ≠ r) := fun r h e => by have := HS4.out.pb.lt; omega
      go_upto_region 19 with fail; go_cut [19] (fun s19 wd => ∃ r va vn vc, s19 = .pointer (some ⟨r, 0, none⟩) ∧ (Si.DyC wd r ng va vn vc sec ∧ Si.NatV wd va vn vc (V * 10 ^ TN) ∧ Chg zNone w4 wd ∧ w4.heap.size ≤ r))
      case first => as_aux_lemma =>
          go_wp2_with fail; refine wp_region_noPanic ?_; refine wp_region_held (S := (fun W => Si.SrcC W Q ng bs a n c bh ex two)) (by kernel_rfl) ?_; change wpAnyH _ _ _ _ _ _ _ _ (World.drew _); refine wpAnyH_take (i := 0) (v := ?_) rfl (by kernel_rfl) (by kernel_rfl) (by kernel_rfl) (fun _ _ _ h => False.elim h) (Or.inl ⟨by rfl, ?_⟩) hS ?_; rotate_left 1
          · intro w9 h9
            go_simp; (try with_reducible rfl)
          (try simp only [putL, putN, List.set_cons_zero, List.set_cons_succ]); refine wpAnyH_take (i := 1) (v := ?_) rfl (by kernel_rfl) (by kernel_rfl) (by kernel_rfl) (fun _ _ _ h => False.elim h) (Or.inl ⟨by rfl, ?_⟩) hS ?_; rotate_left 1
          · intro w9 h9
            have h1 := h9.ng; go_simp; (try with_reducible rfl)
          (try simp only [putL, putN, List.set_cons_zero, List.set_cons_succ]); refine wpAnyH_take (i := 2) (v := ?_) rfl (by kernel_rfl) (by kernel_rfl) (by kernel_rfl) (fun _ _ _ h => False.elim h) (Or.inl ⟨by rfl, ?_⟩) hS ?_; rotate_left 1
          · intro w9 h9
            go_simp; (try with_reducible rfl)
          (try simp only [putL, putN, List.set_cons_zero, List.set_cons_succ]); refine wpAnyH_take (i := 3) (v := ?_) rfl (by kernel_rfl) (by kernel_rfl) (by kernel_rfl) (fun _ _ _ h => False.elim h) (Or.inl ⟨by rfl, ?_⟩) hS ?_; rotate_left 1
          · intro w9 h9
            have h1 := h9.mt; go_simp; (try with_reducible rfl)
          (try simp only [putL, putN, List.set_cons_zero, List.set_cons_succ]); refine wpAnyH_take (i := 4) (v := ?_) rfl (by kernel_rfl) (by kernel_rfl) (by kernel_rfl) (fun _ _ _ h => False.elim h) (Or.inl ⟨by rfl, ?_⟩) hS ?_; rotate_left 1
          · intro w9 h9
            go_simp; (try with_reducible rfl)
          (try simp only [putL, putN, List.set_cons_zero, List.set_cons_succ]); refine wpAnyH_take (i := 5) (v := ?_) rfl (by kernel_rfl) (by kernel_rfl) (by kernel_rfl) (fun _ _ _ h => False.elim h) (Or.inl ⟨by rfl, ?_⟩) hS ?_; rotate_left 1
          · intro w9 h9
            go_simp; (try with_reducible rfl)
          (try simp only [putL, putN, List.set_cons_zero, List.set_cons_succ]); refine wpAnyH_take (i := 8) (v := ?_) rfl (by kernel_rfl) (by kernel_rfl) (by kernel_rfl) (fun _ _ _ h => False.elim h) (Or.inl ⟨by rfl, ?_⟩) hS ?_; rotate_left 1
          · intro w9 h9
            obtain ⟨h0, h1, h2, h3, h4, h5, _⟩ := h9; go_simp; (try with_reducible rfl)
          (try simp only [putL, putN, List.set_cons_zero, List.set_cons_succ]); refine wpAnyH_ready (rs := [6, 11]) (by kernel_rfl) (by simp) ?_; refine HReady.cons rfl (fun K hK => ?_) (HReady.cons rfl (fun K hK => ?_) HReady.nil)
          · skip
            go_simp; go_wp2_with (go_at_call 26; go_loud (refine (HPw.out _).mono ?_; rintro e w6 ⟨pa, pn, pc, rfl, g1, g2⟩; have hS : Si.SrcC w6 Q ng bs a n c bh ex two := hS.chg g2 (fun _ h => h); have KB := Lib.hid (KB.out.trans g2 (fun _ _ _ h => h)); have HPW := Lib.hid g1; clear g1 g2)); refine ⟨hS, ?_⟩; (try simp only [putL, putN, List.set_cons_zero, List.set_cons_succ]); refine wpAnyH_ready (rs := [7, 11]) (by kernel_rfl) (by simp) ?_; refine HReady.cons rfl (fun K hK => ?_) (HReady.cons rfl (fun K hK => ?_) HReady.nil)
            · skip
              go_simp; go_wp2_with (go_at_call 25; go_loud (refine (HMu.out _ pa pn pc KB.out HPW.out).mono ?_; rintro e w7 ⟨va, vn, vc, rfl, g1, g2⟩; have hS : Si.SrcC w7 Q ng bs a n c bh ex two := hS.chg g2 (fun _ h => h); have KB := Lib.hid (KB.out.trans g2 (fun _ _ _ h => h)); have HVV := Lib.hid g1; clear g1 g2)); refine ⟨hS, ?_⟩; (try simp only [putL, putN, List.set_cons_zero, List.set_cons_succ]); refine wpAnyH_ready (rs := [9, 11]) (by kernel_rfl) (by simp) ?_; refine HReady.cons rfl (fun K hK => ?_) (HReady.cons rfl (fun K hK => ?_) HReady.nil)
              · skip
                go_simp; go_wp2_with (go_at_call 32; go_loud (refine (HSe.out _).mono ?_; rintro e w8 ⟨rfl, g2⟩; have hS : Si.SrcC w8 Q ng bs a n c bh ex two := hS.chg g2 (fun _ h => h); have KB := Lib.hid (KB.out.trans g2 (fun _ _ _ h => h)); have HVV := Lib.hid (HVV.out.far g2); clear g2)); refine ⟨hS, ?_⟩; (try simp only [putL, putN, List.set_cons_zero, List.set_cons_succ]); refine wpAnyH_take (i := 10) (v := ?_) rfl (by kernel_rfl) (by kernel_rfl) (by kernel_rfl) (fun _ _ _ h => False.elim h) (Or.inl ⟨by rfl, ?_⟩) hS ?_; rotate_left 1
                · intro w9 h9
                  go_simp; (try with_reducible rfl)
                (try simp only [putL, putN, List.set_cons_zero, List.set_cons_succ]); refine wpAnyH_ready (rs := [11]) (by kernel_rfl) (by simp) ?_; refine HReady.cons rfl (fun K hK => ?_) HReady.nil; go_simp; refine hK _ _ ⟨hS.chg ((Chg.refl zNone _).alloc _) (fun _ h => h), ?_⟩; clear hK K; (try simp only [putL, putN, List.set_cons_zero, List.set_cons_succ]); have HD := Lib.hid (dy_new (w8) w4 KB.out); have HVV := Lib.hid (HVV.out.far ((Chg.refl zNone _).alloc (.cells #[.bool false, .slice none 0 0, .int .i64 0] 40))); have KB := Lib.hid (KB.out.trans ((Chg.refl zNone _).alloc (.cells #[.bool false, .slice none 0 0, .int .i64 0] 40)) (fun _ _ _ h => h)); have hS := hS.chg ((Chg.refl zNone _).alloc (.cells #[.bool false, .slice none 0 0, .int .i64 0] 40)) (fun _ h => h); obtain ⟨r, hr⟩ : ∃ r, r = (World.heap (w8)).size := ⟨_, rfl⟩; obtain ⟨wa, hwa⟩ : ∃ wa, wa = World.alloc (w8) (.cells #[.bool false, .slice none 0 0, .int .i64 0] 40) := ⟨_, rfl⟩; rw [← hwa] at hS KB HD ⊢; rw [← hwa] at HVV; rw [← hr] at HD ⊢; clear hr hwa; refine wpAnyH_ready (rs := [12]) (by kernel_rfl) (by simp) ?_; refine HReady.cons rfl (fun K hK => ?_) HReady.nil; obtain ⟨l0, l1, l2, lp⟩ := HD.out.1; have f0 := lp.fz 0; have f1 := lp.fz 1; have f2 := lp.fz 2; clear lp; go_simp; have HEND := Lib.hid (dy_end HD.out HVV.out HV0.out KB.out (ng := ng) (sec := sec)); have hS2 := hS.chg (Si.dy_row _ r (.bool ng) (.slice va vn vc) (.int .i64 sec)) (fun o hh => HQr.out r HD.out.2.2 hh.1); refine hK _ _ ⟨hS2, ?_⟩; clear hK K hS l0 l1 l2 f0 f1 f2; have hS := hS2; (try simp only [putL, putN, List.set_cons_zero, List.set_cons_succ]); refine wpAnyH_done (by kernel_rfl) ?_ _; refine NoPanic.normal ?_; go_wp2; go_meet; exact ⟨r, va, vn, vc, rfl, HEND.out⟩
              · skip
                go_simp; refine hK _ _ ⟨hS.chg ((Chg.refl zNone _).alloc _) (fun _ h => h), ?_⟩; clear hK K; (try simp only [putL, putN, List.set_cons_zero, List.set_cons_succ]); have HD := Lib.hid (dy_new (w7) w4 KB.out); have HVV := Lib.hid (HVV.out.far ((Chg.refl zNone _).alloc (.cells #[.bool false, .slice none 0 0, .int .i64 0] 40))); have KB := Lib.hid (KB.out.trans ((Chg.refl zNone _).alloc (.cells #[.bool false, .slice none 0 0, .int .i64 0] 40)) (fun _ _ _ h => h)); have hS := hS.chg ((Chg.refl zNone _).alloc (.cells #[.bool false, .slice none 0 0, .int .i64 0] 40)) (fun _ h => h); obtain ⟨r, hr⟩ : ∃ r, r = (World.heap (w7)).size := ⟨_, rfl⟩; obtain ⟨wa, hwa⟩ : ∃ wa, wa = World.alloc (w7) (.cells #[.bool false, .slice none 0 0, .int .i64 0] 40) := ⟨_, rfl⟩; rw [← hwa] at hS KB HD ⊢; rw [← hwa] at HVV; rw [← hr] at HD ⊢; clear hr hwa; refine wpAnyH_ready (rs := [9]) (by kernel_rfl) (by simp) ?_; refine HReady.cons rfl (fun K hK => ?_) HReady.nil; go_simp; go_wp2_with (go_at_call 32; go_loud (refine (HSe.out _).mono ?_; rintro e w8 ⟨rfl, g2⟩; have hS : Si.SrcC w8 Q ng bs a n c bh ex two := hS.chg g2 (fun _ h => h); have KB := Lib.hid (KB.out.trans g2 (fun _ _ _ h => h)); have HD := Lib.hid (dy_far HD.out g2); have HVV := Lib.hid (HVV.out.far g2); clear g2)); refine ⟨hS, ?_⟩; (try simp only [putL, putN, List.set_cons_zero, List.set_cons_succ]); refine wpAnyH_take (i := 10) (v := ?_) rfl (by kernel_rfl) (by kernel_rfl) (by kernel_rfl) (fun _ _ _ h => False.elim h) (Or.inl ⟨by rfl, ?_⟩) hS ?_; rotate_left 1
                · intro w9 h9
                  go_simp; (try with_reducible rfl)
                (try simp only [putL, putN, List.set_cons_zero, List.set_cons_succ]); refine wpAnyH_ready (rs := [12]) (by kernel_rfl) (by simp) ?_; refine HReady.cons rfl (fun K hK => ?_) HReady.nil; obtain ⟨l0, l1, l2, lp⟩ := HD.out.1; have f0 := lp.fz 0; have f1 := lp.fz 1; have f2 := lp.fz 2; clear lp; go_simp; have HEND := Lib.hid (dy_end HD.out HVV.out HV0.out KB.out (ng := ng) (sec := sec)); have hS2 := hS.chg (Si.dy_row _ r (.bool ng) (.slice va vn vc) (.int .i64 sec)) (fun o hh => HQr.out r HD.out.2.2 hh.1); refine hK _ _ ⟨hS2, ?_⟩; clear hK K hS l0 l1 l2 f0 f1 f2; have hS := hS2; (try simp only [putL, putN, List.set_cons_zero, List.set_cons_succ]); refine wpAnyH_done (by kernel_rfl) ?_ _; refine NoPanic.normal ?_; go_wp2; go_meet; exact ⟨r, va, vn, vc, rfl, HEND.out⟩
            · skip
              go_simp; refine hK _ _ ⟨hS.chg ((Chg.refl zNone _).alloc _) (fun _ h => h), ?_⟩; clear hK K; (try simp only [putL, putN, List.set_cons_zero, List.set_cons_succ]); have HD := Lib.hid (dy_new (w6) w4 KB.out); have HPW := Lib.hid (HPW.out.far ((Chg.refl zNone _).alloc (.cells #[.bool false, .slice none 0 0, .int .i64 0] 40))); have KB := Lib.hid (KB.out.trans ((Chg.refl zNone _).alloc (.cells #[.bool false, .slice none 0 0, .int .i64 0] 40)) (fun _ _ _ h => h)); have hS := hS.chg ((Chg.refl zNone _).alloc (.cells #[.bool false, .slice none 0 0, .int .i64 0] 40)) (fun _ h => h); obtain ⟨r, hr⟩ : ∃ r, r = (World.heap (w6)).size := ⟨_, rfl⟩; obtain ⟨wa, hwa⟩ : ∃ wa, wa = World.alloc (w6) (.cells #[.bool false, .slice none 0 0, .int .i64 0] 40) := ⟨_, rfl⟩; rw [← hwa] at hS KB HD ⊢; rw [← hwa] at HPW; rw [← hr] at HD ⊢; clear hr hwa; refine wpAnyH_ready (rs := [7]) (by kernel_rfl) (by simp) ?_; refine HReady.cons rfl (fun K hK => ?_) HReady.nil; go_simp; go_wp2_with (go_at_call 25; go_loud (refine (HMu.out _ pa pn pc KB.out HPW.out).mono ?_; rintro e w7 ⟨va, vn, vc, rfl, g1, g2⟩; have hS : Si.SrcC w7 Q ng bs a n c bh ex two := hS.chg g2 (fun _ h => h); have KB := Lib.hid (KB.out.trans g2 (fun _ _ _ h => h)); have HD := Lib.hid (dy_far HD.out g2); have HVV := Lib.hid g1; clear g1 g2)); refine ⟨hS, ?_⟩; (try simp only [putL, putN, List.set_cons_zero, List.set_cons_succ]); refine wpAnyH_ready (rs := [9]) (by kernel_rfl) (by simp) ?_; refine HReady.cons rfl (fun K hK => ?_) HReady.nil; go_simp; go_wp2_with (go_at_call 32; go_loud (refine (HSe.out _).mono ?_; rintro e w8 ⟨rfl, g2⟩; have hS : Si.SrcC w8 Q ng bs a n c bh ex two := hS.chg g2 (fun _ h => h); have KB := Lib.hid (KB.out.trans g2 (fun _ _ _ h => h)); have HD := Lib.hid (dy_far HD.out g2); have HVV := Lib.hid (HVV.out.far g2); clear g2)); refine ⟨hS, ?_⟩; (try simp only [putL, putN, List.set_cons_zero, List.set_cons_succ]); refine wpAnyH_take (i := 10) (v := ?_) rfl (by kernel_rfl) (by kernel_rfl) (by kernel_rfl) (fun _ _ _ h => False.elim h) (Or.inl ⟨by rfl, ?_⟩) hS ?_; rotate_left 1
              · intro w9 h9
                go_simp; (try with_reducible rfl)
              (try simp only [putL, putN, List.set_cons_zero, List.set_cons_succ]); refine wpAnyH_ready (rs := [12]) (by kernel_rfl) (by simp) ?_; refine HReady.cons rfl (fun K hK => ?_) HReady.nil; obtain ⟨l0, l1, l2, lp⟩ := HD.out.1; have f0 := lp.fz 0; have f1 := lp.fz 1; have f2 := lp.fz 2; clear lp; go_simp; have HEND := Lib.hid (dy_end HD.out HVV.out HV0.out KB.out (ng := ng) (sec := sec)); have hS2 := hS.chg (Si.dy_row _ r (.bool ng) (.slice va vn vc) (.int .i64 sec)) (fun o hh => HQr.out r HD.out.2.2 hh.1); refine hK _ _ ⟨hS2, ?_⟩; clear hK K hS l0 l1 l2 f0 f1 f2; have hS := hS2; (try simp only [putL, putN, List.set_cons_zero, List.set_cons_succ]); refine wpAnyH_done (by kernel_rfl) ?_ _; refine NoPanic.normal ?_; go_wp2; go_meet; exact ⟨r, va, vn, vc, rfl, HEND.out⟩
          · skip
            go_simp; refine hK _ _ ⟨hS.chg ((Chg.refl zNone _).alloc _) (fun _ h => h), ?_⟩; clear hK K; (try simp only [putL, putN, List.set_cons_zero, List.set_cons_succ]); change wpAnyH _ _ _ _ _ _ _ _ (World.alloc (World.drew w4) (.cells #[.bool false, .slice none 0 0, .int .i64 0] 40)); have HD := Lib.hid (dy_new (World.drew w4) w4 KB.out); have KB := Lib.hid (KB.out.trans ((Chg.refl zNone _).alloc (.cells #[.bool false, .slice none 0 0, .int .i64 0] 40)) (fun _ _ _ h => h)); have hS := hS.chg ((Chg.refl zNone _).alloc (.cells #[.bool false, .slice none 0 0, .int .i64 0] 40)) (fun _ h => h); obtain ⟨r, hr⟩ : ∃ r, r = (World.heap w4).size := ⟨_, rfl⟩; have hr2 : r = (World.heap (World.drew w4)).size := hr; rw [← hr2] at HD; clear hr2; obtain ⟨wa, hwa⟩ : ∃ wa, wa = World.alloc (World.drew w4) (.cells #[.bool false, .slice none 0 0, .int .i64 0] 40) := ⟨_, rfl⟩; rw [← hwa] at hS KB HD ⊢; rw [← hr]; clear hr hwa; refine wpAnyH_ready (rs := [6]) (by kernel_rfl) (by simp) ?_; refine HReady.cons rfl (fun K hK => ?_) HReady.nil; go_simp; go_wp2_with (go_at_call 26; go_loud (refine (HPw.out _).mono ?_; rintro e w6 ⟨pa, pn, pc, rfl, g1, g2⟩; have hS : Si.SrcC w6 Q ng bs a n c bh ex two := hS.chg g2 (fun _ h => h); have KB := Lib.hid (KB.out.trans g2 (fun _ _ _ h => h)); have HD := Lib.hid (dy_far HD.out g2); have HPW := Lib.hid g1; clear g1 g2)); refine ⟨hS, ?_⟩; (try simp only [putL, putN, List.set_cons_zero, List.set_cons_succ]); refine wpAnyH_ready (rs := [7]) (by kernel_rfl) (by simp) ?_; refine HReady.cons rfl (fun K hK => ?_) HReady.nil; go_simp; go_wp2_with (go_at_call 25; go_loud (refine (HMu.out _ pa pn pc KB.out HPW.out).mono ?_; rintro e w7 ⟨va, vn, vc, rfl, g1, g2⟩; have hS : Si.SrcC w7 Q ng bs a n c bh ex two := hS.chg g2 (fun _ h => h); have KB := Lib.hid (KB.out.trans g2 (fun _ _ _ h => h)); have HD := Lib.hid (dy_far HD.out g2); have HVV := Lib.hid g1; clear g1 g2)); refine ⟨hS, ?_⟩; (try simp only [putL, putN, List.set_cons_zero, List.set_cons_succ]); refine wpAnyH_ready (rs := [9]) (by kernel_rfl) (by simp) ?_; refine HReady.cons rfl (fun K hK => ?_) HReady.nil; go_simp; go_wp2_with (go_at_call 32; go_loud (refine (HSe.out _).mono ?_; rintro e w8 ⟨rfl, g2⟩; have hS : Si.SrcC w8 Q ng bs a n c bh ex two := hS.chg g2 (fun _ h => h); have KB := Lib.hid (KB.out.trans g2 (fun _ _ _ h => h)); have HD := Lib.hid (dy_far HD.out g2); have HVV := Lib.hid (HVV.out.far g2); clear g2)); refine ⟨hS, ?_⟩; (try simp only [putL, putN, List.set_cons_zero, List.set_cons_succ]); refine wpAnyH_take (i := 10) (v := ?_) rfl (by kernel_rfl) (by kernel_rfl) (by kernel_rfl) (fun _ _ _ h => False.elim h) (Or.inl ⟨by rfl, ?_⟩) hS ?_; rotate_left 1
            · intro w9 h9
              go_simp; (try with_reducible rfl)
            (try simp only [putL, putN, List.set_cons_zero, List.set_cons_succ]); refine wpAnyH_ready (rs := [12]) (by kernel_rfl) (by simp) ?_; refine HReady.cons rfl (fun K hK => ?_) HReady.nil; obtain ⟨l0, l1, l2, lp⟩ := HD.out.1; have f0 := lp.fz 0; have f1 := lp.fz 1; have f2 := lp.fz 2; clear lp; go_simp; have HEND := Lib.hid (dy_end HD.out HVV.out HV0.out KB.out (ng := ng) (sec := sec)); have hS2 := hS.chg (Si.dy_row _ r (.bool ng) (.slice va vn vc) (.int .i64 sec)) (fun o hh => HQr.out r HD.out.2.2 hh.1); refine hK _ _ ⟨hS2, ?_⟩; clear hK K hS l0 l1 l2 f0 f1 f2; have hS := hS2; (try simp only [putL, putN, List.set_cons_zero, List.set_cons_succ]); refine wpAnyH_done (by kernel_rfl) ?_ _; refine NoPanic.normal ?_; go_wp2; go_meet; exact ⟨r, va, vn, vc, rfl, HEND.out⟩
      case rest => as_aux_lemma =>
        obtain ⟨r, va, vn, vc, rfl, HY0⟩ := hcut; obtain ⟨wB, hwB⟩ : ∃ wB, wB = wc := ⟨_, rfl⟩; subst hwB; have HY := Lib.hid HY0; clear HY0 hS KB c0 c1 c2 c3 c4 c5; have hvn : vn ≤ 128 := HY.out.2.1.len (vv_small HNV.out (by omega) (by omega))
        by_cases hT0 : T < 0
        · have d3 : decide (T < 0) = true := decide_eq_true hT0
          obtain ⟨TM, hTM⟩ : ∃ TM, (-T).toNat = TM := ⟨_, rfl⟩; have hnt : -T = (TM : Int) := by omega
          have hTM2 : TM ≤ 27 := by omega
          have hTN0 : TN = 0 := by have := HTN.out; omega
          subst hTN0; rw [Int.pow_zero, Int.mul_one] at HY HV0; have HTM := Lib.hid (And.intro hTM hnt); clear hTM; have h10 : (0 : Int) < 10 ^ TM := Int.pow_pos (by decide); obtain ⟨EE, hEE⟩ : ∃ EE, sec - ((Si.aheadK V (10 ^ TM) (P + 1) : Nat) : Int) - 1 = EE := ⟨_, rfl⟩; obtain ⟨QQ, hQQ⟩ : ∃ QQ, Si.aheadQ V (10 ^ TM) (P + 1) = QQ := ⟨_, rfl⟩
          have hQ0 : 0 < QQ := by
            rw [← hQQ]; have h1 := Si.aheadQ_pos (N := P + 1) HVp.out h10; have h2 : (0 : Int) < 2 ^ (P + 1 + 1) := Int.pow_pos (by decide); omega
          have hKb : -2097152 < EE ∧ EE < 2097152 := by
            rw [← hEE]; have h1 := (Si.Lof_spec h10).2.1
            have h2 : Si.Lof (10 ^ TM) ≤ 16 * 28 := by
              rcases Nat.lt_or_ge (16 * 28) (Si.Lof (10 ^ TM)) with g | g
              · have g2 := ipow_le (b := 2) (by decide) (show 16 * 28 ≤ Si.Lof (10 ^ TM) - 1 by omega)
                have g3 := ten_small hTM2; rw [Si.SB_pow] at g3; omega
              · exact g
            have h3 : Si.aheadK V (10 ^ TM) (P + 1) ≤ P + 2 + Si.Lof (10 ^ TM) := by unfold Si.aheadK; omega
            have := HP.out.2.2; omega
          have HEQ := Lib.hid (And.intro hEE (And.intro hQQ (And.intro hQ0 hKb))); have HPw2 : Hid (∀ W, Calls Tryz.prog 26 #[.int .i64 10, .int .i64 (TM : Int)] W (Si.NRes W (10 ^ TM))) := fun W => Si.power_any 10 TM W (by decide) (by omega)
          have HAh : Hid (∀ W pa pn pc, Chg zNone wB W → Si.NatV W pa pn pc (10 ^ TM) → Calls Tryz.prog 33 #[.agg #[.bool ng, .slice va vn vc, .int .i64 sec], .agg #[.bool false, .slice pa pn pc, .int .i64 0], .int .i64 ((P : Int) + 1)] W
              fun e w' => ∃ b9 m9 d9, e = .returned (.agg #[.bool ng, .slice b9 m9 d9, .int .i64 EE]) ∧ Si.NatV w' b9 m9 d9 QQ ∧ m9 < 65536 ∧ Fresh W b9 ∧ Chg zNone W w') := fun W pa pn pc k h => by
            have hx := Si.ahead_any ng false va pa vn vc pn pc V (10 ^ TM) sec 0 (P + 1) W (HY.out.2.1.far k) h HVp.out h10 (by omega) (by have := h.len (k := 28) (ten_small (by omega)); omega) (by omega) (by have := HP.out.2.2; omega) (by omega); have e : (((P + 1 : Nat)) : Int) = (P : Int) + 1 := by push_cast; rfl
            rw [e] at hx; refine hx.mono ?_; rintro e w' ⟨b9, m9, d9, rfl, q1, q2, q3, q4⟩; refine ⟨b9, m9, d9, ?_, by rw [← hQQ]; exact q1, q2, q3, q4⟩; unfold Si.dyV; rw [← hEE]
            cases ng <;> simp
          obtain ⟨y0, y1, y2, _⟩ := HY.out.1; have wnt : IntKind.i64.wrap (-T) = (TM : Int) := by rw [hnt]; exact IntWalk.i64_in _ (by omega)
          have wTM : IntKind.i64.wrap (TM : Int) = (TM : Int) := IntWalk.i64_in _ (by omega); have wP : IntKind.i64.wrap (P : Int) = (P : Int) := IntWalk.i64_in _ (by omega); have wP1 : IntKind.i64.wrap ((P : Int) + 1) = (P : Int) + 1 := IntWalk.i64_in _ (by omega); clear hEE hQQ hQ0 hKb h10; go_upto_region 21 with fail; go_cut [108] (fun s108 wd => ∃ b9 m9 d9, (Si.DyC wd r ng b9 m9 d9 EE ∧ Si.NatV wd b9 m9 d9 QQ ∧ Chg (zRow r 0 3) wB wd) ∧ m9 < 65536)
          case first => as_aux_lemma =>
            go_wp2_with fail; refine wp_region_noPanic ?_; refine wp_region_any (by kernel_rfl) ?_; change wpAny _ _ _ _ _ _ _ (World.drew _); refine wpAny_take (i := 1) (v := ?_) rfl (by kernel_rfl) (by kernel_rfl) (by kernel_rfl) (fun _ _ _ h => False.elim h) (Or.inl ⟨by rfl, ?_⟩) ?_; rotate_left 1
            · intro w9
              go_simp; (try with_reducible rfl)
            (try simp only [putL, putN, List.set_cons_zero, List.set_cons_succ]); refine wpAny_take (i := 2) (v := ?_) rfl (by kernel_rfl) (by kernel_rfl) (by kernel_rfl) (fun _ _ _ h => False.elim h) (Or.inl ⟨by rfl, ?_⟩) ?_; rotate_left 1
            · intro w9
              go_simp; (try with_reducible rfl)
            (try simp only [putL, putN, List.set_cons_zero, List.set_cons_succ]); refine wpAny_take (i := 5) (v := ?_) rfl (by kernel_rfl) (by kernel_rfl) (by kernel_rfl) (fun _ _ _ h => False.elim h) (Or.inl ⟨by rfl, ?_⟩) ?_; rotate_left 1
            · intro w9
              go_simp; (try with_reducible rfl)
            (try simp only [putL, putN, List.set_cons_zero, List.set_cons_succ]); refine wpAny_take (i := 6) (v := ?_) rfl (by kernel_rfl) (by kernel_rfl) (by kernel_rfl) (fun _ _ _ h => False.elim h) (Or.inl ⟨by rfl, ?_⟩) ?_; rotate_left 1
            · intro w9
              go_simp; (try with_reducible rfl)
            (try simp only [putL, putN, List.set_cons_zero, List.set_cons_succ]); refine wpAny_take (i := 7) (v := ?_) rfl (by kernel_rfl) (by kernel_rfl) (by kernel_rfl) (fun _ _ _ h => False.elim h) (Or.inl ⟨by rfl, ?_⟩) ?_; rotate_left 1
            · intro w9
              go_simp; (try with_reducible rfl)
            (try simp only [putL, putN, List.set_cons_zero, List.set_cons_succ]); refine wpAny_ready (rs := [0, 3]) (by kernel_rfl) (by simp) ?_; refine AllReady.cons rfl (fun K hK => ?_) (AllReady.cons rfl (fun K hK => ?_) AllReady.nil)
            · skip
              go_simp; refine hK _ _ ?_; clear hK K; (try simp only [putL, putN, List.set_cons_zero, List.set_cons_succ]); refine wpAny_ready (rs := [3]) (by kernel_rfl) (by simp) ?_; refine AllReady.cons rfl (fun K hK => ?_) AllReady.nil; go_simp; go_wp2_with (go_at_call 26; go_loud (refine (HPw2.out _).mono ?_; rintro e w6 ⟨pa, pn, pc, rfl, g1, g2⟩; obtain ⟨y0, y1, y2, yp⟩ := HY.out.1.chg g2.base_drew (fun _ h => h); have HPW := Lib.hid (And.intro g1 g2.base_drew); clear g1 g2 yp)); (try simp only [putL, putN, List.set_cons_zero, List.set_cons_succ]); refine wpAny_take (i := 4) (v := ?_) rfl (by kernel_rfl) (by kernel_rfl) (by kernel_rfl) (fun _ _ _ h => False.elim h) (Or.inl ⟨by rfl, ?_⟩) ?_; rotate_left 1
              · intro w9
                go_simp; (try with_reducible rfl)
              (try simp only [putL, putN, List.set_cons_zero, List.set_cons_succ]); refine wpAny_ready (rs := [8]) (by kernel_rfl) (by simp) ?_; refine AllReady.cons rfl (fun K hK => ?_) AllReady.nil; go_simp; go_wp2_with (go_at_call 33; go_loud (refine (HAh.out _ pa pn pc HPW.out.2 HPW.out.1).mono ?_; rintro e w7 ⟨b9, m9, d9, rfl, g1, g2, g3, g4⟩; have HYY := Lib.hid (HY.out.1.chg (HPW.out.2.trans g4 (fun _ _ _ h => h)) (fun _ h => h)); obtain ⟨y0, y1, y2, yp⟩ := HYY.out; have f0 := yp.fz 0; have f1 := yp.fz 1; have f2 := yp.fz 2; have HEND := Lib.hid (And.intro (ah_end HYY.out HY.out.1.pb.lt (HPW.out.2.trans g4 (fun _ _ _ h => h)) (Si.fresh_in (HPW.out.2.trans g4 (fun _ _ _ h => h)) HPW.out.2 g3) g1 (ng' := ng) (E := EE)) g2); clear g1 g2 g3 g4 yp)); (try simp only [putL, putN, List.set_cons_zero, List.set_cons_succ]); refine wpAny_ready (rs := [9]) (by kernel_rfl) (by simp) ?_; refine AllReady.cons rfl (fun K hK => ?_) AllReady.nil; go_simp; refine hK _ _ ?_; clear hK K; (try simp only [putL, putN, List.set_cons_zero, List.set_cons_succ]); refine wpAny_done (by kernel_rfl) ?_ _; refine NoPanic.normal ?_; go_wp2; go_meet; exact ⟨b9, m9, d9, HEND.out⟩
            · skip
              go_simp; go_wp2_with (go_at_call 26; go_loud (refine (HPw2.out _).mono ?_; rintro e w6 ⟨pa, pn, pc, rfl, g1, g2⟩; obtain ⟨y0, y1, y2, yp⟩ := HY.out.1.chg g2.base_drew (fun _ h => h); have HPW := Lib.hid (And.intro g1 g2.base_drew); clear g1 g2 yp)); (try simp only [putL, putN, List.set_cons_zero, List.set_cons_succ]); refine wpAny_take (i := 4) (v := ?_) rfl (by kernel_rfl) (by kernel_rfl) (by kernel_rfl) (fun _ _ _ h => False.elim h) (Or.inl ⟨by rfl, ?_⟩) ?_; rotate_left 1
              · intro w9
                go_simp; (try with_reducible rfl)
              (try simp only [putL, putN, List.set_cons_zero, List.set_cons_succ]); refine wpAny_ready (rs := [0]) (by kernel_rfl) (by simp) ?_; refine AllReady.cons rfl (fun K hK => ?_) AllReady.nil; go_simp; refine hK _ _ ?_; clear hK K; (try simp only [putL, putN, List.set_cons_zero, List.set_cons_succ]); refine wpAny_ready (rs := [8]) (by kernel_rfl) (by simp) ?_; refine AllReady.cons rfl (fun K hK => ?_) AllReady.nil; go_simp; go_wp2_with (go_at_call 33; go_loud (refine (HAh.out _ pa pn pc HPW.out.2 HPW.out.1).mono ?_; rintro e w7 ⟨b9, m9, d9, rfl, g1, g2, g3, g4⟩; have HYY := Lib.hid (HY.out.1.chg (HPW.out.2.trans g4 (fun _ _ _ h => h)) (fun _ h => h)); obtain ⟨y0, y1, y2, yp⟩ := HYY.out; have f0 := yp.fz 0; have f1 := yp.fz 1; have f2 := yp.fz 2; have HEND := Lib.hid (And.intro (ah_end HYY.out HY.out.1.pb.lt (HPW.out.2.trans g4 (fun _ _ _ h => h)) (Si.fresh_in (HPW.out.2.trans g4 (fun _ _ _ h => h)) HPW.out.2 g3) g1 (ng' := ng) (E := EE)) g2); clear g1 g2 g3 g4 yp)); (try simp only [putL, putN, List.set_cons_zero, List.set_cons_succ]); refine wpAny_ready (rs := [9]) (by kernel_rfl) (by simp) ?_; refine AllReady.cons rfl (fun K hK => ?_) AllReady.nil; go_simp; refine hK _ _ ?_; clear hK K; (try simp only [putL, putN, List.set_cons_zero, List.set_cons_succ]); refine wpAny_done (by kernel_rfl) ?_ _; refine NoPanic.normal ?_; go_wp2; go_meet; exact ⟨b9, m9, d9, HEND.out⟩
          case rest => as_aux_lemma =>
            obtain ⟨b9, m9, d9, HZ0, hm9⟩ := hcut; have HZ := Lib.hid HZ0; clear HZ0 y0 y1 y2; have hrr := HY.out.2.2.2; obtain ⟨y0, y1, y2, _⟩ := HZ.out.1
            have hcell : ∀ i v, (#[Value.int .u64 (P : Int), .int .i64 (m % 6), .int .i64 1, .bool ng, .slice ua un uc, .int .i64 exz])[i]? = some v → wc.cell? ⟨R, i, none⟩ = some v := fun i v h =>
              HZ.out.2.2.cell (HY.out.2.2.1.cell (HRl.out i v h) (fun h => h)) (fun hh => by
                have h1 := hh.1; have h2 := lt_of_cell (HRl.out i v h)
                omega)
            have z0 := hcell 0 _ rfl; have z1 := hcell 1 _ rfl; have z2 := hcell 2 _ rfl; have z3 := hcell 3 _ rfl; have z4 := hcell 4 _ rfl; have z5 := hcell 5 _ rfl
            have hRd : Rd wc ua un U := by
              refine rd_far (rd_far HU.out.1 HY.out.2.2.1 (fun _ _ _ _ _ h => h)) HZ.out.2.2 ?_; rintro b' o i e hi hh
              rcases HU.out.1 with h | ⟨b2, o2, e2, hw⟩
              · omega
              · rw [e2] at e
                injection e with e; injection e with e3 _; have h1 := hh.1; have h2 := lt_of_cell (hw i hi); omega
            have hRg := rounds_good P (m % 6) ng ua un uc U exz zac b9 m9 d9 QQ EE wc hRd HU.out.2.1 HU.out.2.2.1 HU.out.2.2.2 HZ.out.2.1 hm9 HEQ.out.2.2.1 (by omega) (by omega) (by have := HEQ.out.2.2.2; omega) (by omega) (fun qq kk acc hqq hss => by
              have hF := HG.out.1; have e1 : T.toNat = 0 := by omega
              have e2 : T = -(TM : Int) := by have := HTM.out.2; omega
              rw [e1, Int.pow_zero, Int.mul_one, HTM.out.1] at hF
              have hF2 : FVal v Y ng V (5 ^ TM) (sec - (TM : Int)) P (m % 6) := by
                have e3 : sec + T = sec - (TM : Int) := by omega
                rw [e3] at hF; exact hF
              rw [← HEQ.out.2.1] at hss; obtain ⟨u, u1, u2, u3, u4⟩ := Si.meets_neg hF2 hP1.1 HVp.out HG.out.2.1 hqq hss; have hx := HG.out.2.2.1; have htl := HG.out.2.2.2.2.2; have hee := HEQ.out.1
              exact ⟨u, u1, by rw [HG.out.2.2.2.2.1]; exact u2, by omega, by rw [← HG.out.2.2.2.1]; exact u4⟩)
            unfold realV Si.dyV at hRg; have HRg := Lib.hid hRg; clear hRg hcell hRd; go_wp2_with fail; refine HRg.out.mono ?_; rintro e w6 ⟨rfl, k6⟩; have HKF := Lib.hid (((HK4.out.trans HY.out.2.2.1 (fun _ _ _ h => h)).trans HZ.out.2.2 (fun b' o hb' hh => by have h1 := hh.1; have h2 := HK4.out.size; omega)).trans k6 (fun _ _ _ h => h)); clear k6; go_wp2; go_ret; exact ⟨rfl, HKF.out⟩
        · have d3 : decide (T < 0) = false := decide_eq_false hT0
          obtain ⟨y0, y1, y2, _⟩ := HY.out.1; have z0 := HY.out.2.2.1.cell (HRl.out 0 _ rfl) (fun h => h); have z1 := HY.out.2.2.1.cell (HRl.out 1 _ rfl) (fun h => h); have z2 := HY.out.2.2.1.cell (HRl.out 2 _ rfl) (fun h => h); have z3 := HY.out.2.2.1.cell (HRl.out 3 _ rfl) (fun h => h); have z4 := HY.out.2.2.1.cell (HRl.out 4 _ rfl) (fun h => h); have z5 := HY.out.2.2.1.cell (HRl.out 5 _ rfl) (fun h => h)
          have hRg := rounds_good P (m % 6) ng ua un uc U exz zac va vn vc (V * 10 ^ TN) sec wB (rd_far HU.out.1 HY.out.2.2.1 (fun _ _ _ _ _ h => h)) HU.out.2.1 HU.out.2.2.1 HU.out.2.2.2 HY.out.2.1 (by omega) HV0.out (by omega) (by omega) (by have := HP.out.2.2; omega) (by omega) (fun qq kk acc hqq hss => by
            have hF := HG.out.1; have e1 : (-T).toNat = 0 := by omega
            have e2 : T = (TN : Int) := by have := HTN.out; omega
            rw [e1, Int.pow_zero, HTN.out] at hF; have hF2 : FVal v Y ng (V * 5 ^ TN) 1 (sec + (TN : Int)) P (m % 6) := by rw [← e2]; exact hF
            obtain ⟨u, u1, u2, u3, u4⟩ := Si.meets_pos hF2 hP1.1 HG.out.2.1 hqq hss; have hx := HG.out.2.2.1; have htl := HG.out.2.2.2.2.2
            exact ⟨u, u1, by rw [HG.out.2.2.2.2.1]; exact u2, by omega, by rw [← HG.out.2.2.2.1]; exact u4⟩)
          unfold realV Si.dyV at hRg; have HRg := Lib.hid hRg; clear hRg; go_wp2_with fail; refine HRg.out.mono ?_; rintro e w6 ⟨rfl, k6⟩; have HKF := Lib.hid ((HK4.out.trans HY.out.2.2.1 (fun _ _ _ h => h)).trans k6 (fun _ _ _ h => h)); clear k6; go_wp2; go_ret; exact ⟨rfl, HKF.out⟩
  · have HKc := Lib.hid HC.out.2
    cases ok with
    | false =>
      go_wp2; go_ret; exact ⟨rfl, HKc.out⟩
    | true =>
      by_cases t1 : T < -27
      · have d1 : decide (T < -27) = true := decide_eq_true t1
        go_wp2; go_ret; exact ⟨rfl, HKc.out⟩
      · have t2 : 27 < T := by
          by_cases h : T ≤ 27
          · exact absurd ⟨rfl, by omega, h⟩ hgood
          · omega
        have d1 : decide (T < -27) = false := decide_eq_false t1; have d2 : decide (27 < T) = true := decide_eq_true t2; go_wp2; go_ret; exact ⟨rfl, HKc.out⟩
end Go.Proofs.YtmgfajamanakcaaGreatDoor
