/- Part of the proof of FnParse: what the functions that it reaches do, as contracts. Conditions: those that each theorem names. -/
import Derived.Test.YtmgfajamanakcaaGreatDoorR44
import Derived.Test.YtmgfajamanakcaaGreatDoorR52
import Derived.Test.YtmgfajamanakcaaGreatDoorR17
import Derived.Test.YtmgfajamanakcaaGreatDoorR05
import Derived.Test.YtmgfajamanakcaaGreatDoorR31
import Derived.Lib.ParseIntBTie
import Derived.Test.YtmgfajamanakcaaGreatDoorR06
import Derived.Outline
import Derived.Test.YtmgfajamanakcaaGreatDoorR32
import Derived.Test.YtmgfajamanakcaaGreatDoorR27
import Derived.Lib.TrailingZeros
namespace Go.Proofs.YtmgfajamanakcaaGreatDoor
set_option linter.unusedVariables false
set_option linter.unusedSimpArgs false
open Go.RowKit
set_option maxRecDepth 100000
structure RealC (w : World) (b : Nat) (p md fm : Int) (ng : Bool) (a : Option Addr) (n c : Nat) (e : Int) : Prop where
  p : w.cell? ⟨b, 0, none⟩ = some (.int .u64 p)
  md : w.cell? ⟨b, 1, none⟩ = some (.int .i64 md)
  fm : w.cell? ⟨b, 2, none⟩ = some (.int .i64 fm)
  ng : w.cell? ⟨b, 3, none⟩ = some (.bool ng)
  mt : w.cell? ⟨b, 4, none⟩ = some (.slice a n c)
  ex : w.cell? ⟨b, 5, none⟩ = some (.int .i64 e)
  pb : PB w b
theorem RealC.chg {Z : Zone} {w w' : World} {b : Nat} {p md fm : Int} {ng : Bool} {a : Option Addr} {n c : Nat} {e : Int} (h : RealC w b p md fm ng a n c e) (k : Chg Z w w') (hz : ∀ o, ¬ Z b o) : RealC w' b p md fm ng a n c e :=
  ⟨k.cell h.p (hz _), k.cell h.md (hz _), k.cell h.fm (hz _), k.cell h.ng (hz _), k.cell h.mt (hz _), k.cell h.ex (hz _), h.pb.chg k⟩
theorem newReal (w : World) (p md fm : Int) (ng : Bool) (a : Option Addr) (n c : Nat) (e : Int) : RealC (w.alloc (.cells #[.int .u64 p, .int .i64 md, .int .i64 fm, .bool ng, .slice a n c, .int .i64 e] 25)) w.heap.size p md fm ng a n c e :=
  ⟨cell?_alloc_new w _ 25 0 _ rfl, cell?_alloc_new w _ 25 1 _ rfl, cell?_alloc_new w _ 25 2 _ rfl, cell?_alloc_new w _ 25 3 _ rfl, cell?_alloc_new w _ 25 4 _ rfl, cell?_alloc_new w _ 25 5 _ rfl, PB.new w _ _⟩
theorem RealC.set245 {w : World} {b : Nat} {p md fm : Int} {ng : Bool} {a : Option Addr} {n c : Nat} {e : Int} (h : RealC w b p md fm ng a n c e) (fm' : Int) (a' : Option Addr) (n' c' : Nat) (e' : Int) :
    RealC (((w.setCell ⟨b, 2, none⟩ (.int .i64 fm')).setCell ⟨b, 4, none⟩ (.slice a' n' c')).setCell ⟨b, 5, none⟩ (.int .i64 e')) b p md fm' ng a' n' c' e' := by
  obtain ⟨h0, h1, h2, h3, h4, h5, hp⟩ := h; refine ⟨?_, ?_, ?_, ?_, ?_, cs_same (u := .int .i64 e) ?_, ((hp.chg (chg_cell _ _ _ _)).chg (chg_cell _ _ _ _)).chg (chg_cell _ _ _ _)⟩
  · rw [cs_other (by omega), cs_other (by omega), cs_other (by omega)]; exact h0
  · rw [cs_other (by omega), cs_other (by omega), cs_other (by omega)]; exact h1
  · rw [cs_other (by omega), cs_other (by omega)]; exact cs_same h2
  · rw [cs_other (by omega), cs_other (by omega), cs_other (by omega)]; exact h3
  · rw [cs_other (by omega)]; exact cs_same (u := .slice a n c) (by rw [cs_other (by omega)]; exact h4)
  · rw [cs_other (by omega), cs_other (by omega)]; exact h5
theorem six_row (w' : World) (b : Nat) (v0 v1 v2 v3 v4 v5 : Value) :
    Chg (zRow b 0 6) w' ((((((w'.setCell ⟨b, 0, none⟩ v0).setCell ⟨b, 1, none⟩ v1).setCell ⟨b, 2, none⟩ v2).setCell ⟨b, 3, none⟩ v3).setCell ⟨b, 4, none⟩ v4).setCell ⟨b, 5, none⟩ v5) :=
  ((((((Chg.refl _ _).setCell b 0 _ (fun _ => ⟨rfl, by omega, by omega⟩)).setCell b 1 _ (fun _ => ⟨rfl, by omega, by omega⟩)).setCell b 2 _ (fun _ => ⟨rfl, by omega, by omega⟩)).setCell b 3 _ (fun _ => ⟨rfl, by omega, by omega⟩)).setCell b 4 _ (fun _ => ⟨rfl, by omega, by omega⟩)).setCell b 5 _ (fun _ => ⟨rfl, by omega, by omega⟩)
theorem RealC.six {w : World} {b : Nat} {p md fm : Int} {ng : Bool} {a : Option Addr} {n c : Nat} {e : Int} (h : RealC w b p md fm ng a n c e) (p' md' fm' : Int) (ng' : Bool) (a' : Option Addr) (n' c' : Nat) (e' : Int) :
    RealC ((((((w.setCell ⟨b, 0, none⟩ (.int .u64 p')).setCell ⟨b, 1, none⟩ (.int .i64 md')).setCell ⟨b, 2, none⟩ (.int .i64 fm')).setCell ⟨b, 3, none⟩ (.bool ng')).setCell ⟨b, 4, none⟩ (.slice a' n' c')).setCell ⟨b, 5, none⟩ (.int .i64 e')) b p' md' fm' ng' a' n' c' e' := by
  obtain ⟨h0, h1, h2, h3, h4, h5, hp⟩ := h; refine ⟨?_, ?_, ?_, ?_, ?_, ?_, hp.chg (six_row w b _ _ _ _ _ _)⟩
  · rw [cs_other (by omega), cs_other (by omega), cs_other (by omega), cs_other (by omega), cs_other (by omega)]; exact cs_same (u := .int .u64 p) h0
  · rw [cs_other (by omega), cs_other (by omega), cs_other (by omega), cs_other (by omega)]; exact cs_same (u := .int .i64 md) (by rw [cs_other (by omega)]; exact h1)
  · rw [cs_other (by omega), cs_other (by omega), cs_other (by omega)]; exact cs_same (u := .int .i64 fm) (by rw [cs_other (by omega), cs_other (by omega)]; exact h2)
  · rw [cs_other (by omega), cs_other (by omega)]; exact cs_same (u := .bool ng) (by rw [cs_other (by omega), cs_other (by omega), cs_other (by omega)]; exact h3)
  · rw [cs_other (by omega)]; exact cs_same (u := .slice a n c) (by rw [cs_other (by omega), cs_other (by omega), cs_other (by omega), cs_other (by omega)]; exact h4)
  · exact cs_same (u := .int .i64 e) (by rw [cs_other (by omega), cs_other (by omega), cs_other (by omega), cs_other (by omega), cs_other (by omega)]; exact h5)
theorem res64 {tmps : Array Value} {w : World} {b : Nat} {p md fm : Int} {ng : Bool} {a : Option Addr} {n c : Nat} {e : Int} (h : RealC w b p md fm ng a n c e) (ht : tmps.getD 2 undef = .pointer (some ⟨b, 0, none⟩)) :
    (results Tryz.f64 tmps).run Tryz.prog w = .ok (.agg #[.int .u64 p, .int .i64 md, .int .i64 fm, .bool ng, .slice a n c, .int .i64 e]) w := by
  obtain ⟨h0, h1, h2, h3, h4, h5, hp⟩ := h; have ht' : tmps[2]?.getD undef = .pointer (some ⟨b, 0, none⟩) := by simpa using ht
  simp [results, Tryz.results64, go_sem, ht', h0, h1, h2, h3, h4, h5]
def RealHead (w : World) (xb : Nat) (v : FV) (X : Nat → Int) (s3 : Value) (wc : World) : Prop :=
  ∃ b3, s3 = .pointer (some ⟨b3, 0, none⟩) ∧ Hid (w.heap.size < b3 ∧ RealC wc w.heap.size 0 0 0 false none 0 0 0 ∧ RealC wc b3 v.p v.md 0 v.ng none 0 0 0 ∧ Chg zNone w wc)
theorem FNum.noap {w : World} {b zb : Nat} {v : FV} {X : Nat → Int} (h : FNum w b v X) (hz : w.heap.size ≤ zb) : ∀ o, v.a ≠ some ⟨zb, o, none⟩ := fun o e => by
  rcases h.z with ⟨e1, _⟩ | ⟨b', o', e1, hb, _⟩
  · rw [e1] at e; cases e
  · rw [e1] at e; injection e with e; injection e with e2 _
    have := hb.lt; omega
theorem real_head_ok (w : World) (p md : Int) (ng : Bool) : RealC ((w.alloc (.cells #[.int .u64 0, .int .i64 0, .int .i64 0, .bool false, .slice none 0 0, .int .i64 0] 25)).alloc (.cells #[.int .u64 p, .int .i64 md, .int .i64 0, .bool ng, .slice none 0 0, .int .i64 0] 25)) w.heap.size 0 0 0 false none 0 0 0 ∧
    RealC ((w.alloc (.cells #[.int .u64 0, .int .i64 0, .int .i64 0, .bool false, .slice none 0 0, .int .i64 0] 25)).alloc (.cells #[.int .u64 p, .int .i64 md, .int .i64 0, .bool ng, .slice none 0 0, .int .i64 0] 25)) (w.heap.size + 1) p md 0 ng none 0 0 0 ∧
    Chg zNone w ((w.alloc (.cells #[.int .u64 0, .int .i64 0, .int .i64 0, .bool false, .slice none 0 0, .int .i64 0] 25)).alloc (.cells #[.int .u64 p, .int .i64 md, .int .i64 0, .bool ng, .slice none 0 0, .int .i64 0] 25)) := by
  have h1 := newReal w 0 0 0 false none 0 0 0; have k1 : Chg zNone w (w.alloc (.cells #[.int .u64 0, .int .i64 0, .int .i64 0, .bool false, .slice none 0 0, .int .i64 0] 25)) := (Chg.refl _ _).alloc _
  have hsz : (w.alloc (.cells #[.int .u64 0, .int .i64 0, .int .i64 0, .bool false, .slice none 0 0, .int .i64 0] 25)).heap.size = w.heap.size + 1 := by
    show (w.heap.push _).size = _
    simp
  obtain ⟨W, hW⟩ : ∃ W, W = w.alloc (.cells #[.int .u64 0, .int .i64 0, .int .i64 0, .bool false, .slice none 0 0, .int .i64 0] 25) := ⟨_, rfl⟩; rw [← hW] at h1 k1 hsz ⊢; have h2 := newReal W p md 0 ng none 0 0 0; have k2 : Chg zNone W (W.alloc (.cells #[.int .u64 p, .int .i64 md, .int .i64 0, .bool ng, .slice none 0 0, .int .i64 0] 25)) := (Chg.refl _ _).alloc _; rw [hsz] at h2; exact ⟨h1.chg k2 (fun _ h => h), h2, k1.trans k2 (fun _ _ _ h => h)⟩
theorem flt_new_lt (w : World) : w.heap.size < (w.alloc (.cells #[.int .u32 0, .int .u8 0, .int .i8 0, .int .u8 0, .bool false, .slice none 0 0, .int .i32 0] 136)).heap.size := by
  show _ < (w.heap.push _).size
  simp
theorem sme_fits {w w' : World} {zb P t m : Nat} {v : FV} {X : Nat → Int} (h : FNum w zb v X) (hf : v.fm = 1) (he : v.e = 0) (hP : 1 ≤ P) (hP2 : P ≤ 512) (hn : 64 * v.n ≤ P + 63) (hfit : val X v.n % 2 ^ (64 * v.n - P) = 0) (ht : LowZ (val X v.n) t) (hm : 64 * v.n - t = m) (h1 : 1 ≤ m)
    (hS : SERPost w zb v X (v.e + m) false P w') : ∃ v' Y t', FNum w' zb v' Y ∧ v'.fm = 1 ∧ v'.ng = v.ng ∧ v'.e = (m : Int) ∧ m ≤ 64 * v'.n ∧ LowZ (val Y v'.n) t' ∧ val Y v'.n / 2 ^ (64 * v'.n - m) = val X v.n / 2 ^ t ∧ Chg (zF zb v) w w' := by
  obtain ⟨f1, f2, f3, f4, f5, f6⟩ := h.fin hf; obtain ⟨x1, x2⟩ := val_ge_top f5 f1 f6; obtain ⟨v', Y, hA⟩ := ser_all hS ⟨f1, f2, f3, f4, f5, f6⟩ hP; have hF := hA.vl (by omega) (by omega) (val X v.n) 1 (by decide) (by rw [Int.ediv_one]) (by simp [Int.emod_one]) (fun _ => Int.emod_one _); obtain ⟨g1, g2, g3⟩ := hF.exact hP (by omega) x1 x2 hfit; obtain ⟨k1, k2, k3, k4, k5, k6⟩ := hA.new.num.fin g1; obtain ⟨y1, y2⟩ := val_ge_top k5 k1 k6
  have hpos : (0 : Int) < val Y v'.n := by
    have : (0 : Int) < 2 ^ (64 * v'.n - 1) := Int.pow_pos (by decide); omega
  have ht1 := dy_top (by omega) (by omega) y1 y2 x1 x2 g3; have hem : v'.e = (m : Int) := by push_cast at ht1; omega
  have htl : t < 64 * v.n := by omega
  have hD : DyEq (val Y v'.n) (((64 * v.n : Nat) : Int) - ((64 * v'.n : Nat) : Int)) (val X v.n) 0 := by
    obtain ⟨a, b, e1, e2⟩ := g3; exact ⟨a, b, by push_cast; omega, e2⟩
  obtain ⟨l1, l2⟩ := low_same hpos ht (by omega) hD; obtain ⟨t', ht'⟩ := lowz_ex hpos; refine ⟨v', Y, t', hA.new.num, g1, hA.ng, hem, by omega, ht', ?_, hA.new.chg⟩; rw [← l2, show 64 * v'.n + t - 64 * v.n = 64 * v'.n - m by omega]
set_option maxHeartbeats 8000000 in
theorem real_fin (xb t P : Nat) (v : FV) (X : Nat → Int) (w : World) (h : FNum w xb v X) (hf : v.fm = 1) (hp : v.p = (P : Int)) (hfit : val X v.n % 2 ^ (64 * v.n - P) = 0) (hn : 64 * v.n ≤ P + 63) (hP : P ≤ 512) (ht : LowZ (val X v.n) t) (hT : DeB w) (hex : -1099511627776 ≤ v.e ∧ v.e ≤ 1099511627776) :
    Calls Tryz.prog 64 #[.pointer (some ⟨xb, 0, none⟩)] w fun e w' => ∃ a n c Y, e = .returned (.agg #[.int .u64 v.p, .int .i64 v.md, .int .i64 1, .bool v.ng, .slice a n c, .int .i64 (v.e - (64 * v.n - t : Nat))]) ∧ n ≤ c ∧ ZOK w' a c ∧ Rd w' a n Y ∧ WF Y n ∧ Norm Y n ∧ val Y n = val X v.n / 2 ^ t ∧ Fresh w a ∧ Chg zNone w w' := by
  have kal : Chg zNone w (w.alloc (.cells #[.int .u64 0, .int .i64 0, .int .i64 0, .bool false, .slice none 0 0, .int .i64 0] 25)) := (Chg.refl _ _).alloc _; have hC := h.c.chg kal (fun _ _ h => h); have hpp := h.p; have hmd := h.md
  have htl : t < 64 * v.n := by
    obtain ⟨f1, f2, f3, f4, f5, f6⟩ := h.fin hf; have hv := val_ge_top f5 f1 f6; exact ht.lt (by have : (0 : Int) < 2 ^ (64 * v.n - 1) := Int.pow_pos (by decide); omega) hv.2
  have HP := Lib.hid (Prec_any xb v _ hC (by omega)); have HM := Lib.hid (Mode_any xb v _ hC); have HS := Lib.hid (Signbit_any xb v _ hC); have HK := Lib.hid kal; have w0 : IntKind.i64.wrap v.md = v.md := IntWalk.i64_in _ (by omega); obtain ⟨m, hm⟩ : ∃ m, 64 * v.n - t = m := ⟨_, rfl⟩; rw [hm]; have hm1 : 1 ≤ m := by omega
  have hm2 : m ≤ 1024 := by omega
  have H := Lib.hid (And.intro h (And.intro hf (And.intro hp (And.intro hfit (And.intro hn (And.intro ht (And.intro hT (And.intro hm hP)))))))); have hlx := h.c.lt; have d1 : (v.fm == 2) = false := by rw [hf]; rfl
  have hP1 : 1 ≤ P := by omega
  clear kal hC h hf hp hfit hn ht hT hm htl
  go_enter Tryz.func64, Tryz.ntmps64
  go_upto_region 1 with fail; go_cut [3] (RealHead w xb v X)
  case first => as_aux_lemma =>
    go_wp2_with fail; refine HP.out.mono ?_; rintro e w1 ⟨rfl, rfl⟩; go_wp2_with fail; refine HM.out.mono ?_; rintro e w1 ⟨rfl, rfl⟩; go_wp2_with fail; refine HS.out.mono ?_; rintro e w1 ⟨rfl, rfl⟩; go_wp2; go_meet; obtain ⟨g1, g2, g3⟩ := real_head_ok w v.p v.md v.ng; refine ⟨w.heap.size + 1, rfl, ?_⟩; exact ⟨Nat.lt_succ_self _, g1, g2, g3⟩
  case rest => as_aux_lemma =>
    obtain ⟨b3, rfl, HH⟩ := hcut; have hx := H.out.1.chg HH.out.2.2.2 (fun _ _ _ h => h); have HI := Lib.hid (IsInf_any xb v wc hx.c); have HSg := Lib.hid (FSign_any xb v wc hx.c); rw [d1] at HI
    obtain ⟨sg, hsg, hsg0⟩ : ∃ sg : Int, (if v.fm = 0 then (0 : Int) else if v.ng = true then -1 else 1) = sg ∧ (sg != 0) = true := by
      refine ⟨_, rfl, ?_⟩; rw [if_neg (by rw [H.out.2.1]; decide)]
      split <;> rfl
    rw [hsg] at HSg; clear hsg; have kA : Chg zNone wc (wc.alloc (.cells #[.int .u32 0, .int .u8 0, .int .i8 0, .int .u8 0, .bool false, .slice none 0 0, .int .i32 0] 136)) := (Chg.refl _ _).alloc _; have hlc : xb < wc.heap.size := hx.c.lt; have HMn := Lib.hid (MantExp_any wc.heap.size xb v _ X _ (hx.chg kA (fun _ _ _ h => h)) H.out.2.1 (newFlt wc 136) ⟨rfl, rfl, rfl⟩ (by omega) (hx.noap (Nat.le_refl _))); have HX := Lib.hid (And.intro hx kA); have HLT := Lib.hid (flt_new_lt wc); clear hx kA HP HM HS HK; go_wp2_with fail; refine HI.out.mono ?_; rintro e w1 ⟨rfl, rfl⟩; go_wp2_with fail; refine HSg.out.mono ?_; rintro e w1 ⟨rfl, rfl⟩; go_wp2_with fail; refine HMn.out.mono ?_; rintro e w2 ⟨rfl, b, o, c', hb, g1, g2⟩; have k2 : Chg zNone wc w2 := HX.out.2.trans g2 (fun b o hb hh => by have := hh.1; omega); have hx2 := HX.out.1.chg k2 (fun _ _ _ h => h); have hT2 : DeB w2 := fun j hj => k2.cell (HH.out.2.2.2.cell (H.out.2.2.2.2.2.2.1 j hj) (fun h => h)) (fun h => h)
    have HMP := Lib.hid (MinPrec_any xb t v X w2 hx2 H.out.2.1 H.out.2.2.2.2.2.1 hT2); rw [H.out.2.2.2.2.2.2.2.1] at HMP; have HG := Lib.hid (And.intro g1 (And.intro k2 hT2)); have hl2 : wc.heap.size < w2.heap.size := by have := g2.size; have := HLT.out; omega
    clear hb g1 g2 k2 hx2 hT2; go_wp2_with fail; refine HMP.out.mono ?_; rintro e w3 ⟨rfl, _, k3⟩; have wm : IntKind.i64.wrap (m : Int) = (m : Int) := IntWalk.i64_in _ (by omega); have g3 := HG.out.1.chg k3 (fun _ _ _ h => h); have kB : Chg zNone w3 (w3.alloc (.cells #[.int .u32 0, .int .u8 0, .int .i8 0, .int .u8 0, .bool false, .slice none 0 0, .int .i32 0] 136)) := (Chg.refl _ _).alloc _; have hl3 : wc.heap.size < w3.heap.size := by have := k3.size; omega
    have HSM := Lib.hid (SetMantExp_any w3.heap.size wc.heap.size P _ _ X (m : Int) _ (g3.chg kB (fun _ _ _ h => h)) H.out.2.1 H.out.2.2.1 (newFlt w3 136) ⟨rfl, rfl, rfl⟩ (by omega) (g3.noap (Nat.le_refl _)) (by omega)); have HB := Lib.hid (And.intro (HG.out.2.1.trans k3 (fun _ _ _ h => h)) (And.intro kB (show DeB w3 from fun j hj => k3.cell (HG.out.2.2 j hj) (fun h => h)))); have HLT3 := Lib.hid (flt_new_lt w3); clear k3 g3 kB; go_wp2_with fail; refine HSM.out.mono ?_; rintro e w4 ⟨rfl, wq, b', o', c2, hb', q1, q2, q3⟩; obtain ⟨_, hf, hp, hfit, hn, ht, hT, hm, hPP⟩ := H.out; obtain ⟨v5, Y, t', s1, s2, s3, s4, s5, s6, s7, s8⟩ := sme_fits (t := t) q1 hf rfl hP1 hPP hn hfit ht hm hm1 q3; have kq : Chg zNone w3 wq := HB.out.2.1.trans q2 (fun b o hb hh => by have := hh.1; omega)
    have kw : Chg zNone w3 w4 := kq.trans s8 (fun b o hb hh => by
      rcases hh with hh | ⟨po, e, _⟩
      · have := hh.1; omega
      · injection e with e; injection e with e1 e2
        have h1 := HLT3.out
        omega)
    have HFI := Lib.hid (FInt_any w3.heap.size t' m v5 Y w4 s1 s2 s4 hm1 s5 s6 (fun j hj => kw.cell (HB.out.2.2 j hj) (fun h => h))); rw [s7] at HFI; have HW := Lib.hid (HB.out.1.trans kw (fun _ _ _ h => h)); clear q1 q2 q3 s1 s2 s3 s4 s5 s6 s7 s8 kq kw hb' hf hp hfit hn ht hT hm hPP; go_wp2_with fail; refine HFI.out.mono ?_; rintro e w5 ⟨ac5, rfl, ⟨a6, n6, c6, Y6, i1, i2, i3, i4, i5, i6, i7⟩, k5⟩
    have hn6 : n6 ≤ v.n := words_few i5 i6 (by
      rw [i7]; obtain ⟨f1, f2, f3, f4, f5, f6⟩ := H.out.1.fin H.out.2.1; have hv := val_ge_top f5 f1 f6; have hp0 : (0 : Int) < 2 ^ t := Int.pow_pos (by decide); have h0 : (0 : Int) ≤ val X v.n := val_nonneg f5; have h1 := Int.ediv_le_self (2 ^ t) h0
      omega)
    have hnv : v.n < 65536 := (H.out.1.fin H.out.2.1).2.2.1; have HWd := Lib.hid (wordsOf_any w4.heap.size 0 _ a6 n6 c6 Y6 w5 i1 i4 (by omega)); have HI5 := Lib.hid (And.intro i5 (And.intro i6 (And.intro i7 (HW.out.trans k5 (fun _ _ _ h => h))))); clear i1 i2 i3 i4 i5 i6 i7 k5; go_wp2_with fail; refine HWd.out.mono ?_; rintro e w6 ⟨a7, c7, rfl, j1, j2, j3, j4, j5⟩; have k6 : Chg zNone wc w6 := HI5.out.2.2.2.trans j5 (fun _ _ _ h => h); have hR6 := HH.out.2.2.1.chg k6 (fun _ h => h); have hT6 := HH.out.2.1.chg k6 (fun _ h => h); have hb3 := HH.out.1; have hne3 : b3 ≠ w.heap.size := by omega
    have r2z := hR6.pb.fz 2; have r4z := hR6.pb.fz 4; have r5z := hR6.pb.fz 5; have r2 := hR6.fm; have r4 := hR6.mt; have r5 := hR6.ex; have we : IntKind.i64.wrap (v.e - (m : Int)) = v.e - (m : Int) := IntWalk.i64_in _ (by omega); have HJ := Lib.hid (And.intro j1 (And.intro j2 (And.intro j3 (And.intro j4 (And.intro j5 k6))))); have HRT := Lib.hid (And.intro hR6 hT6); clear j1 j2 j3 j4 j5 k6 hR6 hT6; go_upto_region 10 with fail; obtain ⟨W7, hW7⟩ : ∃ W, W = ((w6.setCell ⟨b3, 2, none⟩ (.int .i64 1)).setCell ⟨b3, 4, none⟩ (.slice a7 n6 c7)).setCell ⟨b3, 5, none⟩ (.int .i64 (v.e - (m : Int))) := ⟨_, rfl⟩
    have kW7 : Chg (zRow b3 0 6) w6 W7 := by
      rw [hW7]; exact (((Chg.refl _ _).setCell b3 2 _ (fun _ => ⟨rfl, by omega, by omega⟩)).setCell b3 4 _ (fun _ => ⟨rfl, by omega, by omega⟩)).setCell b3 5 _ (fun _ => ⟨rfl, by omega, by omega⟩)
    have hR7 : RealC W7 b3 v.p v.md 1 v.ng a7 n6 c7 (v.e - (m : Int)) := by
      rw [hW7]; exact (HRT.out.1.set245 1 a7 n6 c7 (v.e - (m : Int)))
    have hT7 := HRT.out.2.chg kW7 (fun o hh => hne3 hh.1.symm); rw [← hW7]; clear r2 r4 r5 r2z r4z r5z hW7; obtain ⟨r0, r1, r2, r3, r4, r5, rp⟩ := hR7; obtain ⟨t0, t1, t2, t3, t4, t5, tp⟩ := hT7; have t0z := tp.fz 0; have t1z := tp.fz 1; have t2z := tp.fz 2; have t3z := tp.fz 3; have t4z := tp.fz 4; have t5z := tp.fz 5; have HKW := Lib.hid kW7; have HTP := Lib.hid (show RealC W7 w.heap.size 0 0 0 false none 0 0 0 from ⟨t0, t1, t2, t3, t4, t5, tp⟩); clear rp tp kW7; go_wp2; refine bodyPost_ret (v := .agg #[.int .u64 v.p, .int .i64 v.md, .int .i64 1, .bool v.ng, .slice a7 n6 c7, .int .i64 (v.e - (m : Int))]) (res64 (HTP.out.six _ _ _ _ _ _ _ _) rfl) rfl ?_; obtain ⟨j1, j2, j3, j4, j5, k6⟩ := HJ.out; obtain ⟨g1, g2, g3, g4⟩ := HI5.out; have kF0 := six_row W7 w.heap.size (.int .u64 v.p) (.int .i64 v.md) (.int .i64 1) (.bool v.ng) (.slice a7 n6 c7) (.int .i64 (v.e - (m : Int))); have kF : Chg (zOr (zRow b3 0 6) (zRow w.heap.size 0 6)) w6 _ := (HKW.out.mono (fun _ _ _ h => Or.inl h)).trans kF0 (fun _ _ _ h => Or.inr h); clear kF0; have hb3c : b3 < wc.heap.size := HH.out.2.2.1.pb.lt; have hwc : w.heap.size < wc.heap.size := HH.out.2.1.pb.lt; have h5 : wc.heap.size ≤ w5.heap.size := g4.size
    have hfar : ∀ b o, a7 = some ⟨b, o, none⟩ → b ≠ b3 ∧ b ≠ w.heap.size := by
      intro b o e
      rcases j3 with e1 | ⟨b2, o2, e1, hb⟩
      · rw [e1] at e; cases e
      · rw [e1] at e; injection e with e; injection e with e2 _
        omega
    have hz7 : ∀ b o, zAddr a7 c7 b o → ¬ zOr (zRow b3 0 6) (zRow w.heap.size 0 6) b o := by
      rintro b o ⟨po, e, _⟩ hh; obtain ⟨q1, q2⟩ := hfar b po e
      rcases hh with hh | hh
      · exact q1 hh.1
      · exact q2 hh.1
    refine ⟨a7, n6, c7, Y6, rfl, j1, j2.chg kF hz7, ?_, g1, g2, g3, ?_, (HH.out.2.2.2.trans k6 (fun _ _ _ h => h)).trans kF (fun b o hb hh => ?_)⟩
    · rcases j4 with j4 | ⟨b, o, e, hw⟩
      · exact Or.inl j4
      · exact Or.inr ⟨b, o, e, hw.chg kF (fun i hi hh => by
          obtain ⟨q1, q2⟩ := hfar b o e
          rcases hh with hh | hh
          · exact q1 hh.1
          · exact q2 hh.1)⟩
    · rcases j3 with e1 | ⟨b2, o2, e1, hb⟩
      · exact Or.inl e1
      · exact Or.inr ⟨b2, o2, e1, by omega⟩
    · rcases hh with hh | hh
      · have := hh.1; omega
      · have := hh.1; omega
theorem runF_run {b0 : Bool} {b : Int} {s : ByteArray} (hb : 2 ≤ b) : ∀ (k p : Nat) (st : SS), k ≤ s.size - p → RunOK b s p st → RunOK b s (runF b0 b s k p st).1 (runF b0 b s k p st).2
  | 0, p, st, _, h => h
  | k + 1, p, st, hk, h => by
    unfold runF
    cases e : stepS b0 b st (byteAt s p) with
    | none => exact h
    | some st' => exact runF_run hb k (p + 1) st' (by omega) (h.step hb (by omega) e)
theorem lastS_run {base : Int} {frac : Bool} {s : ByteArray} {p : Nat} (hp : p ≤ s.size) (hbase : base = 0 ∨ base = 2 ∨ base = 8 ∨ base = 10 ∨ base = 16) : RunOK (preS base frac s p).b s (lastS base frac s p).1 (lastS base frac s p).2 := by
  have hb := preS_b (frac := frac) (s := s) (p := p) hbase
  exact runF_run (by omega) _ _ _ (Nat.le_refl _) (preS_run hp hbase)
theorem scanS_size {base : Int} {s : ByteArray} {p : Nat} (hp : p ≤ s.size) (hbase : base = 0 ∨ base = 2 ∨ base = 8 ∨ base = 10 ∨ base = 16) :
    0 ≤ (scanS base true s p).V ∧ (scanS base true s p).V < 16 ^ s.size ∧ -(s.size : Int) - 1 ≤ (scanS base true s p).cnt ∧ (scanS base true s p).cnt ≤ s.size + 1 ∧ ((scanS base true s p).b = 2 ∨ (scanS base true s p).b = 8 ∨ (scanS base true s p).b = 10 ∨ (scanS base true s p).b = 16) := by
  have hb := preS_b (frac := true) (s := s) (p := p) hbase
  obtain ⟨h1, h2, h3, h4, h5⟩ := lastS_run (frac := true) hp hbase
  have hpow : ∀ (b : Int) (c : Nat), 2 ≤ b → b ≤ 16 → c ≤ s.size → b ^ c ≤ 16 ^ s.size := by
    intro b c g1 g2 g3
    have e1 : b ^ c ≤ 16 ^ c := by
      clear g3
      induction c with
      | zero => simp
      | succ c ih =>
        rw [Int.pow_succ, Int.pow_succ]
        exact Int.mul_le_mul ih g2 (by omega) (Int.pow_nonneg (by omega))
    exact Int.le_trans e1 (ipow_le (by omega) g3)
  have h6 := hpow (preS base true s p).b (lastS base true s p).2.cnt (by omega) (by omega) (by omega)
  have h7 : (0 : Int) < 16 ^ s.size := Int.pow_pos (by omega)
  unfold scanS
  generalize lastS base true s p = L at *
  obtain ⟨q, st⟩ := L
  simp only at *
  split
  · simp only
    exact ⟨Int.le_refl _, h7, by omega, by omega, by simp⟩
  · simp only
    refine ⟨h3, by omega, ?_, ?_, hb⟩
    · split <;> omega
    · split <;> omega
theorem endE_b {b : Int} {q : Nat} {st : ES} : (endE b q st).b = b ∧ -9223372036854775808 ≤ (endE b q st).v ∧ (endE b q st).v < 9223372036854775808 := by
  unfold endE
  split
  · exact ⟨rfl, by simp only; omega, by simp only; omega⟩
  · split
    · rename_i v h
      have := Lib.parseIntB_bounds h
      refine ⟨rfl, ?_, ?_⟩
      · simp only; omega
      · simp only; omega
    · exact ⟨rfl, by simp only; omega, by simp only; omega⟩
theorem scanE_b {sep : Bool} {s : ByteArray} {p : Nat} : ((scanE sep s p).b = 2 ∨ (scanE sep s p).b = 10) ∧ -9223372036854775808 ≤ (scanE sep s p).v ∧ (scanE sep s p).v < 9223372036854775808 := by
  unfold scanE
  split
  · cases hb : expBase (byteAt s p) with
    | none => exact ⟨Or.inr rfl, by simp only; omega, by simp only; omega⟩
    | some b =>
      have h := endE_b (b := b) (q := (runX sep s (expSign s (p + 1)).1 ⟨46, false, false, (expSign s (p + 1)).2⟩).1) (st := (runX sep s (expSign s (p + 1)).1 ⟨46, false, false, (expSign s (p + 1)).2⟩).2)
      simp only
      rw [h.1]
      refine ⟨?_, h.2⟩
      unfold expBase at hb
      split at hb
      · injection hb with hb; omega
      · split at hb
        · injection hb with hb; omega
        · cases hb
  · exact ⟨Or.inr rfl, by simp only; omega, by simp only; omega⟩
def digBits (b : Int) : Int := if b = 8 then 3 else if b = 16 then 4 else 1
def x2of (sc : Scan) (ex : EScan) : Int := (if sc.cnt < 0 then sc.cnt * digBits sc.b else 0) + ex.v
def x5of (sc : Scan) (ex : EScan) : Int := (if sc.cnt < 0 ∧ sc.b = 10 then sc.cnt else 0) + (if ex.b = 10 then ex.v else 0)
theorem eof_neq (a : Addr) (w : World) : (binOp .neq 110 (.iface 229 (.pointer (some a))) (.iface 229 (.pointer (some a)))).run Tryz.prog w = .ok (.bool false) w := by
  obtain ⟨i, hi⟩ := Option.isSome_iff_exists.1 info231
  have h := info229
  cases hj : Tryz.prog.info? 229 with
  | none => rw [hj] at h; cases h
  | some j =>
    rw [hj] at h
    have key := run_equalIn_iface_ptr_same (P := Tryz.prog) w 9998 a Tryz.underlying110 Tryz.underlying229 hj (by simpa using h) hi
    simp only [binOp]
    simp [Op.equal, Op.maxDepth, key]
theorem nil_neq (a : Addr) (w : World) : (binOp .neq 110 .nilIface (.iface 229 (.pointer (some a)))).run Tryz.prog w = .ok (.bool true) w := by
  have h : ∀ d : Nat, (Op.equalIn (d + 1) 110 .nilIface (.iface 229 (.pointer (some a)))).run Tryz.prog w = .ok false w := fun d => by simp [Op.equalIn, run_underlying Tryz.underlying110]
  simp only [binOp]
  simp [Op.equal, Op.maxDepth, h 9999]
theorem Got.base {w0 w1 w : World} {a : Option Addr} {n c : Nat} {V : Int} (h : Got w1 w a n c V) (hw : w0.heap.size ≤ w1.heap.size) : Got w0 w a n c V := by
  obtain ⟨h1, h2, h3, h4, h5⟩ := h
  refine ⟨h1, h2, h3, ?_, h5⟩
  rcases h4 with h4 | ⟨b, o, e, hb⟩
  · exact Or.inl h4
  · exact Or.inr ⟨b, o, e, by omega⟩
def zIS (br zb zo : Nat) : Zone := zOr (zRow br 1 2) (zRow zb zo 2)
theorem Chg.sign {w w' : World} {br zb zo : Nat} (h : Chg (zIS br zb zo) w w') (v : Value) : Chg (zIS br zb zo) w (w'.setCell ⟨zb, zo, none⟩ v) := h.setCell zb zo v (fun _ => Or.inr ⟨rfl, by omega, by omega⟩)
theorem Chg.abs {w w' : World} {br zb zo : Nat} (h : Chg (zIS br zb zo) w w') (v : Value) : Chg (zIS br zb zo) w (w'.setCell ⟨zb, zo + 1, none⟩ v) := h.setCell zb (zo + 1) v (fun _ => Or.inr ⟨rfl, by omega, by omega⟩)
theorem Got.cell {w0 w : World} {a : Option Addr} {n c : Nat} {V : Int} (h : Got w0 w a n c V) (b o : Nat) (v : Value) (hb : b < w0.heap.size) : Got w0 (w.setCell ⟨b, o, none⟩ v) a n c V :=
  h.chg (chg_cell w b o v) (fun b' o' hz hh => by
    have := h.2.2.2.1.zone (c := c) b' o' (by rw [hh.1]; exact hb)
    exact this hz)
theorem signAt_le {s : ByteArray} {p : Nat} (hp : p < s.size) : (signAt s p).2 ≤ s.size := by
  unfold signAt
  split
  · simp only; omega
  · split <;> (simp only; omega)
theorem Errs.far {Z : Zone} {w w' : World} {eof e1 e2 : Value} (h : Errs w eof e1 e2) (k : Chg Z w w') (hz : ∀ b, b < 14 → ¬ Z b 0) : Errs w' eof e1 e2 := ⟨k.cell h.eof (hz _ (by omega)), k.cell h.sep (hz _ (by omega)), k.cell h.dig (hz _ (by omega))⟩
theorem PErrs.far {Z : Zone} {w w' : World} (h : PErrs w) (k : Chg Z w w') (hz : ∀ b, b < 14 → ¬ Z b 0) : PErrs w' := by
  obtain ⟨⟨a, h1, h2⟩, ⟨b, h3, h4⟩⟩ := h
  exact ⟨⟨a, k.cell h1 (hz _ (by omega)), h2⟩, ⟨b, k.cell h3 (hz _ (by omega)), h4⟩⟩
theorem runE_ok {sep : Bool} {s : ByteArray} : ∀ (k p : Nat) (st : ES), p ≤ (runE sep s k p st).1 ∧ (runE sep s k p st).1 ≤ p + k ∧ ∀ i, p ≤ i → i < (runE sep s k p st).1 → okB (byteAt s i)
  | 0, p, st => ⟨Nat.le_refl _, Nat.le_refl _, fun i h1 h2 => by simp only [runE] at h2; omega⟩
  | k + 1, p, st => by
    cases h : stepE sep st (bAt s p) with
    | none => simp only [runE, h]; exact ⟨Nat.le_refl _, by omega, fun i h1 h2 => by omega⟩
    | some st' =>
      simp only [runE, h]
      obtain ⟨h1, h2, h3⟩ := runE_ok (sep := sep) (s := s) k (p + 1) st'
      refine ⟨by omega, by omega, fun i hi1 hi2 => ?_⟩
      rcases Nat.eq_or_lt_of_le hi1 with e | e
      · subst e
        unfold stepE at h
        rw [bAt_int] at h
        unfold okB
        split at h
        · rename_i hh; exact Or.inl hh
        · split at h
          · rename_i hh; have := hh.1; omega
          · cases h
      · exact h3 i e hi2
theorem endE_p {b : Int} {q : Nat} {st : ES} : (endE b q st).p = q := by
  unfold endE
  split
  · rfl
  · split <;> rfl
theorem scanE_ok {sep : Bool} {s : ByteArray} {p : Nat} (hp : p ≤ s.size) : p ≤ (scanE sep s p).p ∧ (scanE sep s p).p ≤ s.size ∧ ∀ i, p ≤ i → i < (scanE sep s p).p → okB (byteAt s i) := by
  unfold scanE
  split
  · rename_i hlt
    cases hb : expBase (byteAt s p) with
    | none => exact ⟨Nat.le_refl _, hp, fun i h1 h2 => by simp only at h2; omega⟩
    | some b =>
      simp only [endE_p]
      have hc : okB (byteAt s p) := by
        unfold expBase at hb
        unfold okB
        split at hb
        · omega
        · split at hb
          · omega
          · cases hb
      have hS : p + 1 ≤ (expSign s (p + 1)).1 ∧ (expSign s (p + 1)).1 ≤ s.size ∧ ∀ i, p + 1 ≤ i → i < (expSign s (p + 1)).1 → okB (byteAt s i) := by
        unfold expSign
        split
        · rename_i hh
          refine ⟨by simp only; omega, by simp only; omega, fun i h1 h2 => ?_⟩
          simp only at h2
          obtain rfl : i = p + 1 := by omega
          unfold okB; omega
        · split
          · rename_i hh
            refine ⟨by simp only; omega, by simp only; omega, fun i h1 h2 => ?_⟩
            simp only at h2
            obtain rfl : i = p + 1 := by omega
            unfold okB; omega
          · exact ⟨by simp only; omega, by simp only; omega, fun i h1 h2 => by simp only at h2; omega⟩
      have hR := runE_ok (sep := sep) (s := s) (s.size - (expSign s (p + 1)).1) (expSign s (p + 1)).1 ⟨46, false, false, (expSign s (p + 1)).2⟩
      refine ⟨?_, ?_, fun i h1 h2 => ?_⟩
      · have := hR.1; unfold runX; omega
      · have := hR.2.1; unfold runX; omega
      · unfold runX at h2
        rcases Nat.eq_or_lt_of_le h1 with e | e
        · subst e; exact hc
        · rcases Nat.lt_or_ge i (expSign s (p + 1)).1 with h | h
          · exact hS.2.2 i e h
          · exact hR.2.2 i h h2
  · exact ⟨Nat.le_refl _, hp, fun i h1 h2 => by simp only at h2; omega⟩
structure FEnv (w : World) (aE a1 a2 : Addr) : Prop where
  errs : Errs w (.iface 229 (.pointer (some aE))) (.iface 229 (.pointer (some a1))) (.iface 229 (.pointer (some a2)))
  perrs : PErrs w
  tab : Tab5 w
  k1 : w.cell? ⟨1, 0, none⟩ = some (.int .i64 40)
  k4 : w.cell? ⟨4, 0, none⟩ = some (.int .i64 40)
  k5 : w.cell? ⟨5, 0, none⟩ = some (.int .i64 12)
  k6 : w.cell? ⟨6, 0, none⟩ = some (.int .i64 80)
  deb : ∀ j : Nat, j < 64 → w.cell? ⟨11, j, none⟩ = some (.int .u8 ((Lib.deBruijn64tab.getD j 0 : Nat) : Int))
  sz : 14 ≤ w.heap.size
theorem FEnv.far {Z : Zone} {w w' : World} {aE a1 a2 : Addr} (h : FEnv w aE a1 a2) (k : Chg Z w w') (hz : ∀ b o, b < 14 → ¬ Z b o) : FEnv w' aE a1 a2 :=
  ⟨h.errs.far k (fun b hb => hz b 0 hb), h.perrs.far k (fun b hb => hz b 0 hb), fun i hi => k.cell (h.tab i hi) (hz _ _ (by omega)), k.cell h.k1 (hz _ _ (by omega)), k.cell h.k4 (hz _ _ (by omega)), k.cell h.k5 (hz _ _ (by omega)), k.cell h.k6 (hz _ _ (by omega)), fun j hj => k.cell (h.deb j hj) (hz _ _ (by omega)), by have := k.size; have := h.sz; omega⟩
def zFS (br zb : Nat) : Zone := zOr (zRow br 1 2) (zRow zb 0 7)
def precOf (p : Int) : Int := if p = 0 then 64 else p
def numOf (sc : Scan) (ex : EScan) : Int := sc.V * 5 ^ (x5of sc ex).toNat
def denOf (sc : Scan) (ex : EScan) : Int := 5 ^ (-(x5of sc ex)).toNat
def FSNum (w : World) (zb : Nat) (v : FV) (neg : Bool) (sc : Scan) (ex : EScan) (P : Nat) (w' : World) : Prop :=
  (sc.V = 0 ∧ ∃ v', FltC w' zb v' ∧ v'.p = P ∧ v'.md = v.md ∧ v'.ac = 0 ∧ v'.fm = 0 ∧ v'.ng = neg) ∨
    (sc.V ≠ 0 ∧ ∃ v' Y, FNum w' zb v' Y ∧ v'.p = P ∧ v'.md = v.md ∧ (v'.fm = 1 → 64 * v'.n ≤ P + 63) ∧ (∀ b o, v'.a = some ⟨b, o, none⟩ → w.heap.size ≤ b) ∧
      (-27 ≤ x5of sc ex → x5of sc ex ≤ 27 → -134217728 ≤ x2of sc ex → x2of sc ex ≤ 134217728 → v'.ng = neg ∧ FVal v' Y neg (numOf sc ex) (denOf sc ex) (x2of sc ex) P v.md))
structure FSRes (w : World) (br zb : Nat) (s : ByteArray) (v : FV) (neg : Bool) (sc : Scan) (ex : EScan) (P : Nat) (w' : World) : Prop where
  chg : Chg (zFS br zb) w w'
  rd : RdAt w' br s ex.p
  num : FSNum w zb v neg sc ex P w'
theorem FSNum.chg {Z : Zone} {w wc wd : World} {zb P : Nat} {v : FV} {neg : Bool} {sc : Scan} {ex : EScan} (h : FSNum w zb v neg sc ex P wc) (k : Chg Z wc wd) (h1 : ∀ o, ¬ Z zb o) (h2 : ∀ b o, w.heap.size ≤ b → ¬ Z b o) : FSNum w zb v neg sc ex P wd := by
  rcases h with ⟨h0, v', g1, g2⟩ | ⟨h0, v', Y, g1, g2, g3, g4, g5, g6⟩
  · exact Or.inl ⟨h0, v', g1.chg k (fun o _ => h1 o), g2⟩
  · refine Or.inr ⟨h0, v', Y, g1.chg k ?_, g2, g3, g4, g5, g6⟩
    rintro b o (hz | ⟨po, e, _⟩)
    · rw [hz.1]; exact h1 o
    · exact h2 b o (g5 b po e)
def FSBad (w : World) (br zb : Nat) (e : Ending) (w' : World) : Prop :=
  ∃ b t v, e = .returned (.tuple #[.pointer none, .int .i64 b, .iface t v]) ∧ Chg (zFS br zb) w w'
def scanGood (sc : Scan) (ex : EScan) : Prop := sc.err = 0 ∧ ex.err = 0
def scanFar (sc : Scan) (ex : EScan) : Prop := sc.V ≠ 0 ∧ ¬ (-1073741824 ≤ x2of sc ex ∧ x2of sc ex ≤ 1073741824)
def FSPost (w : World) (br zb : Nat) (s : ByteArray) (v : FV) (neg : Bool) (sc : Scan) (ex : EScan) (P : Nat) (e : Ending) (w' : World) : Prop :=
  (scanGood sc ex ∧ e = .returned (.tuple #[.pointer (some ⟨zb, 0, none⟩), .int .i64 sc.b, .nilIface]) ∧ FSRes w br zb s v neg sc ex P w') ∨
  ((¬ scanGood sc ex ∨ scanFar sc ex) ∧ FSBad w br zb e w')
structure PreRnd (w : World) (br zb : Nat) (s : ByteArray) (v : FV) (neg : Bool) (sc : Scan) (ex : EScan) (P : Nat) (wc : World) (v1 : FV) (Z : Nat → Int) : Prop where
  num : FNum wc zb v1 Z
  p : v1.p = P
  md : v1.md = v.md
  fm : v1.fm = 1
  ng : v1.ng = neg
  few : v1.n ≤ 10
  fr : ∀ b o, v1.a = some ⟨b, o, none⟩ → w.heap.size ≤ b
  vl : ∃ sh : Nat, sh < 64 ∧ val Z v1.n = sc.V * 2 ^ sh ∧ v1.e = 64 * v1.n - sh + x2of sc ex
  rd : RdAt wc br s ex.p
  chg : Chg (zFS br zb) w wc
  lz : zb < w.heap.size
  lr : br < w.heap.size
  ne : zb ≠ br
theorem PreRnd.far {w wc wd : World} {br zb : Nat} {s : ByteArray} {v : FV} {neg : Bool} {sc : Scan} {ex : EScan} {P : Nat} {v1 : FV} {Z : Nat → Int} (h : PreRnd w br zb s v neg sc ex P wc v1 Z) (k : Chg zNone wc wd) : PreRnd w br zb s v neg sc ex P wd v1 Z :=
  ⟨h.num.chg k (fun _ _ _ h => h), h.p, h.md, h.fm, h.ng, h.few, h.fr, h.vl, h.rd.chg k (fun _ _ h => h), h.chg.trans k (fun _ _ _ h => h.elim), h.lz, h.lr, h.ne⟩
theorem PreRnd.nz {w wc : World} {br zb : Nat} {s : ByteArray} {v : FV} {neg : Bool} {sc : Scan} {ex : EScan} {P : Nat} {v1 : FV} {Z : Nat → Int} (h : PreRnd w br zb s v neg sc ex P wc v1 Z) : sc.V ≠ 0 := by
  obtain ⟨sh, h1, h2, h3⟩ := h.vl
  obtain ⟨g1, g2, g3, g4, g5, g6⟩ := h.num.fin h.fm
  have := (val_ge_top g5 g1 g6).1
  have hp : (0 : Int) < 2 ^ (64 * v1.n - 1) := Int.pow_pos (by decide)
  intro h0
  rw [h0, Int.zero_mul] at h2
  omega
theorem PreRnd.fin {w wc w' : World} {br zb : Nat} {s : ByteArray} {v : FV} {neg : Bool} {sc : Scan} {ex : EScan} {P : Nat} {v1 : FV} {Z : Nat → Int} (h : PreRnd w br zb s v neg sc ex P wc v1 Z) {v' : FV} {Y : Nat → Int} (hn : FNew wc zb v1 w' v' Y)
    (hl : v'.fm = 1 → 64 * v'.n ≤ P + 63)
    (hv : -27 ≤ x5of sc ex → x5of sc ex ≤ 27 → -134217728 ≤ x2of sc ex → x2of sc ex ≤ 134217728 → v'.ng = neg ∧ FVal v' Y neg (numOf sc ex) (denOf sc ex) (x2of sc ex) P v.md) : FSRes w br zb s v neg sc ex P w' := by
  have hfar : ∀ b o, b < w.heap.size → zF zb v1 b o → zRow zb 0 7 b o := by
    rintro b o hb (hz | ⟨po, e, _⟩)
    · exact hz
    · have := h.fr _ _ e; omega
  refine ⟨h.chg.trans hn.chg (fun b o hb hz => Or.inr (hfar b o hb hz)), h.rd.chg hn.chg (fun o _ hz => h.ne (hfar br o h.lr hz).1.symm), Or.inr ⟨h.nz, v', Y, hn.num, hn.p.trans h.p, hn.md.trans h.md, hl, ?_, hv⟩⟩
  intro b o e
  rcases hn.home with ⟨e1, _⟩ | ⟨b2, o2, e2, hb⟩
  · exact h.fr b o (e1 ▸ e)
  · rw [e2] at e
    injection e with e
    injection e with e
    have := h.chg.size
    omega
theorem FVal.unshift {v : FV} {Y : Nat → Int} {neg : Bool} {N D E md : Int} {p c d : Nat} (h : FVal v Y neg (N * 2 ^ c) (D * 2 ^ d) E p md) : FVal v Y neg N D (E + c - d) p md := by
  obtain ⟨h1, m, t, h2, h3⟩ := h
  refine ⟨h1, m, t + d - c, h2.unshift, ?_⟩
  rw [show t + d - c + (E + c - d) = t + E by omega]
  exact h3
theorem FVal.rw {v : FV} {Y : Nat → Int} {neg : Bool} {N D E N' D' E' md : Int} {p : Nat} (h : FVal v Y neg N D E p md) (e1 : N = N') (e2 : D = D') (e3 : E = E') : FVal v Y neg N' D' E' p md := by
  subst e1; subst e2; subst e3; exact h
theorem PreRnd.round {w wc w' : World} {br zb : Nat} {s : ByteArray} {v : FV} {neg : Bool} {sc : Scan} {ex : EScan} {P : Nat} {v1 : FV} {Z : Nat → Int} (h : PreRnd w br zb s v neg sc ex P wc v1 Z) (h5 : x5of sc ex = 0) (hR : RoundPost wc zb v1 Z false P w') (hP : 1 ≤ P) : FSRes w br zb s v neg sc ex P w' := by
  have hx := h.num.ex
  obtain ⟨g1, g2, g3, g4, g5, g6⟩ := h.num.fin h.fm
  have hv1 : ({ v1 with fm := 1, e := v1.e } : FV) = v1 := by have := h.fm; cases v1; simp_all
  have hS : SERPost wc zb v1 Z v1.e false P w' := ⟨fun hh => by omega, fun hh => by omega, fun _ _ => by rw [hv1]; exact hR⟩
  obtain ⟨v', Y, hA⟩ := ser_all hS ⟨g1, g2, g3, g4, g5, g6⟩ hP
  obtain ⟨sh, s1, s2, s3⟩ := h.vl
  have hng := h.ng
  have hfew := h.few
  refine h.fin hA.new hA.len (fun q1 q2 q3 q4 => ⟨hA.ng.trans hng, ?_⟩)
  have hF := hA.vl (by omega) (by omega) (val Z v1.n) 1 (by decide) (by rw [Int.ediv_one]) (by simp [Int.emod_one]) (fun _ => Int.emod_one _)
  rw [h.ng, h.md, s2] at hF
  have hF2 := FVal.unshift (c := sh) (d := 0) (D := 1) (N := sc.V) (by simpa using hF)
  refine hF2.rw ?_ ?_ (by omega)
  · unfold numOf; rw [h5]; simp
  · unfold denOf; rw [h5]; simp
theorem PreRnd.mul {w wc w' : World} {br zb : Nat} {s : ByteArray} {v : FV} {neg : Bool} {sc : Scan} {ex : EScan} {P : Nat} {v1 : FV} {Z : Nat → Int} (h : PreRnd w br zb s v neg sc ex P wc v1 Z) (h5 : 0 < x5of sc ex) {vp : FV} {B : Int} {Y v' : _} (hM : MulAll wc zb P { v1 with ng := v1.ng != vp.ng } (val Z v1.n) B v1.n vp.n (v1.e + vp.e) w' v' Y)
    (hs : x5of sc ex ≤ 27 → vp.ng = false ∧ vp.n = 1 ∧ ∃ u : Nat, u < 64 ∧ B = 5 ^ (x5of sc ex).toNat * 2 ^ u ∧ vp.e = 64 - (u : Int)) : FSRes w br zb s v neg sc ex P w' := by
  obtain ⟨sh, s1, s2, s3⟩ := h.vl
  have hg := h.ng
  have hfew := h.few
  refine h.fin ⟨hM.new.num, hM.new.p, hM.new.md, hM.new.home, hM.new.chg⟩ hM.len (fun q1 q2 q3 q4 => ?_)
  obtain ⟨hng, n1, u, u1, u2, u3⟩ := hs q2
  have hb : (v1.ng != vp.ng) = neg := by rw [hng, hg]; cases neg <;> rfl
  rw [hb] at hM
  refine ⟨hM.ng, ?_⟩
  have hF := hM.val (by omega) (by omega)
  simp only [h.md, s2, u2] at hF
  have hF2 := FVal.unshift (c := sh + u) (d := 0) (D := 1) (N := sc.V * 5 ^ (x5of sc ex).toNat) (hF.rw (by
    rw [Int.pow_add]
    generalize (2 : Int) ^ sh = A
    generalize (2 : Int) ^ u = C
    rw [Int.mul_assoc sc.V A, Int.mul_left_comm A, ← Int.mul_assoc sc.V]) (by simp) rfl)
  refine hF2.rw rfl ?_ (by rw [n1]; push_cast; omega)
  unfold denOf
  rw [show (-(x5of sc ex)).toNat = 0 by omega]
  simp
theorem PreRnd.quo {w wc w' : World} {br zb : Nat} {s : ByteArray} {v : FV} {neg : Bool} {sc : Scan} {ex : EScan} {P : Nat} {v1 : FV} {Z : Nat → Int} (h : PreRnd w br zb s v neg sc ex P wc v1 Z) (h5 : x5of sc ex < 0) {vp : FV} {B : Int} {Y v' : _} (hM : QuoAll wc zb P { v1 with ng := v1.ng != vp.ng } (val Z v1.n) B v1.n vp.n (v1.e - vp.e) w' v' Y)
    (hs : -27 ≤ x5of sc ex → vp.ng = false ∧ vp.n = 1 ∧ ∃ u : Nat, u < 64 ∧ B = 5 ^ (-(x5of sc ex)).toNat * 2 ^ u ∧ vp.e = 64 - (u : Int)) : FSRes w br zb s v neg sc ex P w' := by
  obtain ⟨sh, s1, s2, s3⟩ := h.vl
  have hg := h.ng
  have hfew := h.few
  refine h.fin ⟨hM.new.num, hM.new.p, hM.new.md, hM.new.home, hM.new.chg⟩ hM.len (fun q1 q2 q3 q4 => ?_)
  obtain ⟨hng, n1, u, u1, u2, u3⟩ := hs q1
  have hb : (v1.ng != vp.ng) = neg := by rw [hng, hg]; cases neg <;> rfl
  rw [hb] at hM
  refine ⟨hM.ng, ?_⟩
  have hF := hM.val (by omega) (by omega)
  simp only [h.md, s2, u2] at hF
  have hF2 := FVal.unshift hF
  refine hF2.rw ?_ rfl (by rw [n1]; push_cast; omega)
  unfold numOf
  rw [show (x5of sc ex).toNat = 0 by omega]
  simp
theorem PreRnd.inf {w wc w' : World} {br zb : Nat} {s : ByteArray} {v : FV} {neg : Bool} {sc : Scan} {ex : EScan} {P : Nat} {v1 : FV} {Z : Nat → Int} (h : PreRnd w br zb s v neg sc ex P wc v1 Z) (h5 : x5of sc ex < -27 ∨ 27 < x5of sc ex) {f : Int} {vp : FV} (hf : f = 0 ∨ f = 2) (hn : FNum w' zb { v1 with ng := v1.ng != vp.ng, ac := 0, fm := f } Z) (k : Chg (zRow zb 0 7) wc w') : FSRes w br zb s v neg sc ex P w' := by
  refine h.fin (v' := { v1 with ng := v1.ng != vp.ng, ac := 0, fm := f }) (fnew_of hn rfl rfl rfl rfl k) (fun e => by simp only at e; omega) (fun q1 q2 => by omega)
end Go.Proofs.YtmgfajamanakcaaGreatDoor
