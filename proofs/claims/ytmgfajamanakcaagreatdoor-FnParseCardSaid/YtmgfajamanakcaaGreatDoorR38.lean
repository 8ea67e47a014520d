/- Part of the proof of FnParse: what the functions that it reaches do, as contracts. Conditions: those that each theorem names. -/
import Derived.Test.YtmgfajamanakcaaGreatDoorR35
import Derived.Test.YtmgfajamanakcaaGreatDoorR37
import Derived.Test.YtmgfajamanakcaaGreatDoorR36
import Derived.Deep.DeepCutAuto
import Derived.Test.YtmgfajamanakcaaGreatDoorR33
import Derived.RegionTactic
import Derived.OrdersHeld
namespace Go.Proofs.YtmgfajamanakcaaGreatDoor.Si
set_option linter.unusedVariables false
set_option linter.unusedSimpArgs false
open Go Go.RowKit
set_option maxRecDepth 100000
def dyV (ng : Bool) (a : Option Addr) (n c : Nat) (ex : Int) : Value := .agg #[.bool ng, .slice a n c, .int .i64 ex]
structure DyC (w : World) (p : Nat) (ng : Bool) (a : Option Addr) (n c : Nat) (ex : Int) : Prop where
  ng : w.cell? ⟨p, 0, none⟩ = some (.bool ng)
  mt : w.cell? ⟨p, 1, none⟩ = some (.slice a n c)
  ex : w.cell? ⟨p, 2, none⟩ = some (.int .i64 ex)
  pb : PB w p
theorem DyC.chg {Z : Zone} {w w' : World} {p : Nat} {ng : Bool} {a : Option Addr} {n c : Nat} {ex : Int} (h : DyC w p ng a n c ex) (k : Chg Z w w') (hz : ∀ o, ¬ Z p o) : DyC w' p ng a n c ex :=
  ⟨k.cell h.ng (hz _), k.cell h.mt (hz _), k.cell h.ex (hz _), h.pb.chg k⟩
theorem DyC.lt {w : World} {p : Nat} {ng : Bool} {a : Option Addr} {n c : Nat} {ex : Int} (h : DyC w p ng a n c ex) : p < w.heap.size := h.pb.lt
theorem newDy (w : World) (ng : Bool) (a : Option Addr) (n c : Nat) (ex : Int) (ty : TypeId) : DyC (w.alloc (.cells #[.bool ng, .slice a n c, .int .i64 ex] ty)) w.heap.size ng a n c ex :=
  ⟨cell?_alloc_new w _ _ 0 _ rfl, cell?_alloc_new w _ _ 1 _ rfl, cell?_alloc_new w _ _ 2 _ rfl, PB.new w _ _⟩
theorem dy_row (w' : World) (b : Nat) (v0 v1 v2 : Value) :
    Chg (zRow b 0 3) w' (((w'.setCell ⟨b, 0, none⟩ v0).setCell ⟨b, 1, none⟩ v1).setCell ⟨b, 2, none⟩ v2) :=
  (((Chg.refl _ _).setCell b 0 _ (fun _ => ⟨rfl, by omega, by omega⟩)).setCell b 1 _ (fun _ => ⟨rfl, by omega, by omega⟩)).setCell b 2 _ (fun _ => ⟨rfl, by omega, by omega⟩)
theorem DyC.three {w : World} {p : Nat} {ng : Bool} {a : Option Addr} {n c : Nat} {ex : Int} (h : DyC w p ng a n c ex) (ng' : Bool) (a' : Option Addr) (n' c' : Nat) (ex' : Int) :
    DyC (((w.setCell ⟨p, 0, none⟩ (.bool ng')).setCell ⟨p, 1, none⟩ (.slice a' n' c')).setCell ⟨p, 2, none⟩ (.int .i64 ex')) p ng' a' n' c' ex' := by
  obtain ⟨h0, h1, h2, hp⟩ := h; refine ⟨?_, ?_, ?_, hp.chg (dy_row w p _ _ _)⟩
  · rw [cs_other (by omega), cs_other (by omega)]; exact cs_same (u := .bool ng) h0
  · rw [cs_other (by omega)]; exact cs_same (u := .slice a n c) (by rw [cs_other (by omega)]; exact h1)
  · exact cs_same (u := .int .i64 ex) (by rw [cs_other (by omega), cs_other (by omega)]; exact h2)
theorem res67 {tmps : Array Value} {w : World} {p : Nat} {ng : Bool} {a : Option Addr} {n c : Nat} {ex acc : Int} (h : DyC w p ng a n c ex) (ht : tmps.getD 6 undef = .pointer (some ⟨p, 0, none⟩)) (h5 : tmps.getD 7 undef = .int .i64 acc) :
    (results Tryz.f67 tmps).run Tryz.prog w = .ok (.tuple #[dyV ng a n c ex, .int .i64 acc]) w := by
  obtain ⟨h0, h1, h2, hp⟩ := h; have ht' : tmps[6]?.getD undef = .pointer (some ⟨p, 0, none⟩) := by simpa using ht
  have h5'' : tmps[7]?.getD undef = .int .i64 acc := by simpa using h5
  simp [results, Tryz.results67, go_sem, ht', h5'', h0, h1, h2, dyV]
theorem res33 {tmps : Array Value} {w : World} {p : Nat} {ng : Bool} {a : Option Addr} {n c : Nat} {ex : Int} (h : DyC w p ng a n c ex) (ht : tmps.getD 6 undef = .pointer (some ⟨p, 0, none⟩)) :
    (results Tryz.f33 tmps).run Tryz.prog w = .ok (dyV ng a n c ex) w := by
  obtain ⟨h0, h1, h2, hp⟩ := h; have ht' : tmps[6]?.getD undef = .pointer (some ⟨p, 0, none⟩) := by simpa using ht
  simp [results, Tryz.results33, go_sem, ht', h0, h1, h2, dyV]
set_option maxHeartbeats 4000000 in
theorem cut_zero (neg : Bool) (a : Option Addr) (n c : Nat) (V md : Int) (w : World) (h : NatV w a n c V) (hn : n < 1048576) :
    Calls Tryz.prog 123 #[.bool neg, .slice a n c, .int .i64 0, .int .i64 md] w fun e w' => ∃ b m d, e = .returned (.tuple #[.slice b m d, .int .i64 0]) ∧ NatV w' b m d V ∧ Chg zNone w w' := by
  have HS := Lib.hid (shl_any a n c 0 V w h (by omega) (by omega))
  go_enter Tryz.func123, Tryz.ntmps123
  go_wp2_with fail; refine HS.out.mono ?_; rintro e w1 ⟨b, m, d, rfl, g1, g2⟩; rw [Int.pow_zero, Int.mul_one] at g1; have H1 := Lib.hid (And.intro g1 g2); clear g1 g2; go_wp2; go_ret2; exact ⟨b, m, d, rfl, H1.out⟩
def Sz3 (w : World) (p : Nat) : Prop := ∃ c e fr, w.heap[p]? = some (.cells c e fr) ∧ c.size = 3
theorem Sz3.chg {Z : Zone} {w w' : World} {p : Nat} (h : Sz3 w p) (k : Chg Z w w') : Sz3 w' p := by
  obtain ⟨c, e, fr, h1, h2⟩ := h; obtain ⟨c', g1, g2, _⟩ := k.cells p c e fr h1; exact ⟨c', e, fr, g1, g2.trans h2⟩
theorem Sz3.new (w : World) (v0 v1 v2 : Value) (t : TypeId) : Sz3 (w.alloc (.cells #[v0, v1, v2] t)) w.heap.size := ⟨_, _, _, Array.getElem?_push_size, rfl⟩
theorem Sz3.none {w : World} {p o : Nat} (h : Sz3 w p) (ho : 3 ≤ o) : w.cell? ⟨p, o, .none⟩ = .none := by
  obtain ⟨c, e, fr, h1, h2⟩ := h; simp only [World.cell?, h1]
  simp
  omega
theorem far3 {w : World} {b : Option Addr} {m d : Nat} {q : Int} {p : Nat} {ng : Bool} {a : Option Addr} {n c : Nat} (h : NatV w b m d q) (hq : 0 < q) (k : DyC w p ng a n c 0) (hz : Sz3 w p) : ∀ b' o, zAddr b d b' o → ¬ zRow p 0 3 b' o := by
  rintro b' o ⟨po, e, h1, h2⟩ ⟨rfl, _, _⟩
  have hm : 0 < m := by
    rcases Nat.eq_zero_or_pos m with h0 | h0
    · have := h.zero.1 h0; omega
    · exact h0
  obtain ⟨hmd, hzk, X, hr, hX, hN, _⟩ := h
  rcases hzk with ⟨e1, _⟩ | ⟨b2, o2, e1, _, hroom, _⟩
  · rw [e1] at e; cases e
  · rw [e1] at e
    injection e with e; injection e with e2 e3; subst e2; subst e3
    have hcell : ∀ o, o2 ≤ o → o < o2 + d → ∃ x, w.cell? ⟨b2, o, none⟩ = some (.int .i64 x) := fun o g1 g2 => by
      obtain ⟨⟨x, hx⟩, _⟩ := hroom (o - o2) (by omega); rw [show o2 + (o - o2) = o by omega] at hx; exact ⟨x, hx⟩
    have key : o2 = 2 ∧ d = 1 := by
      have a0 : ¬ (o2 ≤ 0) := fun g => by
        obtain ⟨x, hx⟩ := hcell 0 g (by omega); rw [k.ng] at hx; cases hx
      have a1 : ¬ (o2 ≤ 1) := fun g => by
        obtain ⟨x, hx⟩ := hcell 1 g (by omega); rw [k.mt] at hx; cases hx
      have a2 : ¬ (3 < o2 + d) := fun g => by
        obtain ⟨x, hx⟩ := hcell 3 (by omega) g; rw [hz.none (by omega)] at hx; cases hx
      omega
    obtain ⟨rfl, rfl⟩ := key; obtain rfl : m = 1 := by omega
    rcases hr with hr | ⟨b3, o3, e4, hw⟩
    · omega
    · rw [e1] at e4
      injection e4 with e4; injection e4 with e5 e6; subst e5; subst e6; have h0 := hw 0 (by omega); rw [Nat.add_zero, k.ex] at h0; injection h0 with h0; injection h0 with _ h0
      rcases hN with hN | hN
      · omega
      · exact hN h0.symm
def RoundP (w : World) (neg : Bool) (V E : Int) (P : Nat) (md : Int) (e : Ending) (w' : World) : Prop :=
  ∃ b m d q acc, ∃ k : Nat, e = .returned (.tuple #[dyV neg b m d (E + k), .int .i64 acc]) ∧ NatV w' b m d q ∧ m < 1048576 ∧ k < 2097152 ∧ 0 < q ∧ SRnd neg V 1 P md q k acc ∧ Chg zNone w w'
theorem cutQ_pos {neg : Bool} {V md : Int} {L P : Nat} (hP : 1 ≤ P) (hL : P < L) (h1 : 2 ^ (L - 1) ≤ V) (h2 : V < 2 ^ L) : 0 < cutQ neg V (L - P) md := by
  have := (rq_range hP hL h1 h2).1; have h3 : (0 : Int) < 2 ^ (P - 1) := Int.pow_pos (by decide); unfold rq at this; unfold cutQ
  split <;> omega
set_option maxHeartbeats 4000000 in
theorem round_spec (neg : Bool) (a : Option Addr) (n c P : Nat) (V E md : Int) (w : World) (h : NatV w a n c V) (hV : 0 < V) (hn : n < 65536) (hP : 1 ≤ P) (hP2 : P < 65536) (hE : -1099511627776 < E ∧ E < 1099511627776) (hmd : 0 ≤ md ∧ md ≤ 5) :
    Calls Tryz.prog 67 #[dyV neg a n c E, .int .i64 (P : Int), .int .i64 md] w (RoundP w neg V E P md) := by
  have kal : Chg zNone w ((w.alloc (.cells #[.bool neg, .slice a n c, .int .i64 E] 40)).alloc (.cells #[.bool false, .slice none 0 0, .int .i64 0] 40)) := ((Chg.refl _ _).alloc _).alloc _; have HN := Lib.hid (h.far kal); have HL := Lib.hid (len_any a n c V _ (h.far kal) (by omega)); have hD := newDy (w.alloc (.cells #[.bool neg, .slice a n c, .int .i64 E] 40)) false none 0 0 0 40
  have hsw : (w.alloc (.cells #[.bool neg, .slice a n c, .int .i64 E] 40)).heap.size = w.heap.size + 1 := by
    show (w.heap.push _).size = _
    simp
  rw [hsw] at hD; have hSz := Sz3.new (w.alloc (.cells #[.bool neg, .slice a n c, .int .i64 E] 40)) (.bool false) (.slice none 0 0) (.int .i64 0) 40; rw [hsw] at hSz; have HSz := Lib.hid hSz; clear hSz; have hD0 := (newDy w neg a n c E 40).chg (show Chg zNone _ ((w.alloc (.cells #[.bool neg, .slice a n c, .int .i64 E] 40)).alloc (.cells #[.bool false, .slice none 0 0, .int .i64 0] 40)) from (Chg.refl _ _).alloc _) (fun _ h => h); have HD := Lib.hid (And.intro hD (And.intro hD0 (And.intro kal hV))); clear kal h hD hsw hD0; unfold dyV
  go_enter Tryz.func67, Tryz.ntmps67
  go_wp2_with fail; refine HL.out.mono ?_; rintro e w1 ⟨L, rfl, hL1, hL2, rfl⟩
  have hL3 : 1 ≤ L ∧ 2 ^ (L - 1) ≤ V ∧ V < 2 ^ L := by
    rcases hL2 with ⟨h1, _⟩ | h1
    · have := HD.out.2.2.2; omega
    · exact h1
  clear hL2
  by_cases hLP : L ≤ P
  · have hm : max 0 ((L : Int) - (P : Int)) = 0 := by omega
    have HC := Lib.hid (cut_zero neg a n c V md _ HN.out (by omega)); have HL3 := Lib.hid hL3; clear hL3; go_wp2_with fail; refine HC.out.mono ?_; rintro e w2 ⟨b, m, d, rfl, g1, g2⟩; have hmn : m ≤ n := g1.len (nat_lt HN.out); obtain ⟨i0, i1, i2, ip⟩ := HD.out.2.1.chg g2 (fun _ h => h); obtain ⟨l0, l1, l2, lp⟩ := HD.out.1.chg g2 (fun _ h => h); have lpp := lp; have f0 := lp.fz 0; have f1 := lp.fz 1; have f2 := lp.fz 2; have HG := Lib.hid (And.intro g1 (And.intro g2 (DyC.mk l0 l1 l2 lpp))); clear g1 g2 ip lp lpp; go_wp2; refine bodyPost_ret (v := .tuple #[dyV neg b m d E, .int .i64 0]) (res67 (HG.out.2.2.three _ _ _ _ _) rfl rfl) rfl ?_; have k3 := dy_row w2 (w.heap.size + 1) (.bool neg) (.slice b m d) (.int .i64 E); have k0 := HD.out.2.2.1.trans HG.out.2.1 (fun _ _ _ h => h); refine ⟨b, m, d, V, 0, 0, by simp, HG.out.1.chg k3 ?_, by omega, by omega, HD.out.2.2.2, srnd_low hP HL3.out.1 hLP HL3.out.2.1 HL3.out.2.2, k0.trans k3 (fun b o hb hh => by have := hh.1; omega)⟩; exact far3 HG.out.1 HD.out.2.2.2 HG.out.2.2 (HSz.out.chg HG.out.2.1)
  · have hm : max 0 ((L : Int) - (P : Int)) = ((L - P : Nat) : Int) := by omega
    obtain ⟨k, hk⟩ : ∃ k, L - P = k := ⟨_, rfl⟩; rw [hk] at hm; have hk1 : 1 ≤ k := by omega
    have hkb : k < 16777216 := by omega
    have hk21 : k < 2097152 := by omega
    have hq := cutQ_pos (neg := neg) (md := md) hP (show P < L by omega) hL3.2.1 hL3.2.2; have hR := srnd_cut (neg := neg) (md := md) hP (show P < L by omega) hL3.2.1 hL3.2.2; rw [hk] at hq hR; have HC := Lib.hid (cut_any neg a n c k V md _ HN.out (by omega) hk1 hkb hmd); obtain ⟨q, hqq⟩ : ∃ q, cutQ neg V k md = q := ⟨_, rfl⟩; obtain ⟨ac, hac⟩ : ∃ q, cutA neg V k md = q := ⟨_, rfl⟩
    have hR2 : SRnd neg V 1 P md q k ac := by
      rw [← hqq, ← hac]; unfold cutQ cutA; unfold rm racc rinc rq rl at hR; rw [hk] at hR; exact hR
    rw [hqq] at HC hq; rw [hac] at HC; have HQ := Lib.hid (And.intro hq (And.intro hR2 (And.intro hqq hL3))); clear hq hR hR2 hqq hac hL3 hk; go_wp2_with fail; refine HC.out.mono ?_; rintro e w2 ⟨b, m, d, rfl, g1, g2⟩
    have hmn : m < 1048576 := by
      have hVb := nat_lt HN.out
      have h1 : q ≤ V + 1 := by
        have := Int.ediv_le_self (2 ^ k) (Int.le_of_lt HD.out.2.2.2); rw [← HQ.out.2.2.1]; unfold cutQ
        split <;> omega
      have h2 : q < SB ^ (n + 1) := by
        rw [SB_succ]; have h3 : (0 : Int) < SB ^ n := Int.pow_pos (by decide); have : SB ^ n * SB = SB ^ n * 65536 := rfl; omega
      have := g1.len h2; omega
    obtain ⟨i0, i1, i2, ip⟩ := HD.out.2.1.chg g2 (fun _ h => h); obtain ⟨l0, l1, l2, lp⟩ := HD.out.1.chg g2 (fun _ h => h); have lpp := lp; have f0 := lp.fz 0; have f1 := lp.fz 1; have f2 := lp.fz 2; have HG := Lib.hid (And.intro g1 (And.intro g2 (DyC.mk l0 l1 l2 lpp))); clear g1 g2 ip lp lpp; go_wp2; refine bodyPost_ret (v := .tuple #[dyV neg b m d (E + (k : Int)), .int .i64 ac]) (res67 (HG.out.2.2.three _ _ _ _ _) rfl rfl) rfl ?_; have k3 := dy_row w2 (w.heap.size + 1) (.bool neg) (.slice b m d) (.int .i64 (E + (k : Int))); have k0 := HD.out.2.2.1.trans HG.out.2.1 (fun _ _ _ h => h); refine ⟨b, m, d, q, ac, k, rfl, HG.out.1.chg k3 (far3 HG.out.1 HQ.out.1 HG.out.2.2 (HSz.out.chg HG.out.2.1)), hmn, hk21, HQ.out.1, HQ.out.2.1, k0.trans k3 (fun b o hb hh => by have := hh.1; omega)⟩
theorem _root_.Go.Proofs.YtmgfajamanakcaaGreatDoor.Chg.base_drew {Z : Zone} {w w' : World} (h : Chg Z w.drew w') : Chg Z w w' := ((Chg.refl Z w).drew).trans h (fun _ _ _ h => h)
theorem fresh_in {w wu wv : World} {a : Option Addr} (k : Chg zNone w wv) (ku : Chg zNone w wu) (h : Fresh wu a) : Fresh w a := by
  rcases h with h | ⟨b, o, e, hb⟩
  · exact Or.inl h
  · exact Or.inr ⟨b, o, e, by have := ku.size; omega⟩
theorem NatV.fresh_set {wc wv : World} {a : Option Addr} {n c : Nat} {V : Int} (h : NatV wv a n c V) (hf : Fresh wc a) {p : Nat} (hp : p < wc.heap.size) (i : Nat) (v : Value) : NatV (wv.setCell ⟨p, i, none⟩ v) a n c V := by
  refine h.chg (chg_cell wv p i v) ?_
  rintro b o ⟨po, e, _⟩ hh
  rcases hf with h1 | ⟨b2, o2, e2, hb⟩
  · rw [h1] at e; cases e
  · rw [e2] at e
    injection e with e
    injection e with e3 _
    have := hh.1
    omega
end Go.Proofs.YtmgfajamanakcaaGreatDoor.Si
namespace Go.Proofs.YtmgfajamanakcaaGreatDoor
set_option linter.unusedVariables false
set_option linter.unusedSimpArgs false
open Go
theorem putL (t : List Value) (ds : List Deferred) (i : Nat) (v : Value) : Act.put { tmps := t.toArray, defers := ds } (some i) v = { tmps := (t.set i v).toArray, defers := ds } := by
  simp [Act.put]
theorem putN (a : Act) (v : Value) : Act.put a none v = a := rfl
section
variable {P : Program} {ops : Array Oper} {Q : Exit → Act → World → Prop} {md : Region.Mode} {S : World → Prop}
def HReady (P : Program) (md : Region.Mode) (ops : Array Oper) (Q : Exit → Act → World → Prop) (S : World → Prop) (fuel : Nat) (listed : Array Bool) (a : Act) (w : World) (rs : List Nat) : Prop :=
  ∀ i ∈ rs, wpOp P ops Q i (fun a' w' => S w' ∧ wpAnyH P md ops Q S fuel (listed.setIfInBounds i true) a' w') a w
theorem HReady.nil {fuel : Nat} {listed : Array Bool} {a : Act} {w : World} : HReady P md ops Q S fuel listed a w [] := fun _ h => by cases h
theorem HReady.cons {fuel : Nat} {listed : Array Bool} {a : Act} {w : World} {i : Nat} {o : Oper} {rs : List Nat} (ho : ops[i]? = some o)
    (h : ∀ K' : Act → World → Prop, (∀ a w, (S w ∧ wpAnyH P md ops Q S fuel (listed.setIfInBounds i true) a w) → K' a w) → if Region.wanted o (yielded ops a.tmps) = true then Oper.wp P o a w K' Q else K' (a.put o.dst undef) w)
    (hs : HReady P md ops Q S fuel listed a w rs) : HReady P md ops Q S fuel listed a w (i :: rs) := fun j hj => by
  rcases List.mem_cons.1 hj with rfl | hj
  · exact wpOp_step ho h
  · exact hs j hj
theorem wpAnyH_ready {rs : List Nat} {fuel : Nat} {listed : Array Bool} {a : Act} {w : World} (hr : Region.ready md ops listed = rs) (hne : rs ≠ [])
    (h : HReady P md ops Q S fuel listed a w rs) : wpAnyH P md ops Q S (fuel + 1) listed a w := wpAnyH_all hr hne h
end
end Go.Proofs.YtmgfajamanakcaaGreatDoor
