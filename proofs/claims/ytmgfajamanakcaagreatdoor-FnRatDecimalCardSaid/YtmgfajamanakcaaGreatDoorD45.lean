/- Part of the proof of FnParse: what the functions that it reaches do, as contracts. Conditions: those that each theorem names. -/
import Derived.Test.YtmgfajamanakcaaGreatDoorD44
import Derived.Test.YtmgfajamanakcaaGreatDoorD40
import Derived.Test.YtmgfajamanakcaaGreatDoorD36
import Derived.Test.YtmgfajamanakcaaGreatDoorD39
import Derived.Test.YtmgfajamanakcaaGreatDoorD03
import Derived.Deep.DeepCutAuto
import Derived.Test.YtmgfajamanakcaaGreatDoorD15
import Derived.Test.YtmgfajamanakcaaGreatDoorD18
import Derived.Test.YtmgfajamanakcaaGreatDoorD19
import Derived.Test.YtmgfajamanakcaaGreatDoorD38
import Derived.OrdersHeld
import Derived.RegionTactic
namespace Go.Proofs.YtmgfajamanakcaaGreatDoor
set_option linter.unusedVariables false
set_option linter.unusedSimpArgs false
open Go Go.RowKit
set_option maxRecDepth 100000
theorem FloatString_any (rb : Nat) (sg : Bool) (xa : Option Addr) (xn xc : Nat) (X : Nat → Int) (V : Int) (ya : Option Addr) (yn yc : Nat) (Y : Nat → Int) (D : Int) (k : Nat) (w : World) (hA : IntC w rb 0 sg xa xn xc) (hB : IntC w rb 2 false ya yn yc) (hx : NatIn w xa xn xc X) (hnx : Norm X xn) (hv : val X xn = V) (hn10 : xn ≤ 10)
    (hy : NatIn w ya yn yc Y) (hny : Norm Y yn) (hd : val Y yn = D) (hm10 : yn ≤ 10) (hD0 : 0 < D) (hg : Glob w) (hk : k ≤ 100) (hsg : sg = true → V ≠ 0) :
    Calls Tryz.prog 59 #[.pointer (some ⟨rb, 0, none⟩), .int .i64 (k : Int)] w (FsP w sg (decQ V D (10 ^ k)) k) := by
  have hm0 : 0 < yn := by
    rcases Nat.eq_zero_or_pos yn with h | h
    · subst h; rw [← hd] at hD0; exact absurd hD0 (by show ¬ (0 : Int) < 0; omega)
    · exact h
  by_cases h1 : D = 1
  · subst h1
    exact FloatString_int rb sg xa xn xc X V ya yn yc Y k w hA hB hx hnx hv (by omega) hy hny hd hm0 hg hk hsg
  · exact FloatString_frac rb sg xa xn xc X V ya yn yc Y D k w hA hB hx hnx hv hn10 hy hny hd hm10 h1 hD0 hg hk
set_option maxHeartbeats 2000000 in
theorem ratdec_any (xn : Bool) (ua : Option Addr) (un uc : Nat) (U : Nat → Int) (da : Option Addr) (dn dc : Nat) (D : Nat → Int) (k : Nat) (w : World) (hu : Rd w ua un U) (hU : WF U un) (hun : un ≤ 10) (hd : Rd w da dn D) (hD : WF D dn) (hdn : dn ≤ 10) (hd0 : val D dn ≠ 0) (hg : Glob w) (hk : k ≤ 100) :
    Calls Tryz.prog 27 #[.agg #[.bool xn, .slice ua un uc, .slice da dn dc], .int .i64 (k : Int)] w (FsP w (xn && decide (val U un ≠ 0)) (decQ (val U un) (val D dn) (10 ^ k)) k) := by
  have kA : Chg zNone w (w.alloc (.cells #[.bool xn, .slice ua un uc, .slice da dn dc] 31)) := (Chg.refl _ _).alloc _
  have HR := Lib.hid (rat_any xn ua un uc U da dn dc D _ (rd_far hu kA (fun _ _ _ _ _ h => h)) hU (by omega) (rd_far hd kA (fun _ _ _ _ _ h => h)) hD (by omega))
  have hdp : 0 < val D dn := by have := val_nonneg hD; omega
  have HK := Lib.hid (And.intro kA (And.intro hg hdp))
  have f0 := cell?_alloc_new w #[.bool xn, .slice ua un uc, .slice da dn dc] 31 0 (.bool xn) rfl
  have f1 := cell?_alloc_new w #[.bool xn, .slice ua un uc, .slice da dn dc] 31 1 (.slice ua un uc) rfl
  have f2 := cell?_alloc_new w #[.bool xn, .slice ua un uc, .slice da dn dc] 31 2 (.slice da dn dc) rfl
  clear hu hU hd hD kA hg hd0 hdp
  go_enter Tryz.func27, Tryz.ntmps27
  go_wp2_with fail
  refine HR.out.mono ?_
  rintro e w1 ⟨zb, a, n, c, b, m, d, rfl, g1, g2, g3, g4, g5, g6, g7⟩
  have HS := Lib.hid (FloatString_any zb _ a n c U (val U un) b m d D (val D dn) k w1 g5.ic g6.ic (ratp_nums g5 (by omega)) g5.nm g5.v (by omega) (ratp_nums g6 (by omega)) g6.nm g6.v (by omega) HK.out.2.2 (HK.out.2.1.far (HK.out.1.trans g7 (fun _ _ _ h => h))) hk (fun h => by
    rw [Bool.and_eq_true, decide_eq_true_eq] at h
    exact h.2))
  have H7 := Lib.hid (HK.out.1.trans g7 (fun _ _ _ h => h))
  clear g1 g2 g3 g4 g5 g6 g7
  go_wp2_with fail
  refine HS.out.mono ?_
  rintro e w2 ⟨s, rfl, h1, h2⟩
  have H := Lib.hid (And.intro h1 h2)
  clear h1 h2
  go_wp2
  go_ret
  exact ⟨s, rfl, H.out.1, H7.out.trans H.out.2 (fun _ _ _ h => h)⟩
def LongP (w : World) (n k : Nat) (e : Ending) (w' : World) : Prop := e = .returned (.bool (decide (k < n))) ∧ Chg zNone w w'
set_option maxHeartbeats 1000000 in
theorem long_any (ua : Option Addr) (un uc : Nat) (k : Nat) (w : World) : Calls Tryz.prog 51 #[.slice ua un uc, .int .i64 k] w (LongP w un k) := by
  go_enter Tryz.func51, Tryz.ntmps51
  go_wp2_with fail
  go_ret
  exact ⟨rfl, Chg.refl _ _⟩
def FitsP (w : World) (b : Bool) (e : Ending) (w' : World) : Prop := e = .returned (.bool b) ∧ Chg zNone w w'
set_option maxHeartbeats 1000000 in
theorem fits2_any (xn : Bool) (ua : Option Addr) (un uc : Nat) (w : World) : Calls Tryz.prog 50 #[.agg #[.bool xn, .slice ua un uc]] w (FitsP w (decide (un ≤ 2147483647))) := by
  have hk : Chg zNone w (w.alloc (.cells #[.bool xn, .slice ua un uc] 29)) := (Chg.refl _ _).alloc _
  have HK := Lib.hid hk
  clear hk
  by_cases h : un ≤ 2147483647
  · have d1 : decide (2147483647 < (un : Int)) = false := decide_eq_false (by omega)
    have d1' : decide (2147483647 < un) = false := decide_eq_false (by omega)
    have H := Lib.hid (decide_eq_true h)
    clear h
    go_enter Tryz.func50, Tryz.ntmps50
    go_wp2_with fail
    go_ret
    exact ⟨by rw [H.out]; rfl, HK.out⟩
  · have d1 : decide (2147483647 < (un : Int)) = true := decide_eq_true (by omega)
    have d1' : decide (2147483647 < un) = true := decide_eq_true (by omega)
    have H := Lib.hid (decide_eq_false h)
    clear h
    go_enter Tryz.func50, Tryz.ntmps50
    go_wp2_with fail
    go_ret
    exact ⟨by rw [H.out]; rfl, HK.out⟩
set_option maxHeartbeats 2000000 in
theorem fits3_any (xn : Bool) (ua : Option Addr) (un uc : Nat) (da : Option Addr) (dn dc : Nat) (w : World) : Calls Tryz.prog 17 #[fracV xn ua un uc da dn dc] w (FitsP w (decide (un ≤ 2147483647) && decide (dn ≤ 2147483647))) := by
  obtain ⟨wA, hwA⟩ : ∃ wA, wA = w.alloc (.cells #[.bool xn, .slice ua un uc, .slice da dn dc] 31) := ⟨_, rfl⟩
  have kA : Chg zNone w wA := by rw [hwA]; exact (Chg.refl _ _).alloc _
  have hF : ∀ i v, (#[Value.bool xn, .slice ua un uc, .slice da dn dc])[i]? = some v → wA.cell? ⟨w.heap.size, i, none⟩ = some v := fun i v h => by rw [hwA]; exact three_cells w _ _ _ 31 i v h
  have HC := Lib.hid (fits2_any xn ua un uc wA)
  have HK := Lib.hid (And.intro kA hF)
  have HWA := Lib.hid hwA
  rw [hwA] at HC
  clear kA hF hwA
  unfold fracV
  by_cases h : dn ≤ 2147483647
  · have d1 : decide (2147483647 < (dn : Int)) = false := decide_eq_false (by omega)
    have d1' : decide (2147483647 < dn) = false := decide_eq_false (by omega)
    have H := Lib.hid (decide_eq_true h)
    clear h
    go_enter Tryz.func17, Tryz.ntmps17
    go_wp2_with fail
    refine HC.out.mono ?_
    rintro e w1 ⟨rfl, k1⟩
    rw [← HWA.out] at k1
    have f1 := k1.cell (HK.out.2 2 _ rfl) (fun h => h)
    have HR := Lib.hid (HK.out.1.trans k1 (fun _ _ _ h => h))
    clear k1
    cases hb : decide (un ≤ 2147483647)
    all_goals
      go_wp2
      go_ret
      exact ⟨by rw [H.out, hb]; rfl, HR.out⟩
  · have d1 : decide (2147483647 < (dn : Int)) = true := decide_eq_true (by omega)
    have d1' : decide (2147483647 < dn) = true := decide_eq_true (by omega)
    have H := Lib.hid (decide_eq_false h)
    clear h
    go_enter Tryz.func17, Tryz.ntmps17
    go_wp2_with fail
    refine HC.out.mono ?_
    rintro e w1 ⟨rfl, k1⟩
    rw [← HWA.out] at k1
    have f1 := k1.cell (HK.out.2 2 _ rfl) (fun h => h)
    have HR := Lib.hid (HK.out.1.trans k1 (fun _ _ _ h => h))
    clear k1
    cases hb : decide (un ≤ 2147483647)
    all_goals
      go_wp2
      go_ret
      exact ⟨by rw [H.out, hb]; rfl, HR.out⟩
end Go.Proofs.YtmgfajamanakcaaGreatDoor
namespace Go.Proofs.YtmgfajamanakcaaGreatDoor.Si
set_option linter.unusedVariables false
set_option linter.unusedSimpArgs false
open Go Go.RowKit
set_option maxRecDepth 100000
theorem NatV.fresh_set {wc wv : World} {a : Option Addr} {n c : Nat} {V : Int} (h : NatV wv a n c V) (hf : Fresh wc a) {p : Nat} (hp : p < wc.heap.size) (i : Nat) (v : Value) : NatV (wv.setCell ⟨p, i, none⟩ v) a n c V := by
  refine h.chg (chg_cell wv p i v) ?_
  rintro b o ⟨po, e, _⟩ hh
  rcases hf with h1 | ⟨b2, o2, e2, hb⟩
  · rw [h1] at e; cases e
  · rw [e2] at e
    injection e with e
    injection e with e3 _
    have := hh.1
    omega
structure SrcC (w : World) (p : Nat) (ng : Bool) (b : Int) (a : Option Addr) (n c : Nat) (bh ex : Int) (two : Bool) : Prop where
  ng : w.cell? ⟨p, 0, none⟩ = some (.bool ng)
  b : w.cell? ⟨p, 1, none⟩ = some (.int .i64 b)
  mt : w.cell? ⟨p, 2, none⟩ = some (.slice a n c)
  bh : w.cell? ⟨p, 3, none⟩ = some (.int .i64 bh)
  ex : w.cell? ⟨p, 4, none⟩ = some (.int .i64 ex)
  tw : w.cell? ⟨p, 5, none⟩ = some (.bool two)
  pb : PB w p
theorem SrcC.chg {Z : Zone} {w w' : World} {p : Nat} {ng : Bool} {b : Int} {a : Option Addr} {n c : Nat} {bh ex : Int} {two : Bool} (h : SrcC w p ng b a n c bh ex two) (k : Chg Z w w') (hz : ∀ o, ¬ Z p o) : SrcC w' p ng b a n c bh ex two :=
  ⟨k.cell h.ng (hz _), k.cell h.b (hz _), k.cell h.mt (hz _), k.cell h.bh (hz _), k.cell h.ex (hz _), k.cell h.tw (hz _), h.pb.chg k⟩
end Go.Proofs.YtmgfajamanakcaaGreatDoor.Si
namespace Go.Proofs.YtmgfajamanakcaaGreatDoor.Si
set_option linter.unusedVariables false
set_option linter.unusedSimpArgs false
def SRnd (neg : Bool) (N D : Int) (P : Nat) (md q k acc : Int) : Prop := ∃ m t, Rounded neg N D P md m t acc ∧ DyEq q k m t
theorem SRnd.shift {neg : Bool} {N D md q k acc : Int} {P c d : Nat} (h : SRnd neg (N * 2 ^ c) (D * 2 ^ d) P md q k acc) : SRnd neg N D P md q (k + d - c) acc := by
  obtain ⟨m, t, h1, a, b, e1, e2⟩ := h
  exact ⟨m, _, h1.unshift, a, b, by omega, e2⟩
end Go.Proofs.YtmgfajamanakcaaGreatDoor.Si
namespace Go.Proofs.YtmgfajamanakcaaGreatDoor.Si
set_option linter.unusedVariables false
set_option linter.unusedSimpArgs false
open Go Go.RowKit
set_option maxRecDepth 100000
structure DyC (w : World) (p : Nat) (ng : Bool) (a : Option Addr) (n c : Nat) (ex : Int) : Prop where
  ng : w.cell? ⟨p, 0, none⟩ = some (.bool ng)
  mt : w.cell? ⟨p, 1, none⟩ = some (.slice a n c)
  ex : w.cell? ⟨p, 2, none⟩ = some (.int .i64 ex)
  pb : PB w p
theorem DyC.chg {Z : Zone} {w w' : World} {p : Nat} {ng : Bool} {a : Option Addr} {n c : Nat} {ex : Int} (h : DyC w p ng a n c ex) (k : Chg Z w w') (hz : ∀ o, ¬ Z p o) : DyC w' p ng a n c ex :=
  ⟨k.cell h.ng (hz _), k.cell h.mt (hz _), k.cell h.ex (hz _), h.pb.chg k⟩
theorem DyC.lt {w : World} {p : Nat} {ng : Bool} {a : Option Addr} {n c : Nat} {ex : Int} (h : DyC w p ng a n c ex) : p < w.heap.size := h.pb.lt
theorem dy_row (w' : World) (b : Nat) (v0 v1 v2 : Value) :
    Chg (zRow b 0 3) w' (((w'.setCell ⟨b, 0, none⟩ v0).setCell ⟨b, 1, none⟩ v1).setCell ⟨b, 2, none⟩ v2) :=
  (((Chg.refl _ _).setCell b 0 _ (fun _ => ⟨rfl, by omega, by omega⟩)).setCell b 1 _ (fun _ => ⟨rfl, by omega, by omega⟩)).setCell b 2 _ (fun _ => ⟨rfl, by omega, by omega⟩)
theorem DyC.three {w : World} {p : Nat} {ng : Bool} {a : Option Addr} {n c : Nat} {ex : Int} (h : DyC w p ng a n c ex) (ng' : Bool) (a' : Option Addr) (n' c' : Nat) (ex' : Int) :
    DyC (((w.setCell ⟨p, 0, none⟩ (.bool ng')).setCell ⟨p, 1, none⟩ (.slice a' n' c')).setCell ⟨p, 2, none⟩ (.int .i64 ex')) p ng' a' n' c' ex' := by
  obtain ⟨h0, h1, h2, hp⟩ := h
  refine ⟨?_, ?_, ?_, hp.chg (dy_row w p _ _ _)⟩
  · rw [cs_other (by omega), cs_other (by omega)]; exact cs_same (u := .bool ng) h0
  · rw [cs_other (by omega)]; exact cs_same (u := .slice a n c) (by rw [cs_other (by omega)]; exact h1)
  · exact cs_same (u := .int .i64 ex) (by rw [cs_other (by omega), cs_other (by omega)]; exact h2)
def Sz3 (w : World) (p : Nat) : Prop := ∃ c e fr, w.heap[p]? = some (.cells c e fr) ∧ c.size = 3
theorem Sz3.chg {Z : Zone} {w w' : World} {p : Nat} (h : Sz3 w p) (k : Chg Z w w') : Sz3 w' p := by
  obtain ⟨c, e, fr, h1, h2⟩ := h
  obtain ⟨c', g1, g2, _⟩ := k.cells p c e fr h1
  exact ⟨c', e, fr, g1, g2.trans h2⟩
theorem Sz3.new (w : World) (v0 v1 v2 : Value) (t : TypeId) : Sz3 (w.alloc (.cells #[v0, v1, v2] t)) w.heap.size := ⟨_, _, _, Array.getElem?_push_size, rfl⟩
theorem Sz3.none {w : World} {p o : Nat} (h : Sz3 w p) (ho : 3 ≤ o) : w.cell? ⟨p, o, .none⟩ = .none := by
  obtain ⟨c, e, fr, h1, h2⟩ := h
  simp only [World.cell?, h1]
  simp
  omega
end Go.Proofs.YtmgfajamanakcaaGreatDoor.Si
namespace Go.Proofs.YtmgfajamanakcaaGreatDoor
set_option linter.unusedVariables false
set_option linter.unusedSimpArgs false
open Go
section
variable {P : Program} {ops : Array Oper} {Q : Exit → Act → World → Prop} {md : Region.Mode} {S : World → Prop}
def HReady (P : Program) (md : Region.Mode) (ops : Array Oper) (Q : Exit → Act → World → Prop) (S : World → Prop) (fuel : Nat) (listed : Array Bool) (a : Act) (w : World) (rs : List Nat) : Prop :=
  ∀ i ∈ rs, wpOp P ops Q i (fun a' w' => S w' ∧ wpAnyH P md ops Q S fuel (listed.setIfInBounds i true) a' w') a w
theorem HReady.nil {fuel : Nat} {listed : Array Bool} {a : Act} {w : World} : HReady P md ops Q S fuel listed a w [] := fun _ h => by cases h
theorem HReady.cons {fuel : Nat} {listed : Array Bool} {a : Act} {w : World} {i : Nat} {o : Oper} {rs : List Nat} (ho : ops[i]? = some o)
    (h : ∀ K' : Act → World → Prop, (∀ a w, (S w ∧ wpAnyH P md ops Q S fuel (listed.setIfInBounds i true) a w) → K' a w) → if Region.wanted o (yielded ops a.tmps) = true then Oper.wp P o a w K' Q else K' (a.put o.dst undef) w)
    (hs : HReady P md ops Q S fuel listed a w rs) : HReady P md ops Q S fuel listed a w (i :: rs) := fun j hj => by
  rcases List.mem_cons.1 hj with rfl | hj
  · exact wpOp_step ho h
  · exact hs j hj
theorem wpAnyH_ready {rs : List Nat} {fuel : Nat} {listed : Array Bool} {a : Act} {w : World} (hr : Region.ready md ops listed = rs) (hne : rs ≠ [])
    (h : HReady P md ops Q S fuel listed a w rs) : wpAnyH P md ops Q S (fuel + 1) listed a w := wpAnyH_all hr hne h
end
theorem putL (t : List Value) (ds : List Deferred) (i : Nat) (v : Value) : Act.put { tmps := t.toArray, defers := ds } (some i) v = { tmps := (t.set i v).toArray, defers := ds } := by
  simp [Act.put]
theorem putN (a : Act) (v : Value) : Act.put a none v = a := rfl
end Go.Proofs.YtmgfajamanakcaaGreatDoor
