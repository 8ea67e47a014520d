/- Part of the proof of FnParse: what the functions that it reaches do, as contracts. Conditions: those that each theorem names. -/
import Derived.Test.YtmgfajamanakcaaGreatDoorT33
import Derived.Test.YtmgfajamanakcaaGreatDoorT36
import Derived.Test.YtmgfajamanakcaaGreatDoorT03
import Derived.Deep.DeepCutAuto
import Derived.Test.YtmgfajamanakcaaGreatDoorT12
import Derived.Test.YtmgfajamanakcaaGreatDoorT15
import Derived.Test.YtmgfajamanakcaaGreatDoorT16
import Derived.Test.YtmgfajamanakcaaGreatDoorT35
import Derived.OrdersHeld
import Derived.RegionTactic
namespace Go.Proofs.YtmgfajamanakcaaGreatDoor.Si
set_option linter.unusedVariables false
set_option linter.unusedSimpArgs false
open Go Go.RowKit
set_option maxRecDepth 100000
theorem NatV.fresh_set {wc wv : World} {a : Option Addr} {n c : Nat} {V : Int} (h : NatV wv a n c V) (hf : Fresh wc a) {p : Nat} (hp : p < wc.heap.size) (i : Nat) (v : Value) : NatV (wv.setCell ⟨p, i, none⟩ v) a n c V := by
  refine h.chg (chg_cell wv p i v) ?_
  rintro b o ⟨po, e, _⟩ hh
  rcases hf with h1 | ⟨b2, o2, e2, hb⟩
  · rw [h1] at e; cases e
  · rw [e2] at e
    injection e with e
    injection e with e3 _
    have := hh.1
    omega
structure SrcC (w : World) (p : Nat) (ng : Bool) (b : Int) (a : Option Addr) (n c : Nat) (bh ex : Int) (two : Bool) : Prop where
  ng : w.cell? ⟨p, 0, none⟩ = some (.bool ng)
  b : w.cell? ⟨p, 1, none⟩ = some (.int .i64 b)
  mt : w.cell? ⟨p, 2, none⟩ = some (.slice a n c)
  bh : w.cell? ⟨p, 3, none⟩ = some (.int .i64 bh)
  ex : w.cell? ⟨p, 4, none⟩ = some (.int .i64 ex)
  tw : w.cell? ⟨p, 5, none⟩ = some (.bool two)
  pb : PB w p
theorem SrcC.chg {Z : Zone} {w w' : World} {p : Nat} {ng : Bool} {b : Int} {a : Option Addr} {n c : Nat} {bh ex : Int} {two : Bool} (h : SrcC w p ng b a n c bh ex two) (k : Chg Z w w') (hz : ∀ o, ¬ Z p o) : SrcC w' p ng b a n c bh ex two :=
  ⟨k.cell h.ng (hz _), k.cell h.b (hz _), k.cell h.mt (hz _), k.cell h.bh (hz _), k.cell h.ex (hz _), k.cell h.tw (hz _), h.pb.chg k⟩
end Go.Proofs.YtmgfajamanakcaaGreatDoor.Si
namespace Go.Proofs.YtmgfajamanakcaaGreatDoor.Si
set_option linter.unusedVariables false
set_option linter.unusedSimpArgs false
def SRnd (neg : Bool) (N D : Int) (P : Nat) (md q k acc : Int) : Prop := ∃ m t, Rounded neg N D P md m t acc ∧ DyEq q k m t
theorem SRnd.shift {neg : Bool} {N D md q k acc : Int} {P c d : Nat} (h : SRnd neg (N * 2 ^ c) (D * 2 ^ d) P md q k acc) : SRnd neg N D P md q (k + d - c) acc := by
  obtain ⟨m, t, h1, a, b, e1, e2⟩ := h
  exact ⟨m, _, h1.unshift, a, b, by omega, e2⟩
end Go.Proofs.YtmgfajamanakcaaGreatDoor.Si
namespace Go.Proofs.YtmgfajamanakcaaGreatDoor.Si
set_option linter.unusedVariables false
set_option linter.unusedSimpArgs false
open Go Go.RowKit
set_option maxRecDepth 100000
structure DyC (w : World) (p : Nat) (ng : Bool) (a : Option Addr) (n c : Nat) (ex : Int) : Prop where
  ng : w.cell? ⟨p, 0, none⟩ = some (.bool ng)
  mt : w.cell? ⟨p, 1, none⟩ = some (.slice a n c)
  ex : w.cell? ⟨p, 2, none⟩ = some (.int .i64 ex)
  pb : PB w p
theorem DyC.chg {Z : Zone} {w w' : World} {p : Nat} {ng : Bool} {a : Option Addr} {n c : Nat} {ex : Int} (h : DyC w p ng a n c ex) (k : Chg Z w w') (hz : ∀ o, ¬ Z p o) : DyC w' p ng a n c ex :=
  ⟨k.cell h.ng (hz _), k.cell h.mt (hz _), k.cell h.ex (hz _), h.pb.chg k⟩
theorem DyC.lt {w : World} {p : Nat} {ng : Bool} {a : Option Addr} {n c : Nat} {ex : Int} (h : DyC w p ng a n c ex) : p < w.heap.size := h.pb.lt
theorem dy_row (w' : World) (b : Nat) (v0 v1 v2 : Value) :
    Chg (zRow b 0 3) w' (((w'.setCell ⟨b, 0, none⟩ v0).setCell ⟨b, 1, none⟩ v1).setCell ⟨b, 2, none⟩ v2) :=
  (((Chg.refl _ _).setCell b 0 _ (fun _ => ⟨rfl, by omega, by omega⟩)).setCell b 1 _ (fun _ => ⟨rfl, by omega, by omega⟩)).setCell b 2 _ (fun _ => ⟨rfl, by omega, by omega⟩)
theorem DyC.three {w : World} {p : Nat} {ng : Bool} {a : Option Addr} {n c : Nat} {ex : Int} (h : DyC w p ng a n c ex) (ng' : Bool) (a' : Option Addr) (n' c' : Nat) (ex' : Int) :
    DyC (((w.setCell ⟨p, 0, none⟩ (.bool ng')).setCell ⟨p, 1, none⟩ (.slice a' n' c')).setCell ⟨p, 2, none⟩ (.int .i64 ex')) p ng' a' n' c' ex' := by
  obtain ⟨h0, h1, h2, hp⟩ := h
  refine ⟨?_, ?_, ?_, hp.chg (dy_row w p _ _ _)⟩
  · rw [cs_other (by omega), cs_other (by omega)]; exact cs_same (u := .bool ng) h0
  · rw [cs_other (by omega)]; exact cs_same (u := .slice a n c) (by rw [cs_other (by omega)]; exact h1)
  · exact cs_same (u := .int .i64 ex) (by rw [cs_other (by omega), cs_other (by omega)]; exact h2)
def Sz3 (w : World) (p : Nat) : Prop := ∃ c e fr, w.heap[p]? = some (.cells c e fr) ∧ c.size = 3
theorem Sz3.chg {Z : Zone} {w w' : World} {p : Nat} (h : Sz3 w p) (k : Chg Z w w') : Sz3 w' p := by
  obtain ⟨c, e, fr, h1, h2⟩ := h
  obtain ⟨c', g1, g2, _⟩ := k.cells p c e fr h1
  exact ⟨c', e, fr, g1, g2.trans h2⟩
theorem Sz3.new (w : World) (v0 v1 v2 : Value) (t : TypeId) : Sz3 (w.alloc (.cells #[v0, v1, v2] t)) w.heap.size := ⟨_, _, _, Array.getElem?_push_size, rfl⟩
end Go.Proofs.YtmgfajamanakcaaGreatDoor.Si
namespace Go.Proofs.YtmgfajamanakcaaGreatDoor
set_option linter.unusedVariables false
set_option linter.unusedSimpArgs false
open Go
section
variable {P : Program} {ops : Array Oper} {Q : Exit → Act → World → Prop} {md : Region.Mode} {S : World → Prop}
def HReady (P : Program) (md : Region.Mode) (ops : Array Oper) (Q : Exit → Act → World → Prop) (S : World → Prop) (fuel : Nat) (listed : Array Bool) (a : Act) (w : World) (rs : List Nat) : Prop :=
  ∀ i ∈ rs, wpOp P ops Q i (fun a' w' => S w' ∧ wpAnyH P md ops Q S fuel (listed.setIfInBounds i true) a' w') a w
theorem HReady.nil {fuel : Nat} {listed : Array Bool} {a : Act} {w : World} : HReady P md ops Q S fuel listed a w [] := fun _ h => by cases h
theorem HReady.cons {fuel : Nat} {listed : Array Bool} {a : Act} {w : World} {i : Nat} {o : Oper} {rs : List Nat} (ho : ops[i]? = some o)
    (h : ∀ K' : Act → World → Prop, (∀ a w, (S w ∧ wpAnyH P md ops Q S fuel (listed.setIfInBounds i true) a w) → K' a w) → if Region.wanted o (yielded ops a.tmps) = true then Oper.wp P o a w K' Q else K' (a.put o.dst undef) w)
    (hs : HReady P md ops Q S fuel listed a w rs) : HReady P md ops Q S fuel listed a w (i :: rs) := fun j hj => by
  rcases List.mem_cons.1 hj with rfl | hj
  · exact wpOp_step ho h
  · exact hs j hj
theorem wpAnyH_ready {rs : List Nat} {fuel : Nat} {listed : Array Bool} {a : Act} {w : World} (hr : Region.ready md ops listed = rs) (hne : rs ≠ [])
    (h : HReady P md ops Q S fuel listed a w rs) : wpAnyH P md ops Q S (fuel + 1) listed a w := wpAnyH_all hr hne h
end
theorem putL (t : List Value) (ds : List Deferred) (i : Nat) (v : Value) : Act.put { tmps := t.toArray, defers := ds } (some i) v = { tmps := (t.set i v).toArray, defers := ds } := by
  simp [Act.put]
theorem putN (a : Act) (v : Value) : Act.put a none v = a := rfl
end Go.Proofs.YtmgfajamanakcaaGreatDoor
