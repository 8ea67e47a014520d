/- Part of the proof of FnParse: what the functions that it reaches do, as contracts. Conditions: those that each theorem names. -/
import Derived.Test.YtmgfajamanakcaaGreatDoorR45
namespace Go.Proofs.YtmgfajamanakcaaGreatDoor
set_option linter.unusedVariables false
set_option linter.unusedSimpArgs false
open Go.RowKit
set_option maxRecDepth 100000
set_option maxHeartbeats 1000000 in
theorem errNew_any (t : ByteArray) (w : World) : Calls Tryz.prog 114 #[.string t] w fun e w' => e = .returned (.iface 229 (.pointer (some ⟨w.heap.size, 0, none⟩))) ∧ Chg zNone w w' := by
  go_enter Tryz.func114, Tryz.ntmps114
  go_wp2
  go_ret
  exact ⟨rfl, (Chg.refl _ _).alloc _⟩
def Five (vp : FV) (Y : Nat → Int) (k : Nat) : Prop := k ≤ 27 → vp.fm = 1 ∧ vp.ng = false ∧ vp.n = 1 ∧ ∃ u : Nat, u < 64 ∧ val Y vp.n = 5 ^ k * 2 ^ u ∧ vp.e = 64 - (u : Int)
theorem pow5_full (zb n p : Nat) (v : FV) (X : Nat → Int) (w : World) (h : FNum w zb v X) (hp : v.p = (p : Int)) (hp1 : 64 ≤ p) (hp2 : p ≤ 576) (hn2 : n < 18446744073709551616) (hT : Tab5 w) (hg : ∀ b o, zF zb v b o → 14 ≤ b)
    (hK1 : w.cell? ⟨1, 0, none⟩ = some (.int .i64 40)) (hK5 : w.cell? ⟨5, 0, none⟩ = some (.int .i64 12)) (hK6 : w.cell? ⟨6, 0, none⟩ = some (.int .i64 80)) :
    Calls Tryz.prog 175 #[.pointer (some ⟨zb, 0, none⟩), .int .u64 (n : Int)] w fun e w' => e = .returned (.pointer (some ⟨zb, 0, none⟩)) ∧ ∃ v' Z, FNew w zb v w' v' Z ∧ Big v' p ∧ Five v' Z n := by
  by_cases hn : n ≤ 27
  · refine (pow5_small zb n v X w h (by omega) hn hT).mono ?_
    rintro e w' ⟨rfl, v1, Z1, g1, g2, g3, g4, g5, g6, g7, g8⟩
    exact ⟨rfl, v1, Z1, g1, ⟨g1.p.trans hp, Or.inr ⟨g4, by omega, by omega⟩⟩, fun _ => ⟨g4, g2, g5, _, g8, by rw [g5]; exact g6, g7⟩⟩
  · refine (pow5_large zb n p v X w h hp hp1 hp2 (by omega) hn2 hT hg hK1 hK5 hK6).mono ?_
    rintro e w' ⟨rfl, v1, Z1, g1, g2⟩
    exact ⟨rfl, v1, Z1, g1, g2, fun hh => absurd hh hn⟩
theorem quo_step {w wc : World} {br zb : Nat} {s : ByteArray} {v : FV} {neg : Bool} {sc : Scan} {ex : EScan} {P : Nat} {v1 : FV} {Z : Nat → Int} (h : PreRnd w br zb s v neg sc ex P wc v1 Z) (k : Nat) (h5 : -(x5of sc ex) = (k : Int)) (hk : 0 < k)
    (pb pp : Nat) (vp : FV) (Y : Nat → Int) (hp : FNum wc pb vp Y) (hb : Big vp pp) (hpp : pp ≤ 576) (hs : Five vp Y k) (hsep : ∀ b o, zF zb v1 b o → ¬ zF pb vp b o) (hK : wc.cell? ⟨4, 0, none⟩ = some (.int .i64 40)) (hz : 14 ≤ zb) :
    Calls Tryz.prog 89 #[.pointer (some ⟨zb, 0, none⟩), .pointer (some ⟨zb, 0, none⟩), .pointer (some ⟨pb, 0, none⟩)] wc fun e w' => e = .returned (.pointer (some ⟨zb, 0, none⟩)) ∧ FSRes w br zb s v neg sc ex P w' := by
  obtain ⟨b1, b2⟩ := hb
  have hne : zb ≠ pb := fun e => hsep zb 0 (Or.inl ⟨rfl, by omega, by omega⟩) (Or.inl ⟨e, by omega, by omega⟩)
  have hkn : (-(x5of sc ex)).toNat = k := by omega
  rcases b2 with b2 | ⟨b2, b3, b4⟩
  · refine (Quo_inf zb pb P v1 vp Z Y wc h.num hp h.fm b2 h.p hne hsep).mono ?_
    rintro e w' ⟨rfl, g1, g2⟩
    refine ⟨rfl, h.inf (Or.inl ?_) (Or.inl rfl) g1 g2⟩
    rcases Nat.lt_or_ge 27 k with h1 | h1
    · omega
    · have := (hs h1).1; omega
  · have hf := h.few
    refine (Quo_fin zb pb P v1 vp Z Y wc h.num hp h.fm b2 h.p hne hsep (by omega) (by omega) hK (by omega)).mono ?_
    rintro e w' ⟨rfl, v', Z', g⟩
    refine ⟨rfl, h.quo (by omega) g (fun q => ?_)⟩
    obtain ⟨_, q1, q2, u, q3, q4, q5⟩ := hs (by omega)
    rw [hkn]
    exact ⟨q1, q2, u, q3, q4, q5⟩
theorem mul_step {w wc : World} {br zb : Nat} {s : ByteArray} {v : FV} {neg : Bool} {sc : Scan} {ex : EScan} {P : Nat} {v1 : FV} {Z : Nat → Int} (h : PreRnd w br zb s v neg sc ex P wc v1 Z) (k : Nat) (h5 : x5of sc ex = (k : Int)) (hk : 0 < k)
    (pb pp : Nat) (vp : FV) (Y : Nat → Int) (hp : FNum wc pb vp Y) (hb : Big vp pp) (hpp : pp ≤ 576) (hs : Five vp Y k) (hsep : ∀ b o, zF zb v1 b o → ¬ zF pb vp b o) (hK : wc.cell? ⟨1, 0, none⟩ = some (.int .i64 40)) (hz : 14 ≤ zb) :
    Calls Tryz.prog 176 #[.pointer (some ⟨zb, 0, none⟩), .pointer (some ⟨zb, 0, none⟩), .pointer (some ⟨pb, 0, none⟩)] wc fun e w' => e = .returned (.pointer (some ⟨zb, 0, none⟩)) ∧ FSRes w br zb s v neg sc ex P w' := by
  obtain ⟨b1, b2⟩ := hb
  have hne : zb ≠ pb := fun e => hsep zb 0 (Or.inl ⟨rfl, by omega, by omega⟩) (Or.inl ⟨e, by omega, by omega⟩)
  have hkn : (x5of sc ex).toNat = k := by omega
  rcases b2 with b2 | ⟨b2, b3, b4⟩
  · refine (Mul_inf12 zb pb P v1 vp Z Y wc h.num hp h.fm b2 h.p hne hsep).mono ?_
    rintro e w' ⟨rfl, g1, g2⟩
    refine ⟨rfl, h.inf (Or.inr ?_) (Or.inr rfl) g1 g2⟩
    rcases Nat.lt_or_ge 27 k with h1 | h1
    · omega
    · have := (hs h1).1; omega
  · have hf := h.few
    refine (Mul_fin zb pb P v1 vp Z Y wc h.num hp h.fm b2 h.p hne hsep (by omega) (by omega) hK (by omega)).mono ?_
    rintro e w' ⟨rfl, v', Z', g⟩
    refine ⟨rfl, h.mul (by omega) g (fun q => ?_)⟩
    obtain ⟨_, q1, q2, u, q3, q4, q5⟩ := hs (by omega)
    rw [hkn]
    exact ⟨q1, q2, u, q3, q4, q5⟩
theorem PreRnd.five {w wc wd we : World} {br zb : Nat} {s : ByteArray} {v : FV} {neg : Bool} {sc : Scan} {ex : EScan} {P : Nat} {v1 : FV} {Z : Nat → Int} (h : PreRnd w br zb s v neg sc ex P wc v1 Z) {v0 vp : FV} {Y : Nat → Int} (k : Chg zNone wc wd) (h0 : v0.a = none) (hn : FNew wd wc.heap.size v0 we vp Y) :
    Chg zNone wc we ∧ ∀ b o, zF zb v1 b o → ¬ zF wc.heap.size vp b o := by
  have hz0 : ∀ b o, zF wc.heap.size v0 b o → wc.heap.size ≤ b := by
    rintro b o (hh | ⟨po, e, _⟩)
    · rw [hh.1]; exact Nat.le_refl _
    · rw [h0] at e; cases e
  have hzp : ∀ b o, zF wc.heap.size vp b o → wc.heap.size ≤ b := by
    rintro b o (hh | ⟨po, e, _⟩)
    · rw [hh.1]; exact Nat.le_refl _
    · rcases hn.home with ⟨e1, _⟩ | ⟨b2, o2, e1, hb⟩
      · rw [e1, h0] at e; cases e
      · rw [e1] at e; injection e with e; injection e with e3 _
        have := k.size
        omega
  have hz1 := zF_lt h.num
  refine ⟨k.trans hn.chg (fun b o hb hz => by have := hz0 b o hz; omega), fun b o q1 q2 => by have := hz1 b o q1; have := hzp b o q2; omega⟩
end Go.Proofs.YtmgfajamanakcaaGreatDoor
