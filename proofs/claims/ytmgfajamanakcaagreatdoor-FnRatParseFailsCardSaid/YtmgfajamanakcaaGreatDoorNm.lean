/-
  (*Rat).norm of 1 over a greater word, walked. Conditions: the cells as IntC says.
-/
import Derived.Test.YtmgfajamanakcaaGreatDoorGd
import Derived.Deep.RegionHeld3
namespace Go.Proofs.YtmgfajamanakcaaGreatDoor
open Go.RowKit
set_option maxRecDepth 100000
set_option linter.unusedVariables false
/-- What norm leaves of 1 over y. -/
def NormOne (w : World) (rb : Nat) (y : Int) (e : Ending) (w' : World) : Prop :=
  ∃ na a c b d, e = .returned (.pointer (some ⟨rb, 0, none⟩)) ∧ IntC w' rb 0 na a 1 c ∧ IntC w' rb 2 false b 1 d ∧ Rd w' a 1 (fun _ => 1) ∧ Rd w' b 1 (fun _ => y) ∧ Chg (zRow rb 0 4) w w'
theorem ord_lt {w : World} {a : Option Addr} {X : Nat → Int} (h : Rd w a 1 X) : ∃ b o, a = some ⟨b, o, none⟩ ∧ b < w.heap.size := by
  rcases h with h | ⟨b, o, e, hw⟩
  · cases h
  · exact ⟨b, o, e, lt_of_cell (hw 0 (by decide))⟩
theorem one_cells (w : World) : IntC ((w.alloc (.cells #[.int .u64 1] 153)).alloc (.cells #[.bool false, .slice (some ⟨w.heap.size, 0, none⟩) 1 1] 122)) (w.heap.size + 1) 0 false (some ⟨w.heap.size, 0, none⟩) 1 1 ∧
    NatIn ((w.alloc (.cells #[.int .u64 1] 153)).alloc (.cells #[.bool false, .slice (some ⟨w.heap.size, 0, none⟩) 1 1] 122)) (some ⟨w.heap.size, 0, none⟩) 1 1 (fun _ => 1) ∧
    PB ((w.alloc (.cells #[.int .u64 1] 153)).alloc (.cells #[.bool false, .slice (some ⟨w.heap.size, 0, none⟩) 1 1] 122)) (w.heap.size + 1) := by
  have s1 := alloc_size w (.cells #[.int .u64 1] 153)
  have k : Chg zNone (w.alloc (.cells #[.int .u64 1] 153)) ((w.alloc (.cells #[.int .u64 1] 153)).alloc (.cells #[.bool false, .slice (some ⟨w.heap.size, 0, none⟩) 1 1] 122)) := (Chg.refl _ _).alloc _
  refine ⟨⟨?_, ?_, ?_, ?_⟩, ⟨Or.inr ⟨_, _, rfl, fun i hi => ?_⟩, wf_one ⟨by decide, by decide⟩, Nat.le_refl _, by decide, Or.inr ⟨_, _, rfl, (PB.new w _ _).chg k, by decide⟩⟩, ?_⟩
  · have := cell?_alloc_new (w.alloc (.cells #[.int .u64 1] 153)) #[.bool false, .slice (some ⟨w.heap.size, 0, none⟩) 1 1] 122 0 _ rfl
    rwa [s1] at this
  · have := cell?_alloc_new (w.alloc (.cells #[.int .u64 1] 153)) #[.bool false, .slice (some ⟨w.heap.size, 0, none⟩) 1 1] 122 1 _ rfl
    rwa [s1] at this
  · have := frozen?_alloc_new (w.alloc (.cells #[.int .u64 1] 153)) #[.bool false, .slice (some ⟨w.heap.size, 0, none⟩) 1 1] 122 0
    rwa [s1] at this
  · have := frozen?_alloc_new (w.alloc (.cells #[.int .u64 1] 153)) #[.bool false, .slice (some ⟨w.heap.size, 0, none⟩) 1 1] 122 1
    rwa [s1] at this
  · obtain rfl : i = 0 := by omega
    exact k.cell (cell?_alloc_new w #[.int .u64 1] 153 0 _ rfl) (fun h => h)
  · have := PB.new (w.alloc (.cells #[.int .u64 1] 153)) #[.bool false, .slice (some ⟨w.heap.size, 0, none⟩) 1 1] 122
    rwa [s1] at this
set_option maxHeartbeats 8000000 in
theorem norm_one (rb : Nat) (na nb : Bool) (aa ba : Option Addr) (ac bc : Nat) (y : Int) (w : World) (ha : IntC w rb 0 na aa 1 ac) (hb : IntC w rb 2 nb ba 1 bc) (hra : Rd w aa 1 (fun _ => 1)) (hrb : Rd w ba 1 (fun _ => y))
    (hac : 1 ≤ ac) (hbc : 1 ≤ bc) (hy : 1 < y) (hy2 : y < 18446744073709551616) (hp : PB w rb) (hfa : ∀ b o, aa = some ⟨b, o, none⟩ → b ≠ rb) (hfb : ∀ b o, ba = some ⟨b, o, none⟩ → b ≠ rb) :
    Calls Tryz.prog 79 #[.pointer (some ⟨rb, 0, none⟩)] w (NormOne w rb y) := by
  have ltr := ha.lt
  have k0 : Chg (zRow rb 0 4) w ((w.setCell ⟨rb, 0, none⟩ (.bool false)).setCell ⟨rb, 2, none⟩ (.bool false)) := ((Chg.refl _ _).setCell _ _ _ (fun _ => ⟨rfl, by omega, by omega⟩)).setCell _ _ _ (fun _ => ⟨rfl, by omega, by omega⟩)
  have k1 : Chg zNone ((w.setCell ⟨rb, 0, none⟩ (.bool false)).setCell ⟨rb, 2, none⟩ (.bool false)) (((w.setCell ⟨rb, 0, none⟩ (.bool false)).setCell ⟨rb, 2, none⟩ (.bool false)).alloc (.cells #[.pointer none] 208)) := (Chg.refl _ _).alloc _
  have k2 : Chg (zRow rb 0 4) w (((w.setCell ⟨rb, 0, none⟩ (.bool false)).setCell ⟨rb, 2, none⟩ (.bool false)).alloc (.cells #[.pointer none] 208)) := k0.trans k1 (fun _ _ _ h => h.elim)
  have hA2 : IntC (((w.setCell ⟨rb, 0, none⟩ (.bool false)).setCell ⟨rb, 2, none⟩ (.bool false)).alloc (.cells #[.pointer none] 208)) rb 0 false aa 1 ac :=
    ((ha.sign (neg' := false)).chg (chg_cell _ _ _ _) (fun o ho h => by have := h.2; omega)).chg k1 (fun _ _ h => h)
  have hB2 : IntC (((w.setCell ⟨rb, 0, none⟩ (.bool false)).setCell ⟨rb, 2, none⟩ (.bool false)).alloc (.cells #[.pointer none] 208)) rb 2 false ba 1 bc :=
    ((hb.chg (chg_cell _ rb 0 (.bool false)) (fun o ho h => by have := h.2; omega)).sign (neg' := false)).chg k1 (fun _ _ h => h)
  have rA2 := rd_far hra k2 (fun b o i e _ h => hfa b o e h.1)
  have rB2 := rd_far hrb k2 (fun b o i e _ h => hfb b o e h.1)
  have p2 := hp.chg k2
  have z2 : (((w.setCell ⟨rb, 0, none⟩ (.bool false)).setCell ⟨rb, 2, none⟩ (.bool false)).alloc (.cells #[.pointer none] 208)).cell? ⟨w.heap.size, 0, none⟩ = some (.pointer none) := by
    have h0 := cell?_alloc_new ((w.setCell ⟨rb, 0, none⟩ (.bool false)).setCell ⟨rb, 2, none⟩ (.bool false)) #[.pointer none] 208 0 _ rfl
    rwa [World.size_setCell, World.size_setCell] at h0
  have sW : (((w.setCell ⟨rb, 0, none⟩ (.bool false)).setCell ⟨rb, 2, none⟩ (.bool false)).alloc (.cells #[.pointer none] 208)).heap.size = w.heap.size + 1 := by
    rw [alloc_size, World.size_setCell, World.size_setCell]
  obtain ⟨W, hW⟩ : ∃ W, W = (((w.setCell ⟨rb, 0, none⟩ (.bool false)).setCell ⟨rb, 2, none⟩ (.bool false)).alloc (.cells #[.pointer none] 208)) := ⟨_, rfl⟩
  rw [← hW] at k2 hA2 hB2 rA2 rB2 p2 z2 sW
  have kd : Chg zNone W (W.alloc (.cells #[.bool false, .slice none 0 0] 122)).drew := ((Chg.refl _ _).alloc _).drew
  have hn : IntC (W.alloc (.cells #[.bool false, .slice none 0 0] 122)).drew (w.heap.size + 1) 0 false none 0 0 := by
    have := newInt_cells W
    rw [sW] at this
    exact this.chg ((Chg.refl zNone _).drew) (fun _ _ h => h)
  have pn : PB (W.alloc (.cells #[.bool false, .slice none 0 0] 122)).drew (w.heap.size + 1) := by
    have := PB.new W #[.bool false, .slice none 0 0] 122
    rw [sW] at this
    exact this.chg ((Chg.refl zNone _).drew)
  have HL := Lib.hid (lehmer_one (w.heap.size + 1) 0 rb 0 rb 2 false false aa ba ac bc y _ hn (hA2.chg kd (fun _ _ h => h)) (hB2.chg kd (fun _ _ h => h)) (rd_far rA2 kd (fun _ _ _ _ _ h => h)) (rd_far rB2 kd (fun _ _ _ _ _ h => h))
    hac hbc hy hy2 pn (p2.chg kd) (p2.chg kd) (fun h => by omega) (fun h => by omega))
  have KD := Lib.hid kd
  have PN := Lib.hid pn
  clear hn pn
  have HG := Lib.hid (getStack_any w)
  have HK := Lib.hid k2
  have HF9 := Lib.hid (And.intro hfa hfb)
  have HZ := Lib.hid z2
  have HR := Lib.hid (And.intro rA2 (And.intro rB2 p2))
  have HI := Lib.hid (And.intro hA2 hB2)
  have HW := Lib.hid hW
  obtain ⟨a0, a1, a2, a3⟩ := ha
  obtain ⟨b0, b1, b2, b3⟩ := hb
  clear hra hrb hp hfa hfb k0 k1 k2 kd z2 rA2 rB2 p2 hA2 hB2 hW
  go_enter_defers Tryz.func79, Tryz.ntmps79
  go_wp2_with fail
  refine HG.out.mono ?_
  rintro e w1 ⟨rfl, rfl⟩
  go_wp2_with fail
  rw [← HW.out]
  go_cut [5] from 51 to 58 (fun s5 wc => s5 = .pointer (some ⟨w.heap.size + 1, 0, none⟩) ∧ ∃ a c, Hid (IntC wc (w.heap.size + 1) 0 false a 1 c ∧ 1 ≤ c ∧ ZOK wc a c ∧ Rd wc a 1 (fun _ => 1) ∧ Chg zNone W wc ∧ PB wc (w.heap.size + 1)))
  case first => as_aux_lemma =>
    refine wp_region_noPanic ?_
    go_region_with (first | (go_at_call 142; go_loud (refine (NewInt_zero _).mono ?_; rintro e w1 ⟨rfl, rfl⟩)) | (go_at_call 143; go_loud (refine HL.out.mono ?_; rintro e w2 ⟨a, c, rfl, h1, h2, h3, h4, h5, h6⟩; have H2 := Lib.hid (And.intro h1 (And.intro h2 (And.intro h3 (And.intro h5 h6)))); clear h1 h2 h3 h4 h5 h6)))
    all_goals refine NoPanic.normal ?_
    all_goals go_wp2
    all_goals go_meet
    all_goals refine ⟨rfl, a, c, H2.out.1, H2.out.2.1, H2.out.2.2.1, H2.out.2.2.2.1, KD.out.trans H2.out.2.2.2.2 ?_, PN.out.chg H2.out.2.2.2.2⟩
    all_goals intro b o hb hh
    all_goals have := hh.1
    all_goals omega
  case rest =>
    obtain ⟨rfl, fa, fc, HF⟩ := hcut
    clear a0 a1 a2 a3 b0 b1 b2 b3
    have k5 : Chg zNone wc ((wc.alloc (.cells #[.int .u64 1] 153)).alloc (.cells #[.bool false, .slice (some ⟨wc.heap.size, 0, none⟩) 1 1] 122)) := ((Chg.refl _ _).alloc _).alloc _
    have swc := HF.out.2.2.2.2.1.size
    have lf := HF.out.1.lt
    obtain ⟨o1, o2, o3⟩ := one_cells wc
    have zf := HF.out.2.2.1.chg k5 (fun _ _ _ h => h)
    have rf := rd_far HF.out.2.2.2.1 k5 (fun _ _ _ _ _ h => h)
    have Hcv : Hid (cmpV (val (fun _ => (1 : Int)) 1) (val (fun _ => (1 : Int)) 1) = 0) := cmpV_eq rfl
    have HC := Lib.hid (Cmp_pos (w.heap.size + 1) 0 (wc.heap.size + 1) 0 fa _ 1 fc 1 1 (fun _ => 1) (fun _ => 1) _ (HF.out.1.chg k5 (fun _ _ h => h)) o1 (natin_of zf rf (wf_one ⟨by decide, by decide⟩) HF.out.2.1 (by decide)) o2 (Or.inr (by decide)) (Or.inr (by decide)) (HF.out.2.2.2.2.2.chg k5) o3 (fun h => by omega))
    have KW := Lib.hid (HF.out.2.2.2.2.1.trans k5 (fun _ _ _ h => h))
    clear o1 o2 o3 zf rf k5
    go_wp2_with fail
    refine (intOne_any _).mono ?_
    rintro e w3 ⟨rfl, rfl⟩
    go_wp2_with fail
    refine HC.out.mono ?_
    rintro e w4 ⟨rfl, n, rfl⟩
    rw [Hcv.out]
    obtain ⟨W5, hW5⟩ : ∃ x, x = (wc.alloc (.cells #[.int .u64 1] 153)).alloc (.cells #[.bool false, .slice (some ⟨wc.heap.size, 0, none⟩) 1 1] 122) := ⟨_, rfl⟩
    rw [← hW5] at KW ⊢
    clear hW5 HC
    have KX : Hid (Chg zNone W (W5.drewN n)) := KW.out.drewN n
    obtain ⟨a0, a1, a2, a3⟩ := HI.out.1.chg KX.out (fun _ _ h => h)
    go_wp2
    have KY : Chg (zRow rb 0 4) W ((W5.drewN n).setCell ⟨rb, 0, none⟩ (.bool na)) := (KX.out.mono (fun _ _ _ h => h.elim)).setCell _ _ _ (fun _ => ⟨rfl, by omega, by omega⟩)
    have KY1 : Chg (zRow rb 0 1) W ((W5.drewN n).setCell ⟨rb, 0, none⟩ (.bool na)) := (KX.out.mono (fun _ _ _ h => h.elim)).setCell _ _ _ (fun _ => ⟨rfl, by omega, by omega⟩)
    refine leaves_cons (f := 101) (args := #[.pointer (some ⟨w.heap.size, 0, none⟩)]) (by simp) (by simp [go_sem]) ?_
    refine (free_none w.heap.size .returning _ ?_).mono ?_
    · exact KY.cell HZ.out (fun h => by have := h.1; omega)
    · rintro e u' w'' ⟨rfl, rfl, rfl⟩
      refine ⟨_, results_tmp rfl _ _ _, na, aa, ac, ba, bc, rfl, ?_, ?_, ?_, ?_, HK.out.trans KY (fun _ _ _ h => h)⟩
      · exact (HI.out.1.chg KX.out (fun _ _ h => h)).sign
      · exact HI.out.2.chg KY1 (fun o ho h => by have := h.2; omega)
      · exact rd_far HR.out.1 KY (fun b o i e _ h => HF9.out.1 b o e h.1)
      · exact rd_far HR.out.2.1 KY (fun b o i e _ h => HF9.out.2 b o e h.1)
end Go.Proofs.YtmgfajamanakcaaGreatDoor
