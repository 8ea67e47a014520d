/- Part of the proof of FnParse: what the functions that it reaches do, as contracts. Conditions: those that each theorem names. -/
import Derived.Test.YtmgfajamanakcaaGreatDoorR25
import Derived.Deep.LoopGhost
namespace Go.Proofs.YtmgfajamanakcaaGreatDoor
set_option linter.unusedVariables false
set_option linter.unusedSimpArgs false
open Go.RowKit
set_option maxRecDepth 100000
def Tab5 (w : World) : Prop := ∀ i : Nat, i < 28 → w.cell? ⟨7, i, none⟩ = some (.int .u64 (5 ^ i))
theorem five_le {i : Nat} (h : i < 28) : (0 : Int) < 5 ^ i ∧ (5 : Int) ^ i < 18446744073709551616 := by
  have h1 : ∀ i : Fin 28, (0 : Int) < 5 ^ i.val ∧ (5 : Int) ^ i.val < 18446744073709551616 := by decide
  exact h1 ⟨i, h⟩
set_option maxHeartbeats 4000000 in
theorem pow5_small (zb n : Nat) (v : FV) (X : Nat → Int) (w : World) (h : FNum w zb v X) (hp : 64 ≤ v.p) (hn : n ≤ 27) (hT : Tab5 w) :
    Calls Tryz.prog 175 #[.pointer (some ⟨zb, 0, none⟩), .int .u64 (n : Int)] w fun e w' => e = .returned (.pointer (some ⟨zb, 0, none⟩)) ∧ SetU w zb v (5 ^ n) w' := by
  obtain ⟨f1, f2⟩ := five_le (i := n) (by omega); have HS := Lib.hid (SetUint64_any zb v X (5 ^ n) w h hp (by omega) ⟨by omega, f2⟩); have hc := hT n (by omega); obtain ⟨x, hx⟩ : ∃ x : Int, 5 ^ n = x := ⟨_, rfl⟩; rw [hx] at hc HS ⊢; have d1 : decide ((n : Int) ≤ 27) = true := by simp; omega
  have j1 : (0 : Int) ≤ (n : Int) := by omega
  have j2 : (n : Int) < 28 := by omega
  clear h hT hx f1 f2
  go_enter Tryz.func175, Tryz.ntmps175
  go_wp2_with fail; refine HS.out.mono ?_; rintro e w1 ⟨rfl, h1⟩; have H := Lib.hid h1; clear h1; go_wp2; go_ret; exact ⟨rfl, H.out⟩
def PowInv (w0 : World) (zb fb p : Nat) (v0 : FV) (wr : World) : Prop :=
  ∃ v X vf Xf, FNum wr zb v X ∧ FNum wr fb vf Xf ∧ Big v p ∧ Big vf (p + 64) ∧ (∀ b o, zF zb v b o → ¬ zF fb vf b o) ∧ v.md = v0.md ∧ Home w0 v0.a v0.c v.a v.c ∧ (∀ b o, zF fb vf b o → w0.heap.size ≤ b) ∧ Chg (zF zb v0) w0 wr
theorem zF_lt {w : World} {b : Nat} {v : FV} {X : Nat → Int} (h : FNum w b v X) : ∀ b' o, zF b v b' o → b' < w.heap.size := by
  rintro b' o (hh | ⟨po, e, _⟩)
  · rw [hh.1]; exact h.c.lt
  · exact h.z.lt e
theorem sep_after {w w' : World} {zb fb : Nat} {v v' vf : FV} {Xf Z : Nat → Int} (hf : FNum w fb vf Xf) (hs : ∀ b o, zF zb v b o → ¬ zF fb vf b o) (k : FNew w zb v w' v' Z) : FNum w' fb vf Xf ∧ ∀ b o, zF zb v' b o → ¬ zF fb vf b o := by
  refine ⟨hf.chg k.chg (fun b o h1 h2 => hs b o h2 h1), ?_⟩; rintro b o (hh | hh) h2
  · exact hs b o (Or.inl hh) h2
  · rcases k.home with ⟨e1, e2⟩ | ⟨b2, o2, e, hb⟩
    · rw [e1, e2] at hh; exact hs b o (Or.inr hh) h2
    · obtain ⟨po, e3, _⟩ := hh
      rw [e] at e3; injection e3 with e3; injection e3 with e4 _; have := zF_lt hf b o h2; omega
theorem home_trans {w0 wr : World} {a0 a a' : Option Addr} {c0 c c' : Nat} (hh : Home w0 a0 c0 a c) (k : Home wr a c a' c') (hs : w0.heap.size ≤ wr.heap.size) : Home w0 a0 c0 a' c' := by
  rcases k with ⟨e1, e2⟩ | ⟨b2, o2, e, hb⟩
  · rw [e1, e2]; exact hh
  · exact Or.inr ⟨b2, o2, e, by omega⟩
theorem zF_home {w0 : World} {zb : Nat} {v0 v : FV} (hh : Home w0 v0.a v0.c v.a v.c) : ∀ b o, b < w0.heap.size → zF zb v b o → zF zb v0 b o := by
  rintro b o hb (hz | hz)
  · exact Or.inl hz
  · exact Or.inr (hh.zone b o hb hz)
theorem PowInv.mulz {w0 wr w' : World} {zb fb p : Nat} {v0 v vf v' : FV} {Xf Z : Nat → Int} (hf : FNum wr fb vf Xf) (bf : Big vf (p + 64)) (hs : ∀ b o, zF zb v b o → ¬ zF fb vf b o) (hm : v.md = v0.md) (hh : Home w0 v0.a v0.c v.a v.c) (hfr : ∀ b o, zF fb vf b o → w0.heap.size ≤ b) (hc : Chg (zF zb v0) w0 wr)
    (k : FNew wr zb v w' v' Z) (bz : Big v' p) : PowInv w0 zb fb p v0 w' := by
  obtain ⟨s1, s2⟩ := sep_after hf hs k; exact ⟨v', Z, vf, Xf, k.num, s1, bz, bf, s2, k.md.trans hm, home_trans hh k.home hc.size, hfr, hc.trans k.chg (zF_home hh)⟩
theorem PowInv.mulf {w0 wr w' : World} {zb fb p : Nat} {v0 v vf v' : FV} {X Z : Nat → Int} (hz : FNum wr zb v X) (bz : Big v p) (hs : ∀ b o, zF zb v b o → ¬ zF fb vf b o) (hm : v.md = v0.md) (hh : Home w0 v0.a v0.c v.a v.c) (hfr : ∀ b o, zF fb vf b o → w0.heap.size ≤ b) (hc : Chg (zF zb v0) w0 wr)
    (k : FNew wr fb vf w' v' Z) (bf : Big v' (p + 64)) : PowInv w0 zb fb p v0 w' := by
  obtain ⟨s1, s2⟩ := sep_after hz (fun b o h1 h2 => hs b o h2 h1) k; refine ⟨v, X, v', Z, s1, k.num, bz, bf, fun b o h1 h2 => s2 b o h2 h1, hm, hh, ?_, hc.trans k.chg (fun b o hb hh2 => by have := hfr b o hh2; omega)⟩; rintro b o (hz2 | hz2)
  · exact hfr b o (Or.inl hz2)
  · rcases k.home with ⟨e1, e2⟩ | ⟨b2, o2, e, hb⟩
    · rw [e1, e2] at hz2; exact hfr b o (Or.inr hz2)
    · obtain ⟨po, e3, _⟩ := hz2
      rw [e] at e3; injection e3 with e3; injection e3 with e4 _; have := hc.size; omega
set_option maxHeartbeats 8000000 in
theorem pow5_large (zb n p : Nat) (v : FV) (X : Nat → Int) (w : World) (h : FNum w zb v X) (hp : v.p = (p : Int)) (hp1 : 64 ≤ p) (hp2 : p ≤ 576) (hn : 27 < n) (hn2 : n < 18446744073709551616) (hT : Tab5 w) (hg : ∀ b o, zF zb v b o → 14 ≤ b)
    (hK1 : w.cell? ⟨1, 0, none⟩ = some (.int .i64 40)) (hK5 : w.cell? ⟨5, 0, none⟩ = some (.int .i64 12)) (hK6 : w.cell? ⟨6, 0, none⟩ = some (.int .i64 80)) :
    Calls Tryz.prog 175 #[.pointer (some ⟨zb, 0, none⟩), .int .u64 (n : Int)] w fun e w' => e = .returned (.pointer (some ⟨zb, 0, none⟩)) ∧ ∃ v' Z, FNew w zb v w' v' Z ∧ Big v' p := by
  have HS := Lib.hid (SetUint64_any zb v X 7450580596923828125 w h (by omega) (by decide) ⟨by decide, by decide⟩)
  have hc : w.cell? ⟨7, 27, none⟩ = some (.int .u64 7450580596923828125) := by
    have := hT 27 (by decide); rw [show (5 : Int) ^ 27 = 7450580596923828125 by decide] at this; exact this
  have d1 : decide ((n : Int) ≤ 27) = false := by simp; omega
  have H := Lib.hid (And.intro h (And.intro hg (And.intro hK1 (And.intro hK5 (And.intro hK6 hp))))); have w1 : IntKind.u64.wrap ((n : Int) - 27) = (n : Int) - 27 := by rw [wrap_u64]; omega
  clear h hT hg hK1 hK5 hK6 hp
  go_enter Tryz.func175, Tryz.ntmps175
  go_wp2_with fail; refine HS.out.mono ?_; rintro e w2 ⟨rfl, v1, Z1, g1, g2, g3, g4, g5, g6, g7, g8⟩; have hal := newFlt w2 136; have kal : Chg zNone w2 (w2.alloc (.cells #[.int .u32 0, .int .u8 0, .int .i8 0, .int .u8 0, .bool false, .slice none 0 0, .int .i32 0] 136)) := (Chg.refl _ _).alloc _; obtain ⟨W3, hW3⟩ : ∃ x, x = w2.alloc (.cells #[.int .u32 0, .int .u8 0, .int .i8 0, .int .u8 0, .bool false, .slice none 0 0, .int .i32 0] 136) := ⟨_, rfl⟩; rw [← hW3] at hal kal; have h3 := g1.num.chg kal (fun _ _ _ h => h); have hpv : v1.p = (p : Int) := g1.p.trans H.out.2.2.2.2.2; have HP := Lib.hid (Prec_any zb v1 W3 h3.c (by omega)); rw [hpv] at HP; have HQ := Lib.hid (SetPrec_new w2.heap.size _ ((p : Int) + 64) W3 hal rfl rfl (by omega)); have HG := Lib.hid (And.intro g1 (And.intro g4 (And.intro g5 (And.intro g7 (And.intro g8 (And.intro kal hW3)))))); have w4 : IntKind.u64.wrap ((p : Int) + 64) = (p : Int) + 64 := by rw [wrap_u64]; omega
  rw [hW3] at HP HQ; clear g1 g2 g3 g4 g5 g6 g7 g8 hal kal h3 hpv hW3 hc; go_wp2_with fail; refine HP.out.mono ?_; rintro e w5 ⟨rfl, rfl⟩; go_wp2_with fail; refine HQ.out.mono ?_; rintro e w6 ⟨rfl, q1, q2⟩; have hF : FNum w6 w2.heap.size ⟨(p : Int) + 64, 0, 0, 0, false, none, 0, 0, 0⟩ X := ⟨q1, Or.inl ⟨rfl, rfl⟩, fun _ _ e => (by cases e), (by simp only; omega), (by simp), Or.inl rfl, (by simp), fun e => by cases e⟩; have HR := Lib.hid (SetUint64_any w2.heap.size _ X 5 w6 hF (by simp only; omega) (by decide) ⟨by decide, by decide⟩); have HQ2 := Lib.hid (And.intro q2 hF); clear q1 q2 hF; go_wp2_with fail; refine HR.out.mono ?_; rintro e w7 ⟨rfl, vf, Zf, r1, r2, r3, r4, r5, r6, r7, r8⟩
  have hI : PowInv w zb w2.heap.size p v w7 := by
    obtain ⟨g1, g4, g5, g7, g8, kal, hW3⟩ := HG.out; obtain ⟨q2, hF⟩ := HQ2.out; rw [← hW3] at q2; have z2 := zF_lt g1.num
    have zf : ∀ b o, zF w2.heap.size vf b o → w2.heap.size ≤ b := by
      rintro b o (hh | ⟨po, e, _⟩)
      · rw [hh.1]; exact Nat.le_refl _
      · rcases r1.home with ⟨e1, _⟩ | ⟨b2, o2, e1, hb⟩
        · simp only at e1; rw [e1] at e; cases e
        · rw [e1] at e; injection e with e; injection e with e3 _
          have := q2.size; have := kal.size; omega
    have zf0 : ∀ b o, zF w2.heap.size ⟨(p : Int) + 64, 0, 0, 0, false, none, 0, 0, 0⟩ b o → w2.heap.size ≤ b := by
      rintro b o (hh | ⟨po, e, _⟩)
      · rw [hh.1]; exact Nat.le_refl _
      · cases e
    have n1 := ((g1.num.chg kal (fun _ _ _ h => h)).chg q2 (fun b o hh hz => by have := z2 b o hh; have := hz.1; omega)).chg r1.chg (fun b o hh hz => by have := z2 b o hh; have := zf0 b o hz; omega); refine ⟨v1, Z1, vf, Zf, n1, r1.num, ⟨g1.p.trans H.out.2.2.2.2.2, Or.inr ⟨g4, by omega, by omega⟩⟩, ⟨by have := r1.p; simp only at this; rw [this]; push_cast; rfl, Or.inr ⟨r4, by omega, by omega⟩⟩, fun b o h1 h2 => by have := z2 b o h1; have := zf b o h2; omega, g1.md, g1.home, fun b o h1 => by have := zf b o h1; have := g1.chg.size; omega, ?_⟩; refine ((g1.chg.trans kal (fun _ _ _ h => h.elim)).trans q2 (fun b o hb hh => ?_)).trans r1.chg (fun b o hb hh => ?_)
    · have := hh.1; have := g1.chg.size; omega
    · have := zf0 b o hh; have := g1.chg.size; omega
  have hsz : w.heap.size ≤ w2.heap.size := HG.out.1.chg.size; have HI := Lib.hid hI; clear r1 r2 r3 r4 r5 r6 r7 r8 hI HR HQ HP HS; go_wp2_with fail
  go_loopw [1] (fun s1 wr => ∃ m : Nat, s1 = .int .u64 (m : Int) ∧ m < 18446744073709551616 ∧ Hid (PowInv w zb w2.heap.size p v wr)) (fun s1 _ => (intOf s1).toNat)
  case atStart => exact ⟨n - 27, by go_num, by omega, HI.out⟩
  case round =>
    obtain ⟨m, rfl, hm, HW⟩ := hrel; obtain ⟨v', X', vf', Xf', i1, i2, i3, i4, i5, i6, i7, i8, i9⟩ := HW.out
    by_cases h0 : m = 0
    · have e1 : decide ((0 : Int) < (m : Int)) = false := by simp; omega
      have e2 : decide (0 < m) = false := by simp; omega
      have HX := Lib.hid (show FNew w zb v wr v' X' ∧ Big v' p from ⟨⟨i1, i3.1.trans H.out.2.2.2.2.2.symm, i6, i7, i9⟩, i3⟩); clear i1 i2 i3 i4 i5 i6 i7 i8 i9; go_wp2; go_ret; exact ⟨rfl, v', X', HX.out⟩
    · have e1 : decide ((0 : Int) < (m : Int)) = true := by simp; omega
      have e2 : decide (0 < m) = true := by simp; omega
      have hb := and_one_u m hm; have k1 : ∀ o v, w.cell? ⟨o, 0, none⟩ = some v → o < 14 → wr.cell? ⟨o, 0, none⟩ = some v := fun o v hc ho => i9.cell hc (fun hh => by have := H.out.2.1 _ _ hh; omega)
      have hz14 : 14 ≤ zb := H.out.2.1 zb 0 (Or.inl ⟨rfl, by omega, by omega⟩); have hf7 : 7 < w2.heap.size := by have := lt_of_cell H.out.2.2.2.2.1; have := H.out.1.c.lt; omega
      have hne : zb ≠ w2.heap.size := fun e => by have := i8 w2.heap.size 0 (Or.inl ⟨rfl, by omega, by omega⟩); have := H.out.1.c.lt; omega
      have half : (m : Int) / 2 = ((m / 2 : Nat) : Int) := by omega
      have hsh : (m : Int).fdiv (2 ^ min (Int.toNat 1) IntKind.u64.bits) = ((m / 2 : Nat) : Int) := by
        show (m : Int).fdiv 2 = _
        rw [Int.fdiv_eq_ediv_of_nonneg _ (by decide)]; omega
      by_cases ho : m % 2 = 1
      · rw [ho] at hb
        have hbb : (bits BinOp.and IntKind.u64 (m : Int) 1 != 0) = true := by rw [hb]; rfl
        have HM1 := Lib.hid (Mul_big zb w2.heap.size p (p + 64) v' vf' X' Xf' wr i1 i2 i3 i4 (by omega) (by omega) hne i5 (k1 1 _ H.out.2.2.1 (by decide)) (by omega)); have HW2 := Lib.hid (And.intro i1 (And.intro i2 (And.intro i3 (And.intro i4 (And.intro i5 (And.intro i6 (And.intro i7 (And.intro i8 i9)))))))); clear i1 i2 i3 i4 i5 i6 i7 i8 i9 hb; go_wp2_with fail; refine HM1.out.mono ?_; rintro e w8 ⟨rfl, v8, Z8, t1, t2⟩; obtain ⟨i1, i2, i3, i4, i5, i6, i7, i8, i9⟩ := HW2.out; obtain ⟨v9, X9, vf9, Xf9, j1, j2, j3, j4, j5, j6, j7, j8, j9⟩ := PowInv.mulz i2 i4 i5 i6 i7 i8 i9 t1 t2; have k2 : ∀ o v, w.cell? ⟨o, 0, none⟩ = some v → o < 14 → w8.cell? ⟨o, 0, none⟩ = some v := fun o v hc ho => j9.cell hc (fun hh => by have := H.out.2.1 _ _ hh; omega)
        have HM2 := Lib.hid (Mul_big_self w2.heap.size (p + 64) vf9 Xf9 w8 j2 j4 (by omega) (k2 5 _ H.out.2.2.2.1 (by decide)) (k2 6 _ H.out.2.2.2.2.1 (by decide)) (by omega) (by omega)); have HW3 := Lib.hid (And.intro j1 (And.intro j3 (And.intro j5 (And.intro j6 (And.intro j7 (And.intro j8 j9)))))); clear i1 i2 i3 i4 i5 i6 i7 i8 i9 j1 j2 j3 j4 j5 j6 j7 j8 j9 t1 t2 HM1 k1 k2; go_wp2_with fail; refine HM2.out.mono ?_; rintro e w9 ⟨rfl, v10, Z10, t1, t2⟩; obtain ⟨j1, j3, j5, j6, j7, j8, j9⟩ := HW3.out; have HP := Lib.hid (PowInv.mulf j1 j3 j5 j6 j7 j8 j9 t1 t2); clear j1 j3 j5 j6 j7 j8 j9 t1 t2 HM2; go_wp2; go_wp2
        rename_i hK
        refine hK _ _ ?_; rw [hsh]; go_wp2
        rename_i hK2
        refine hK2 _ _ ?_; go_wp2; refine ⟨⟨_, _, _, _, _, _, _, _, _, _, _, _, _, _, _, _, ⟨m / 2, rfl, by omega, HP⟩, rfl⟩, ?_⟩; show m / 2 < m
        omega
      · have ho0 : m % 2 = 0 := by omega
        rw [ho0] at hb; have hbb : (bits BinOp.and IntKind.u64 (m : Int) 1 != 0) = false := by rw [hb]; rfl
        have HM2 := Lib.hid (Mul_big_self w2.heap.size (p + 64) vf' Xf' wr i2 i4 (by omega) (k1 5 _ H.out.2.2.2.1 (by decide)) (k1 6 _ H.out.2.2.2.2.1 (by decide)) (by omega) (by omega)); have HW3 := Lib.hid (And.intro i1 (And.intro i3 (And.intro i5 (And.intro i6 (And.intro i7 (And.intro i8 i9)))))); clear i1 i2 i3 i4 i5 i6 i7 i8 i9 k1 hb; go_wp2_with fail; refine HM2.out.mono ?_; rintro e w9 ⟨rfl, v10, Z10, t1, t2⟩; obtain ⟨j1, j3, j5, j6, j7, j8, j9⟩ := HW3.out; have HP := Lib.hid (PowInv.mulf j1 j3 j5 j6 j7 j8 j9 t1 t2); clear j1 j3 j5 j6 j7 j8 j9 t1 t2 HM2; go_wp2; go_wp2
        rename_i hK
        refine hK _ _ ?_; rw [hsh]; go_wp2
        rename_i hK2
        refine hK2 _ _ ?_; go_wp2; refine ⟨⟨_, _, _, _, _, _, _, _, _, _, _, _, _, _, _, _, ⟨m / 2, rfl, by omega, HP⟩, rfl⟩, ?_⟩; show m / 2 < m
        omega
end Go.Proofs.YtmgfajamanakcaaGreatDoor
