/-
  impl.wordsOf, impl.told, impl.fraction, walked: the words of an Int, in fresh memory. Conditions: the cells as IntC says, fewer than 2^39 words.
-/
import Derived.Test.YtmgfajamanakcaaGreatDoorIg
import Derived.Test.YtmgfajamanakcaaGreatDoorAu
import Derived.Deep.LoopGhost
import Derived.Outline
namespace Go.Proofs.YtmgfajamanakcaaGreatDoor
open Go.RowKit
set_option maxRecDepth 100000
set_option linter.unusedVariables false
def WordsPost (w : World) (n : Nat) (X : Nat → Int) (e : Ending) (w' : World) : Prop :=
  ∃ a c, e = .returned (.slice a n c) ∧ n ≤ c ∧ ZOK w' a c ∧ Fresh w a ∧ Rd w' a n X ∧ Chg zNone w w'
def WordsRel (w : World) (n : Nat) (X : Nat → Int) (k : Nat) (s3 s9 : Value) (wc : World) : Prop :=
  ∃ (i : Nat) (a : Option Addr) (c : Nat), s3 = .slice a i c ∧ s9 = .int .i64 (i : Int) ∧ i + k = n ∧ Hid (i ≤ c ∧ ZOK wc a c ∧ Fresh w a ∧ Rd wc a i X ∧ Chg zNone w wc)
theorem fresh_home {w w1 : World} {a a' : Option Addr} {c c' : Nat} (h : Fresh w a) (hh : Home w1 a c a' c') (hw : w.heap.size ≤ w1.heap.size) : Fresh w a' := by
  rcases hh with ⟨rfl, _⟩ | ⟨b, o, e, hb⟩
  · exact h
  · exact Or.inr ⟨b, o, e, by omega⟩
set_option maxHeartbeats 2000000 in
theorem wordsOf_any (zb zo : Nat) (neg : Bool) (a : Option Addr) (n c : Nat) (X : Nat → Int) (w : World) (hz : IntC w zb zo neg a n c) (hr : Rd w a n X) (hn : n < 549755813888) :
    Calls Tryz.prog 84 #[.pointer (some ⟨zb, zo, none⟩)] w (WordsPost w n X) := by
  have HB := Lib.hid (Bits_any zb zo neg a n c w hz)
  have HR := Lib.hid hr
  clear hz hr
  go_enter Tryz.func84, Tryz.ntmps84
  go_wp2_with fail
  refine HB.out.mono ?_
  rintro e w0 ⟨rfl, rfl⟩
  go_wp2_with fail
  go_loopg [3, 5, 9] n (fun k s3 s5 s9 wc => WordsRel w n X k s3 s9 wc)
  case atStart => exact ⟨0, none, 0, rfl, rfl, by omega, Nat.le_refl _, Or.inl ⟨rfl, rfl⟩, Or.inl rfl, Or.inl rfl, Chg.refl _ _⟩
  case round =>
    obtain ⟨i, a', c', rfl, rfl, hk, H⟩ := hrel
    by_cases hi : i < n
    · have h1 : decide ((i : Int) < (n : Int)) = true := by simp; omega
      have h2 : (0 : Int) ≤ (i : Int) := by omega
      have h3 : (i : Int) < (n : Int) := by omega
      obtain ⟨x, hx⟩ : ∃ x, X i = x := ⟨_, rfl⟩
      obtain ⟨b, o, rfl, hw⟩ : ∃ b o, a = some ⟨b, o, none⟩ ∧ Words w b o n X := by
        rcases HR.out with h | h
        · omega
        · exact h
      have hc := H.out.2.2.2.2.cell (hw i hi) (fun h => h)
      rw [hx] at hc
      have Hx := Lib.hid hx
      clear hx hw
      have kal : Chg zNone wr (wr.alloc (.cells #[.int .u64 x] 22)) := (Chg.refl _ _).alloc _
      have HX := Lib.hid (show ZOK (wr.alloc (.cells #[.int .u64 x] 22)) a' c' ∧ Rd (wr.alloc (.cells #[.int .u64 x] 22)) a' i X ∧ (wr.alloc (.cells #[.int .u64 x] 22)).cell? ⟨wr.heap.size, 0, none⟩ = some (.int .u64 x) from
        ⟨H.out.2.1.chg kal (fun _ _ _ h => h), rd_far H.out.2.2.2.1 kal (fun _ _ _ _ _ h => h), cell?_alloc_new wr #[.int .u64 x] 22 0 (.int .u64 x) rfl⟩)
      have HK := Lib.hid (H.out.2.2.2.2.trans kal (fun _ _ _ h => h))
      have x3 := H.out.1
      have x4 : i < 1099511627776 := by omega
      clear kal
      go_wp2_with (refine wpList_append_uint rfl (.tmp 13) (.tmp 15) rfl a' i c' X _ _ rfl rfl HX.out.1 HX.out.2.1 x3 x4 HX.out.2.2 ?_; rintro a2 c2 w2 h2; have H2 := Lib.hid h2; clear h2)
      go_roundg (gk - 1)
      case measure => omega
      case rel =>
        obtain ⟨g1, g2, g3, g4, g5⟩ := H2.out
        refine ⟨i + 1, a2, c2, rfl, by go_num, by omega, g1, g2, fresh_home H.out.2.2.1 g4 HK.out.size, ?_, HK.out.trans g5 ?_⟩
        · rcases g3 with h | ⟨b', o', e, hw⟩
          · omega
          · refine Or.inr ⟨b', o', e, hw.congr (fun j hj => ?_)⟩
            by_cases hji : j = i
            · subst hji; rw [upd_same]; exact Hx.out.symm
            · exact upd_other X x hji
        · rintro b' o' hb ⟨p, e, _⟩
          exact (fresh_far H.out.2.2.1 hb e rfl).elim
    · have h1 : decide ((i : Int) < (n : Int)) = false := by simp; omega
      obtain rfl : i = n := by omega
      go_wp2
      go_ret
      exact ⟨a', c', rfl, H.out⟩
def ToldPost (w : World) (neg : Bool) (n : Nat) (X : Nat → Int) (e : Ending) (w' : World) : Prop :=
  ∃ a c, e = .returned (.agg #[.bool (decide (sgnV n neg < 0)), .slice a n c]) ∧ n ≤ c ∧ ZOK w' a c ∧ Fresh w a ∧ Rd w' a n X ∧ Chg zNone w w'
set_option maxHeartbeats 2000000 in
theorem told_any (zb zo : Nat) (neg : Bool) (a : Option Addr) (n c : Nat) (X : Nat → Int) (w : World) (hz : IntC w zb zo neg a n c) (hr : Rd w a n X) (hn : n < 549755813888) :
    Calls Tryz.prog 82 #[.pointer (some ⟨zb, zo, none⟩)] w (ToldPost w neg n X) := by
  have kal : Chg zNone w (w.alloc (.cells #[.bool false, .slice none 0 0] 29)) := (Chg.refl _ _).alloc _
  have HS := Lib.hid (Sign_any zb zo neg a n c _ (hz.chg kal (fun _ _ h => h)))
  have HW := Lib.hid (wordsOf_any zb zo neg a n c X _ (hz.chg kal (fun _ _ h => h)) (rd_far hr kal (fun _ _ _ _ _ h => h)) hn)
  have HK := Lib.hid kal
  have HN := Lib.hid (And.intro (cell?_alloc_new w #[.bool false, .slice none 0 0] 29 0 (.bool false) rfl) (And.intro (cell?_alloc_new w #[.bool false, .slice none 0 0] 29 1 (.slice none 0 0) rfl) (frozen?_alloc_new w #[.bool false, .slice none 0 0] 29)))
  have hsz : w.heap.size < (w.alloc (.cells #[.bool false, .slice none 0 0] 29)).heap.size := by
    show _ < (w.heap.push _).size
    simp
  clear hz hr kal
  obtain ⟨B, hB⟩ : ∃ B, decide (sgnV n neg < 0) = B := ⟨_, rfl⟩
  have HB := Lib.hid hB
  go_enter Tryz.func82, Tryz.ntmps82
  go_wp2_with fail
  refine HS.out.mono ?_
  rintro e w1 ⟨rfl, rfl⟩
  go_wp2_with fail
  refine HW.out.mono ?_
  rintro e w2 ⟨a', c', rfl, h1, h2, h3, h4, h5⟩
  have c0 : w2.cell? ⟨w.heap.size, 0, none⟩ = some (.bool false) := h5.cell HN.out.1 (fun h => h)
  have c1 : w2.cell? ⟨w.heap.size, 1, none⟩ = some (.slice none 0 0) := h5.cell HN.out.2.1 (fun h => h)
  have g0 : w2.frozen? ⟨w.heap.size, 0, none⟩ = false := (h5.frozen HN.out.1 _).trans (HN.out.2.2 _)
  have g1 : w2.frozen? ⟨w.heap.size, 1, none⟩ = false := (h5.frozen HN.out.1 _).trans (HN.out.2.2 _)
  have H := Lib.hid (And.intro h1 (And.intro h2 (And.intro h3 (And.intro h4 h5))))
  clear h1 h2 h3 h4 h5 hsz
  go_wp2
  have d0 : ((w2.setCell ⟨w.heap.size, 0, none⟩ (.bool B)).setCell ⟨w.heap.size, 1, none⟩ (.slice a' n c')).cell? ⟨w.heap.size, 0, none⟩ = some (.bool B) := by
    rw [cs_other (by decide)]; exact cs_same c0
  have d1 : ((w2.setCell ⟨w.heap.size, 0, none⟩ (.bool B)).setCell ⟨w.heap.size, 1, none⟩ (.slice a' n c')).cell? ⟨w.heap.size, 1, none⟩ = some (.slice a' n c') :=
    cs_same (by rw [cs_other (by decide)]; exact c1)
  have kk : Chg (zRow w.heap.size 0 2) w2 ((w2.setCell ⟨w.heap.size, 0, none⟩ (.bool B)).setCell ⟨w.heap.size, 1, none⟩ (.slice a' n c')) :=
    ((Chg.refl _ _).setCell _ 0 _ (fun _ => ⟨rfl, by omega, by omega⟩)).setCell _ 1 _ (fun _ => ⟨rfl, by omega, by omega⟩)
  refine bodyPost_ret (v := .agg #[.bool B, .slice a' n c']) (by simp [results, Tryz.results82, go_sem, d0, d1]) rfl ?_
  have hsz : w.heap.size < (w.alloc (.cells #[.bool false, .slice none 0 0] 29)).heap.size := by
    show _ < (w.heap.push _).size
    simp
  obtain ⟨h1, h2, h3, h4, h5⟩ := H.out
  refine ⟨a', c', by rw [HB.out], h1, h2.chg kk ?_, ?_, rd_far h4 kk ?_, (HK.out.trans h5 (fun _ _ _ h => h)).trans kk (fun b o hb hh => by have := hh.1; omega)⟩
  · rintro b o ⟨p, e, _⟩ hh
    exact fresh_far h3 hsz e hh.1
  · rcases h3 with h | ⟨b, o, e, hb⟩
    · exact Or.inl h
    · exact Or.inr ⟨b, o, e, by omega⟩
  · rintro b o i e _ hh
    exact fresh_far h3 hsz e hh.1
def FracPost (w : World) (neg : Bool) (n m : Nat) (X Y : Nat → Int) (e : Ending) (w' : World) : Prop :=
  ∃ a c b d, e = .returned (.agg #[.bool (decide (sgnV n neg < 0)), .slice a n c, .slice b m d]) ∧ Rd w' a n X ∧ Rd w' b m Y ∧ Fresh w a ∧ Fresh w b ∧ Chg zNone w w'
set_option maxHeartbeats 2000000 in
theorem fraction_any (rb : Nat) (neg neg2 : Bool) (a b : Option Addr) (n c m d : Nat) (X Y : Nat → Int) (w : World) (hA : IntC w rb 0 neg a n c) (hB : IntC w rb 2 neg2 b m d) (hr : Rd w a n X) (hr2 : Rd w b m Y) (hn : n < 549755813888) (hm : m < 549755813888) (hm0 : 0 < m) :
    Calls Tryz.prog 43 #[.pointer (some ⟨rb, 0, none⟩)] w (FracPost w neg n m X Y) := by
  have kal : Chg zNone w (w.alloc (.cells #[.bool false, .slice none 0 0, .slice none 0 0] 31)) := (Chg.refl _ _).alloc _
  have HNu := Lib.hid (Num_any rb (w.alloc (.cells #[.bool false, .slice none 0 0, .slice none 0 0] 31)))
  have HT := Lib.hid (told_any rb 0 neg a n c X _ (hA.chg kal (fun _ _ h => h)) (rd_far hr kal (fun _ _ _ _ _ h => h)) hn)
  have HB := Lib.hid (And.intro (hB.chg kal (fun _ _ h => h)) (rd_far hr2 kal (fun _ _ _ _ _ h => h)))
  have HK := Lib.hid kal
  have HN := Lib.hid (And.intro (cell?_alloc_new w #[.bool false, .slice none 0 0, .slice none 0 0] 31 0 (.bool false) rfl) (And.intro (cell?_alloc_new w #[.bool false, .slice none 0 0, .slice none 0 0] 31 1 (.slice none 0 0) rfl)
    (And.intro (cell?_alloc_new w #[.bool false, .slice none 0 0, .slice none 0 0] 31 2 (.slice none 0 0) rfl) (frozen?_alloc_new w #[.bool false, .slice none 0 0, .slice none 0 0] 31))))
  clear hA hB hr hr2 kal
  obtain ⟨B, hB⟩ : ∃ B, decide (sgnV n neg < 0) = B := ⟨_, rfl⟩
  have HBB := Lib.hid hB
  go_enter Tryz.func43, Tryz.ntmps43
  go_wp2_with fail
  refine HNu.out.mono ?_
  rintro e w1 ⟨rfl, rfl⟩
  go_wp2_with fail
  refine HT.out.mono ?_
  rintro e w2 ⟨a1, c1, rfl, h1, h2, h3, h4, h5⟩
  rw [HBB.out]
  have H := Lib.hid (And.intro h1 (And.intro h2 (And.intro h3 (And.intro h4 h5))))
  have HB2 := Lib.hid (And.intro (HB.out.1.chg h5 (fun _ _ h => h)) (rd_far HB.out.2 h5 (fun _ _ _ _ _ h => h)))
  have HD := Lib.hid (Denom_any rb neg2 b m d w2 HB2.out.1 hm0)
  clear h1 h2 h3 h4 h5
  go_wp2_with fail
  refine HD.out.mono ?_
  rintro e w3 ⟨rfl, rfl⟩
  have HW := Lib.hid (wordsOf_any rb 2 neg2 b m d Y w2 HB2.out.1 HB2.out.2 hm)
  go_wp2_with fail
  refine HW.out.mono ?_
  rintro e w4 ⟨b1, dd, rfl, j1, j2, j3, j4, j5⟩
  have hc : ∀ i v, (w.alloc (.cells #[.bool false, .slice none 0 0, .slice none 0 0] 31)).cell? ⟨w.heap.size, i, none⟩ = some v → w4.cell? ⟨w.heap.size, i, none⟩ = some v := fun i v h => j5.cell (H.out.2.2.2.2.cell h (fun h => h)) (fun h => h)
  have e0 : w4.cell? ⟨w.heap.size, 0, none⟩ = some (.bool false) := hc 0 _ HN.out.1
  have e1 : w4.cell? ⟨w.heap.size, 1, none⟩ = some (.slice none 0 0) := hc 1 _ HN.out.2.1
  have e2 : w4.cell? ⟨w.heap.size, 2, none⟩ = some (.slice none 0 0) := hc 2 _ HN.out.2.2.1
  have hg : ∀ i, w4.frozen? ⟨w.heap.size, i, none⟩ = false := fun i => ((j5.frozen (H.out.2.2.2.2.cell HN.out.1 (fun h => h)) _).trans (H.out.2.2.2.2.frozen HN.out.1 _)).trans (HN.out.2.2.2 _)
  have g0 := hg 0
  have g1 := hg 1
  have g2 := hg 2
  have J := Lib.hid (And.intro j1 (And.intro j2 (And.intro j3 (And.intro j4 j5))))
  clear j1 j2 j3 j4 j5 hc hg
  go_wp2
  have d0 : (((w4.setCell ⟨w.heap.size, 0, none⟩ (.bool B)).setCell ⟨w.heap.size, 1, none⟩ (.slice a1 n c1)).setCell ⟨w.heap.size, 2, none⟩ (.slice b1 m dd)).cell? ⟨w.heap.size, 0, none⟩ = some (.bool B) := by
    rw [cs_other (by decide), cs_other (by decide)]; exact cs_same e0
  have d1 : (((w4.setCell ⟨w.heap.size, 0, none⟩ (.bool B)).setCell ⟨w.heap.size, 1, none⟩ (.slice a1 n c1)).setCell ⟨w.heap.size, 2, none⟩ (.slice b1 m dd)).cell? ⟨w.heap.size, 1, none⟩ = some (.slice a1 n c1) := by
    rw [cs_other (by decide)]; exact cs_same (by rw [cs_other (by decide)]; exact e1)
  have d2 : (((w4.setCell ⟨w.heap.size, 0, none⟩ (.bool B)).setCell ⟨w.heap.size, 1, none⟩ (.slice a1 n c1)).setCell ⟨w.heap.size, 2, none⟩ (.slice b1 m dd)).cell? ⟨w.heap.size, 2, none⟩ = some (.slice b1 m dd) :=
    cs_same (by rw [cs_other (by decide), cs_other (by decide)]; exact e2)
  have kk : Chg (zRow w.heap.size 0 3) w4 (((w4.setCell ⟨w.heap.size, 0, none⟩ (.bool B)).setCell ⟨w.heap.size, 1, none⟩ (.slice a1 n c1)).setCell ⟨w.heap.size, 2, none⟩ (.slice b1 m dd)) :=
    (((Chg.refl _ _).setCell _ 0 _ (fun _ => ⟨rfl, by omega, by omega⟩)).setCell _ 1 _ (fun _ => ⟨rfl, by omega, by omega⟩)).setCell _ 2 _ (fun _ => ⟨rfl, by omega, by omega⟩)
  refine bodyPost_ret (v := .agg #[.bool B, .slice a1 n c1, (.slice b1 m dd)]) (by simp [results, Tryz.results43, go_sem, d0, d1, d2]) rfl ?_
  have hsz : w.heap.size < (w.alloc (.cells #[.bool false, .slice none 0 0, .slice none 0 0] 31)).heap.size := by
    show _ < (w.heap.push _).size
    simp
  obtain ⟨h1, h2, h3, h4, h5⟩ := H.out
  obtain ⟨j1, j2, j3, j4, j5⟩ := J.out
  have hsz2 := h5.size
  have up : ∀ {w0 : World} {x : Option Addr}, w.heap.size ≤ w0.heap.size → Fresh w0 x → Fresh w x := fun hle hf => by
    rcases hf with h | ⟨b, o, e, hb⟩
    · exact Or.inl h
    · exact Or.inr ⟨b, o, e, by omega⟩
  refine ⟨a1, c1, b1, dd, by rw [HBB.out], rd_far (rd_far h4 j5 (fun _ _ _ _ _ h => h)) kk ?_, rd_far j4 kk ?_, up (by omega) h3, up (by omega) j3, ((HK.out.trans h5 (fun _ _ _ h => h)).trans j5 (fun _ _ _ h => h)).trans kk (fun b o hb hh => by have := hh.1; omega)⟩
  · rintro b o i e _ hh
    exact fresh_far h3 hsz e hh.1
  · rintro b o i e _ hh
    exact fresh_far j3 (show w.heap.size < w2.heap.size by omega) e hh.1
end Go.Proofs.YtmgfajamanakcaaGreatDoor
