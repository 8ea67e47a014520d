/- Part of the proof of FnParse: what the functions that it reaches do, as contracts. Conditions: those that each theorem names. -/
import Derived.Test.YtmgfajamanakcaaGreatDoorR40
import Derived.Deep.CutBlock
import Derived.Deep.LoopGhost
namespace Go.Proofs.YtmgfajamanakcaaGreatDoor.Si
set_option linter.unusedVariables false
set_option linter.unusedSimpArgs false
open Go Go.RowKit
set_option maxRecDepth 100000
def ExA (w : World) (s : ByteArray) (ng : Bool) (b : Int) (a : Option Addr) (n c : Nat) (bh : Int) (two : Bool) (wc : World) : Prop :=
  SrcC wc w.heap.size ng b a n c bh 0 two ∧ SrcC wc (w.heap.size + 1) false 0 none 0 0 0 0 false ∧ (two = true ↔ (byteAt s 0 = 112 ∨ byteAt s 0 = 80)) ∧ Chg zNone w wc
theorem exA_start (w : World) (s : ByteArray) (ng : Bool) (b : Int) (a : Option Addr) (n c : Nat) (bh : Int) (two : Bool) (ht : two = true ↔ (byteAt s 0 = 112 ∨ byteAt s 0 = 80)) (wA : World) (hA : wA = (w.alloc (.cells #[.bool ng, .int .i64 b, .slice a n c, .int .i64 bh, .int .i64 0, .bool false] 61)).alloc (.cells #[.bool false, .int .i64 0, .slice none 0 0, .int .i64 0, .int .i64 0, .bool false] 61)) :
    ExA w s ng b a n c bh two (wA.setCell ⟨w.heap.size, 5, none⟩ (.bool two)) := by
  obtain ⟨w1, hw1⟩ : ∃ w1, w1 = w.alloc (.cells #[.bool ng, .int .i64 b, .slice a n c, .int .i64 bh, .int .i64 0, .bool false] 61) := ⟨_, rfl⟩; rw [← hw1] at hA; have k1 : Chg zNone w w1 := by rw [hw1]; exact (Chg.refl _ _).alloc _
  have hs1 : w1.heap.size = w.heap.size + 1 := by
    rw [hw1]; show (w.heap.push _).size = _
    simp
  have h1 := newSrc w ng b a n c bh 0 false 61; rw [← hw1] at h1; have h2 := newSrc w1 false 0 none 0 0 0 0 false 61; rw [← hA, hs1] at h2; have k2 : Chg zNone w1 wA := by rw [hA]; exact (Chg.refl _ _).alloc _
  have h1' := h1.chg k2 (fun _ h => h); refine ⟨?_, ?_, ht, ?_⟩
  · obtain ⟨g0, g1, g2, g3, g4, g5, gp⟩ := h1'
    exact ⟨by rw [cs_other (by omega)]; exact g0, by rw [cs_other (by omega)]; exact g1, by rw [cs_other (by omega)]; exact g2, by rw [cs_other (by omega)]; exact g3, by rw [cs_other (by omega)]; exact g4, cs_same g5, gp.chg (chg_cell _ _ _ _)⟩
  · exact h2.chg (chg_cell _ w.heap.size 5 (.bool two)) (fun o hh => by have := hh.1; omega)
  · exact (k1.trans k2 (fun _ _ _ h => h)).setCell w.heap.size 5 _ (fun h => absurd h (Nat.lt_irrefl _))
theorem SrcC.drew_setEx {w : World} {p : Nat} {ng : Bool} {b : Int} {a : Option Addr} {n c : Nat} {bh ex : Int} {two : Bool} (h : SrcC w p ng b a n c bh ex two) (v : Int) : SrcC (w.drew.setCell ⟨p, 4, none⟩ (.int .i64 v)) p ng b a n c bh v two :=
  (h.chg ((Chg.refl zNone w).drew) (fun _ h => h)).setEx v
def ExL (w : World) (p q : Nat) (u : ByteArray) (ng : Bool) (b : Int) (a : Option Addr) (n c : Nat) (bh : Int) (two : Bool) (gk : Nat) (s8 : Value) (wc : World) : Prop :=
  ∃ k : Nat, s8 = .int .i64 (k : Int) ∧ k + gk = u.size ∧ Hid (SrcC wc p ng b a n c bh (decV u k) two ∧ SrcC wc q false 0 none 0 0 0 0 false ∧ (∀ j, j < k → isDig (byteAt u j)) ∧ Chg zNone w wc)
theorem SrcC.six_chg {w w' : World} {q : Nat} (k : Chg zNone w w') (hq : w.heap.size ≤ q) (v0 v1 v2 v3 v4 v5 : Value) :
    Chg zNone w ((((((w'.setCell ⟨q, 0, none⟩ v0).setCell ⟨q, 1, none⟩ v1).setCell ⟨q, 2, none⟩ v2).setCell ⟨q, 3, none⟩ v3).setCell ⟨q, 4, none⟩ v4).setCell ⟨q, 5, none⟩ v5) :=
  (((((k.setCell q 0 _ (fun h => absurd h (by omega))).setCell q 1 _ (fun h => absurd h (by omega))).setCell q 2 _ (fun h => absurd h (by omega))).setCell q 3 _ (fun h => absurd h (by omega))).setCell q 4 _ (fun h => absurd h (by omega))).setCell q 5 _ (fun h => absurd h (by omega))
set_option maxHeartbeats 8000000 in
theorem exponent_any (s : ByteArray) (ng : Bool) (b : Int) (a : Option Addr) (n c : Nat) (bh : Int) (w : World) (h0 : 0 < s.size) (hs : s.size < 1048576) :
    Calls Tryz.prog 62 #[srcV ng b a n c bh 0 false, .string s] w (ExpPost w s ng b a n c bh) := by
  have f1 : (0 : Int) < (s.size : Int) := by omega
  have e0 := byteAt_eq s 0 h0; obtain ⟨x, hx⟩ : ∃ x, byteAt s 0 = x := ⟨_, rfl⟩; rw [hx] at e0; have HX := Lib.hid hx; clear hx; have f2 : (0 : Int) ≤ 0 := Int.le_refl 0; unfold srcV
  go_enter Tryz.func62, Tryz.ntmps62
  go_upto_region 1 with fail; obtain ⟨wA, hwA⟩ : ∃ wA, wA = (w.alloc (.cells #[.bool ng, .int .i64 b, .slice a n c, .int .i64 bh, .int .i64 0, .bool false] 61)).alloc (.cells #[.bool false, .int .i64 0, .slice none 0 0, .int .i64 0, .int .i64 0, .bool false] 61) := ⟨_, rfl⟩; rw [← hwA]; have HWA := Lib.hid hwA; have hA0 := exA_start w s ng b a n c bh
  have f5 : wA.frozen? ⟨w.heap.size, 5, none⟩ = false := by
    rw [hwA]; exact ((newSrc w ng b a n c bh 0 false 61).chg (show Chg zNone _ ((w.alloc (.cells #[.bool ng, .int .i64 b, .slice a n c, .int .i64 bh, .int .i64 0, .bool false] 61)).alloc (.cells #[.bool false, .int .i64 0, .slice none 0 0, .int .i64 0, .int .i64 0, .bool false] 61)) from (Chg.refl _ _).alloc _) (fun _ h => h)).pb.fz 5
  have g5 : wA.cell? ⟨w.heap.size, 5, none⟩ = some (.bool false) := by
    rw [hwA]; exact ((newSrc w ng b a n c bh 0 false 61).chg (show Chg zNone _ ((w.alloc (.cells #[.bool ng, .int .i64 b, .slice a n c, .int .i64 bh, .int .i64 0, .bool false] 61)).alloc (.cells #[.bool false, .int .i64 0, .slice none 0 0, .int .i64 0, .int .i64 0, .bool false] 61)) from (Chg.refl _ _).alloc _) (fun _ h => h)).tw
  have HS0 : Hid (∀ two, (two = true ↔ (byteAt s 0 = 112 ∨ byteAt s 0 = 80)) → ExA w s ng b a n c bh two (wA.setCell ⟨w.heap.size, 5, none⟩ (.bool two))) := fun two h => hA0 two h wA HWA.out
  clear hwA hA0; go_cut [16] (fun s16 wc => ∃ two, s16 = .bool two ∧ Hid (ExA w s ng b a n c bh two wc))
  case first => as_aux_lemma =>
    by_cases c1 : x = 112
    · have c1' : (x == 112) = true := by simp [c1]
      have HE := Lib.hid (HS0.out true (by rw [HX.out]; simp [c1])); rw [← e0] at c1'; clear c1 e0; go_wp2; go_meet; exact ⟨_, rfl, HE.out⟩
    · have c1' : (x == 112) = false := by simp [c1]
      by_cases c2 : x = 80
      · have c2' : (x == 80) = true := by simp [c2]
        have HE := Lib.hid (HS0.out true (by rw [HX.out]; simp [c2])); rw [← e0] at c1' c2'; clear c1 c2 e0; go_wp2; go_meet; exact ⟨_, rfl, HE.out⟩
      · have c2' : (x == 80) = false := by simp [c2]
        have HE := Lib.hid (HS0.out false (by rw [HX.out]; simp [c1, c2])); rw [← e0] at c1' c2'; clear c1 c2 e0; go_wp2; go_meet; exact ⟨_, rfl, HE.out⟩
  case rest => as_aux_lemma =>
    obtain ⟨two, rfl, HA⟩ := hcut; clear f5 g5 HS0 HWA; obtain ⟨i0, i1, i2, i3, i4, i5, ip⟩ := HA.out.1; go_upto_region 2 with fail; go_cut [6] (fun s6 wd => (∃ ten, s6 = .bool ten ∧ Hid (ten = true ↔ ((x = 101 ∨ x = 69) ∧ b = 10))) ∧ wc = wd)
    case first => as_aux_lemma =>
      by_cases c1 : x = 101 ∨ x = 69
      · by_cases cb : b = 10
        · have cb' : (b == 10) = true := by simp [cb]
          have HR := Lib.hid (show (x = 101 ∨ x = 69) ∧ b = 10 from ⟨c1, cb⟩)
          by_cases c2 : x = 101
          · have c2' : (x == 101) = true := by simp [c2]
            rw [← e0] at c2'; clear c1 c2 cb e0; go_wp2; go_meet; exact ⟨⟨true, rfl, ⟨fun _ => HR.out, fun _ => rfl⟩⟩, rfl⟩
          · have c2' : (x == 101) = false := by simp [c2]
            have c3' : (x == 69) = true := by simp; omega
            rw [← e0] at c2' c3'; clear c1 c2 cb e0; go_wp2; go_meet; exact ⟨⟨true, rfl, ⟨fun _ => HR.out, fun _ => rfl⟩⟩, rfl⟩
        · have cb' : (b == 10) = false := by simp [cb]
          have HR := Lib.hid (show ¬ ((x = 101 ∨ x = 69) ∧ b = 10) from fun hh => cb hh.2)
          by_cases c2 : x = 101
          · have c2' : (x == 101) = true := by simp [c2]
            rw [← e0] at c2'; clear c1 c2 cb e0; go_wp2; go_meet; exact ⟨⟨false, rfl, ⟨(fun h => by cases h), fun h => absurd h HR.out⟩⟩, rfl⟩
          · have c2' : (x == 101) = false := by simp [c2]
            have c3' : (x == 69) = true := by simp; omega
            rw [← e0] at c2' c3'; clear c1 c2 cb e0; go_wp2; go_meet; exact ⟨⟨false, rfl, ⟨(fun h => by cases h), fun h => absurd h HR.out⟩⟩, rfl⟩
      · have c2' : (x == 101) = false := by simp; omega
        have c3' : (x == 69) = false := by simp; omega
        have HR := Lib.hid (show ¬ ((x = 101 ∨ x = 69) ∧ b = 10) from fun hh => c1 hh.1); rw [← e0] at c2' c3'; clear c1 e0; go_wp2; go_meet; exact ⟨⟨false, rfl, ⟨(fun h => by cases h), fun h => absurd h HR.out⟩⟩, rfl⟩
    case rest => as_aux_lemma =>
      obtain ⟨⟨ten, rfl, HT⟩, rfl⟩ := hcut; obtain ⟨t, ht⟩ : ∃ t, s.extract 1 s.size = t := ⟨_, rfl⟩; have htz : t.size < 1048576 := by rw [← ht, (Tail.cut s h0).sz]; omega
      have Ht := Lib.hid ht; go_upto_region 3 with fail; go_cut [1] (fun s1 wd => s1 = .string t ∧ wc = wd)
      case first => as_aux_lemma =>
        have f3 : (1 : Int) ≤ (s.size : Int) := by omega
        have f4 : (0 : Int) ≤ (1 : Int) := by omega
        go_wp2; go_meet; exact ⟨by rw [← Ht.out], rfl⟩
      case rest => as_aux_lemma =>
        obtain ⟨rfl, rfl⟩ := hcut; clear ht e0 f1; go_upto_region 4 with fail; go_cut [7] (fun s7 wd => (∃ sg, s7 = .bool sg ∧ Hid (sg = true ↔ (0 < t.size ∧ byteAt t 0 = 45))) ∧ wc = wd)
        case first => as_aux_lemma =>
          by_cases z0 : 0 < t.size
          · have g1 : decide ((0 : Int) < (t.size : Int)) = true := by simp; omega
            have g2 : (0 : Int) < (t.size : Int) := by omega
            have e1 := byteAt_eq t 0 z0
            by_cases z1 : byteAt t 0 = 45
            · have z1' : (byteAt t 0 == 45) = true := by simp [z1]
              have HR := Lib.hid (show 0 < t.size ∧ byteAt t 0 = 45 from ⟨z0, z1⟩); rw [← e1] at z1'; clear z1 e1; go_wp2
              all_goals (go_meet; exact ⟨⟨true, rfl, ⟨fun _ => HR.out, fun _ => rfl⟩⟩, rfl⟩)
            · have z1' : (byteAt t 0 == 45) = false := by simp [z1]
              have HR := Lib.hid (show ¬ (0 < t.size ∧ byteAt t 0 = 45) from fun hh => z1 hh.2); rw [← e1] at z1'; clear z1 e1; go_wp2
              all_goals (go_meet; exact ⟨⟨false, rfl, ⟨(fun h => by cases h), fun h => absurd h HR.out⟩⟩, rfl⟩)
          · have g1 : decide ((0 : Int) < (t.size : Int)) = false := decide_eq_false (by omega)
            have g2 : ((t.size : Int) == 0) = true := beq_iff_eq.2 (by omega); go_wp2
            all_goals (go_meet; exact ⟨⟨false, rfl, ⟨(fun h => by cases h), fun h => absurd h.1 z0⟩⟩, rfl⟩)
        case rest => as_aux_lemma =>
          obtain ⟨⟨sg, rfl, HS⟩, rfl⟩ := hcut; go_upto_region 5 with fail; go_cut [51] (fun s51 wd => (∃ sp, s51 = .bool sp ∧ Hid (sp = true ↔ (0 < t.size ∧ (byteAt t 0 = 45 ∨ byteAt t 0 = 43)))) ∧ wc = wd)
          case first => as_aux_lemma =>
            cases sg with
            | true =>
              have HR := Lib.hid (HS.out.1 rfl); go_wp2
              all_goals (go_meet; exact ⟨⟨true, rfl, ⟨fun _ => ⟨HR.out.1, Or.inl HR.out.2⟩, fun _ => rfl⟩⟩, rfl⟩)
            | false =>
              by_cases z0 : 0 < t.size
              · have g1 : decide ((0 : Int) < (t.size : Int)) = true := by simp; omega
                have g2 : (0 : Int) < (t.size : Int) := by omega
                have e1 := byteAt_eq t 0 z0
                by_cases z1 : byteAt t 0 = 43
                · have z1' : (byteAt t 0 == 43) = true := by simp [z1]
                  have HR := Lib.hid (And.intro z0 z1); rw [← e1] at z1'; clear z1 e1; go_wp2
                  all_goals (go_meet; exact ⟨⟨true, rfl, ⟨fun _ => ⟨HR.out.1, Or.inr HR.out.2⟩, fun _ => rfl⟩⟩, rfl⟩)
                · have z1' : (byteAt t 0 == 43) = false := by simp [z1]
                  have HR := Lib.hid (show ¬ (0 < t.size ∧ (byteAt t 0 = 45 ∨ byteAt t 0 = 43)) from fun hh => by
                    rcases hh.2 with h | h
                    · have := HS.out.2 ⟨z0, h⟩; cases this
                    · exact z1 h)
                  rw [← e1] at z1'; clear z1 e1; go_wp2
                  all_goals (go_meet; exact ⟨⟨false, rfl, ⟨(fun h => by cases h), fun h => absurd h HR.out⟩⟩, rfl⟩)
              · have g1 : decide ((0 : Int) < (t.size : Int)) = false := decide_eq_false (by omega)
                have g2 : ((t.size : Int) == 0) = true := beq_iff_eq.2 (by omega); go_wp2
                all_goals (go_meet; exact ⟨⟨false, rfl, ⟨(fun h => by cases h), fun h => absurd h.1 z0⟩⟩, rfl⟩)
          obtain ⟨⟨sp, rfl, HSP⟩, rfl⟩ := hcut; go_upto_if 51 with fail; go_cut [1] (fun s1 wd => (∃ u, s1 = .string u ∧ Hid (SignSays t u sg) ∧ u.size ≤ t.size) ∧ wc = wd)
          case first => as_aux_lemma =>
            cases sp with
            | true =>
              have hr := HSP.out.1 rfl; have f3 : (1 : Int) ≤ (t.size : Int) := by have := hr.1; omega
              have f4 : (0 : Int) ≤ (1 : Int) := by omega
              have HR := Lib.hid hr; clear hr; go_wp2; go_meet; refine ⟨⟨t.extract 1 t.size, rfl, ?_, by have := (Tail.cut (k := 1) t HR.out.1).sz; omega⟩, rfl⟩
              cases sg with
              | true => exact Or.inl ⟨HR.out.1, (HS.out.1 rfl).2, rfl, rfl⟩
              | false =>
                refine Or.inr (Or.inl ⟨HR.out.1, ?_, rfl, rfl⟩)
                rcases HR.out.2 with h | h
                · have := HS.out.2 ⟨HR.out.1, h⟩; cases this
                · exact h
            | false =>
              go_wp2; go_meet; refine ⟨⟨t, rfl, Or.inr (Or.inr ⟨fun h => ⟨fun hh => ?_, fun hh => ?_⟩, ?_, rfl⟩), Nat.le_refl _⟩, rfl⟩
              · have := HSP.out.2 ⟨h, Or.inl hh⟩; cases this
              · have := HSP.out.2 ⟨h, Or.inr hh⟩; cases this
              · cases sg with
                | true => have := HS.out.1 rfl; have := HSP.out.2 ⟨this.1, Or.inl this.2⟩; cases this
                | false => rfl
          case rest => as_aux_lemma =>
            obtain ⟨⟨u, rfl, HU, huz⟩, rfl⟩ := hcut; go_upto_region 7 with fail; go_cut [70] (fun s70 wd => (∃ T, s70 = .bool T ∧ Hid (T = false → (two = true ∨ ten = true) ∧ 0 < u.size ∧ u.size ≤ 4)) ∧ wc = wd)
            case first => as_aux_lemma =>
              by_cases z0 : u.size = 0
              · have g1 : ((u.size : Int) == 0) = true := beq_iff_eq.2 (by omega)
                cases two with
                | true => go_wp2; all_goals (go_meet; exact ⟨⟨_, rfl, fun h => by simp at h⟩, rfl⟩)
                | false =>
                  cases ten with
                  | true => go_wp2; all_goals (go_meet; exact ⟨⟨_, rfl, fun h => by simp at h⟩, rfl⟩)
                  | false => go_wp2; all_goals (go_meet; exact ⟨⟨_, rfl, fun h => by simp at h⟩, rfl⟩)
              · have g1 : ((u.size : Int) == 0) = false := beq_eq_false_iff_ne.2 (by omega)
                by_cases z1 : 4 < u.size
                · have g2 : decide ((4 : Int) < (u.size : Int)) = true := decide_eq_true (by omega)
                  cases two with
                  | true => go_wp2; all_goals (go_meet; exact ⟨⟨_, rfl, fun h => by simp at h⟩, rfl⟩)
                  | false =>
                    cases ten with
                    | true => go_wp2; all_goals (go_meet; exact ⟨⟨_, rfl, fun h => by simp at h⟩, rfl⟩)
                    | false => go_wp2; all_goals (go_meet; exact ⟨⟨_, rfl, fun h => by simp at h⟩, rfl⟩)
                · have g2 : decide ((4 : Int) < (u.size : Int)) = false := decide_eq_false (by omega)
                  have HZ := Lib.hid (show 0 < u.size ∧ u.size ≤ 4 by omega)
                  cases two with
                  | true => go_wp2; all_goals (go_meet; exact ⟨⟨_, rfl, fun _ => ⟨by simp, HZ.out⟩⟩, rfl⟩)
                  | false =>
                    cases ten with
                    | true => go_wp2; all_goals (go_meet; exact ⟨⟨_, rfl, fun _ => ⟨by simp, HZ.out⟩⟩, rfl⟩)
                    | false => go_wp2; all_goals (go_meet; exact ⟨⟨_, rfl, fun h => by simp at h⟩, rfl⟩)
            case rest => as_aux_lemma =>
              obtain ⟨⟨T, rfl, HT70⟩, rfl⟩ := hcut
              cases T with
              | true =>
                obtain ⟨l0, l1, l2, l3, l4, l5, lp⟩ := HA.out.2.1; have l0z := lp.fz 0; have l1z := lp.fz 1; have l2z := lp.fz 2; have l3z := lp.fz 3; have l4z := lp.fz 4; have l5z := lp.fz 5; clear lp; go_wp2; refine bodyPost_ret (v := .tuple #[srcV ng b a n c bh 0 two, .bool false]) (res62 (HA.out.2.1.six _ _ _ _ _ _ _ _) rfl rfl) rfl ?_; exact ⟨0, two, false, rfl, by omega, by omega, (fun h => by cases h), SrcC.six_chg HA.out.2.2.2 (Nat.le_succ _) _ _ _ _ _ _⟩
              | false =>
                obtain ⟨q1, q2, q3⟩ := HT70.out rfl; have HQ1 := Lib.hid q1; clear q1 i0 i1 i2 i3 i4 i5 ip; go_wp2_with fail
                go_loopg [8] u.size (ExL w w.heap.size (w.heap.size + 1) u ng b a n c bh two)
                case atStart => exact ⟨0, rfl, by omega, HA.out.1, HA.out.2.1, fun j hj => by omega, HA.out.2.2.2⟩
                case round =>
                  obtain ⟨k, rfl, hk, HL⟩ := hrel; have hv := decV_le u k HL.out.2.2.1
                  have hv4 : decV u k < 10000 := by
                    obtain h | h | h | h | h : k = 0 ∨ k = 1 ∨ k = 2 ∨ k = 3 ∨ k = 4 := by omega
                    all_goals (rw [h] at hv ⊢; omega)
                  obtain ⟨v, hvv⟩ : ∃ v, decV u k = v := ⟨_, rfl⟩; have hC := HL.out.1; rw [hvv] at hv4 hv hC; have hv0 := hv.1; have HV := Lib.hid hvv; obtain ⟨i0, i1, i2, i3, i4, i5, ip⟩ := hC; obtain ⟨l0, l1, l2, l3, l4, l5, lp⟩ := HL.out.2.1; have l0z := lp.fz 0; have l1z := lp.fz 1; have l2z := lp.fz 2; have l3z := lp.fz 3; have l4z := lp.fz 4; have l5z := lp.fz 5; clear lp; clear hv hvv
                  by_cases hku : k < u.size
                  · have g1 : decide ((k : Int) < (u.size : Int)) = true := by simp; omega
                    have g2 : (0 : Int) ≤ (k : Int) := by omega
                    have g3 : (k : Int) < (u.size : Int) := by omega
                    obtain ⟨y, hy⟩ : ∃ y, byteAt u k = y := ⟨_, rfl⟩; have ey := byteAt_eq u k hku; rw [hy] at ey; have HY := Lib.hid hy; clear hy
                    by_cases z1 : y < 48
                    · have z1' : decide (y < 48) = true := decide_eq_true z1
                      rw [← ey] at z1'; clear z1 ey; go_wp2; refine bodyPost_ret (v := .tuple #[srcV ng b a n c bh v two, .bool false]) (res62 (HL.out.2.1.six _ _ _ _ _ _ _ _) rfl rfl) rfl ?_; exact ⟨v, two, false, rfl, by omega, by omega, (fun h => by cases h), SrcC.six_chg HL.out.2.2.2 (Nat.le_succ _) _ _ _ _ _ _⟩
                    · by_cases z2 : 57 < y
                      · have z1' : decide (y < 48) = false := decide_eq_false z1
                        have z2' : decide (57 < y) = true := decide_eq_true z2; rw [← ey] at z1' z2'; clear z1 z2 ey; go_wp2; refine bodyPost_ret (v := .tuple #[srcV ng b a n c bh v two, .bool false]) (res62 (HL.out.2.1.six _ _ _ _ _ _ _ _) rfl rfl) rfl ?_; exact ⟨v, two, false, rfl, by omega, by omega, (fun h => by cases h), SrcC.six_chg HL.out.2.2.2 (Nat.le_succ _) _ _ _ _ _ _⟩
                      · have z1' : decide (y < 48) = false := decide_eq_false z1
                        have z2' : decide (57 < y) = false := decide_eq_false z2; have HD := Lib.hid (show isDig y from ⟨by omega, by omega⟩); have ip4 := ip.fz 4; rw [← ey] at z1' z2'; have hb1 : 48 ≤ ((u[k]'hku).toNat : Int) := by omega
                        have hb2 : ((u[k]'hku).toNat : Int) ≤ 57 := by omega
                        have HEY := Lib.hid ey; clear z1 z2 ey; go_upto_region 14 with fail; go_wp2_with fail; refine wp_region_noPanic ?_; refine wp_region_any (by kernel_rfl) ?_; change wpAny _ _ _ _ _ _ _ (World.drew _); refine wpAny_take (i := 0) (v := ?_) rfl (by kernel_rfl) (by kernel_rfl) (by kernel_rfl) (fun _ _ _ h => False.elim h) (Or.inl ⟨by rfl, ?_⟩) ?_; rotate_left 1
                        · intro w9
                          go_simp; (try with_reducible rfl)
                        (try simp only [Act.put, List.getElem_toArray, List.getElem_cons_zero, List.getElem_cons_succ, List.setIfInBounds_toArray, List.set_cons_zero, List.set_cons_succ]); refine wpAny_take (i := 3) (v := ?_) rfl (by kernel_rfl) (by kernel_rfl) (by kernel_rfl) (fun _ _ _ h => False.elim h) (Or.inl ⟨by rfl, ?_⟩) ?_; rotate_left 1
                        · intro w9
                          go_simp; (try with_reducible rfl)
                        (try simp only [Act.put, List.getElem_toArray, List.getElem_cons_zero, List.getElem_cons_succ, List.setIfInBounds_toArray, List.set_cons_zero, List.set_cons_succ]); refine wpAny_take (i := 4) (v := ?_) rfl (by kernel_rfl) (by kernel_rfl) (by kernel_rfl) (fun _ _ _ h => False.elim h) (Or.inl ⟨by rfl, ?_⟩) ?_; rotate_left 1
                        · intro w9
                          go_simp; (try with_reducible rfl)
                        (try simp only [Act.put, List.getElem_toArray, List.getElem_cons_zero, List.getElem_cons_succ, List.setIfInBounds_toArray, List.set_cons_zero, List.set_cons_succ]); refine wpAny_take (i := 5) (v := ?_) rfl (by kernel_rfl) (by kernel_rfl) (by kernel_rfl) (fun _ _ _ h => False.elim h) (Or.inl ⟨by rfl, ?_⟩) ?_; rotate_left 1
                        · intro w9
                          go_simp; (try with_reducible rfl)
                        (try simp only [Act.put, List.getElem_toArray, List.getElem_cons_zero, List.getElem_cons_succ, List.setIfInBounds_toArray, List.set_cons_zero, List.set_cons_succ]); refine wpAny_take (i := 6) (v := ?_) rfl (by kernel_rfl) (by kernel_rfl) (by kernel_rfl) (fun _ _ _ h => False.elim h) (Or.inl ⟨by rfl, ?_⟩) ?_; rotate_left 1
                        · intro w9
                          go_simp; (try with_reducible rfl)
                        (try simp only [Act.put, List.getElem_toArray, List.getElem_cons_zero, List.getElem_cons_succ, List.setIfInBounds_toArray, List.set_cons_zero, List.set_cons_succ]); refine wpAny_take (i := 7) (v := ?_) rfl (by kernel_rfl) (by kernel_rfl) (by kernel_rfl) (fun _ _ _ h => False.elim h) (Or.inl ⟨by rfl, ?_⟩) ?_; rotate_left 1
                        · intro w9
                          go_simp; (try with_reducible rfl)
                        (try simp only [Act.put, List.getElem_toArray, List.getElem_cons_zero, List.getElem_cons_succ, List.setIfInBounds_toArray, List.set_cons_zero, List.set_cons_succ]); refine wpAny_ready (rs := [1]) (by kernel_rfl) (by simp) ?_; refine AllReady.cons rfl (fun K hK => ?_) AllReady.nil; go_simp; refine hK _ _ ?_; clear hK K; (try simp only [Act.put, List.getElem_toArray, List.getElem_cons_zero, List.getElem_cons_succ, List.setIfInBounds_toArray, List.set_cons_zero, List.set_cons_succ]); refine wpAny_take (i := 2) (v := ?_) rfl (by kernel_rfl) (by kernel_rfl) (by kernel_rfl) (fun _ _ _ h => False.elim h) (Or.inl ⟨by rfl, ?_⟩) ?_; rotate_left 1
                        · intro w9
                          go_simp; (try with_reducible rfl)
                        (try simp only [Act.put, List.getElem_toArray, List.getElem_cons_zero, List.getElem_cons_succ, List.setIfInBounds_toArray, List.set_cons_zero, List.set_cons_succ]); refine wpAny_take (i := 8) (v := ?_) rfl (by kernel_rfl) (by kernel_rfl) (by kernel_rfl) (fun _ _ _ h => False.elim h) (Or.inl ⟨by rfl, ?_⟩) ?_; rotate_left 1
                        · intro w9
                          go_simp; (try with_reducible rfl)
                        (try simp only [Act.put, List.getElem_toArray, List.getElem_cons_zero, List.getElem_cons_succ, List.setIfInBounds_toArray, List.set_cons_zero, List.set_cons_succ]); refine wpAny_take (i := 9) (v := ?_) rfl (by kernel_rfl) (by kernel_rfl) (by kernel_rfl) (fun _ _ _ h => False.elim h) (Or.inl ⟨by rfl, ?_⟩) ?_; rotate_left 1
                        · intro w9
                          go_simp; (try with_reducible rfl)
                        (try simp only [Act.put, List.getElem_toArray, List.getElem_cons_zero, List.getElem_cons_succ, List.setIfInBounds_toArray, List.set_cons_zero, List.set_cons_succ]); refine wpAny_ready (rs := [10]) (by kernel_rfl) (by simp) ?_; refine AllReady.cons rfl (fun K hK => ?_) AllReady.nil; go_simp; refine hK _ _ ?_; clear hK K; (try simp only [Act.put, List.getElem_toArray, List.getElem_cons_zero, List.getElem_cons_succ, List.setIfInBounds_toArray, List.set_cons_zero, List.set_cons_succ]); refine wpAny_done (by kernel_rfl) ?_ _; refine NoPanic.normal ?_; go_wp2; go_roundg (gk - 1)
                        case measure => omega
                        case rel =>
                          have hd : decV u (k + 1) = 10 * v + (((u[k]'hku).toNat : Int) - 48) := by
                            show 10 * decV u k + (byteAt u k - 48) = _
                            rw [HV.out, HY.out, HEY.out]
                          refine ⟨k + 1, by go_num, by omega, ?_, ?_, fun j hj => ?_, ?_⟩
                          · rw [hd]
                            exact HL.out.1.drew_setEx _
                          · exact (HL.out.2.1.chg ((Chg.refl zNone _).drew) (fun _ h => h)).chg (chg_cell _ _ _ _) (fun o hh => by have := hh.1; omega)
                          · by_cases e : j = k
                            · rw [e, HY.out]; exact HD.out
                            · exact HL.out.2.2.1 j (by omega)
                          · exact HL.out.2.2.2.drew.setCell w.heap.size 4 _ (fun h => absurd h (Nat.lt_irrefl _))
                  · have g1 : decide ((k : Int) < (u.size : Int)) = false := decide_eq_false (by omega)
                    obtain rfl : k = u.size := by omega
                    have ip4 := ip.fz 4
                    have HEX : Hid (ExpSays s b (if sg then -v else v) two) := by
                      refine ⟨u, sg, by rw [Ht.out]; exact HU.out, q2, q3, HL.out.2.2.1, by rw [HV.out], ?_⟩
                      cases two with
                      | true => exact Or.inl ⟨rfl, HA.out.2.2.1.1 rfl⟩
                      | false =>
                        rcases HQ1.out with h | h
                        · cases h
                        · have := HT.out.1 h
                          rw [← HX.out] at this; exact Or.inr ⟨rfl, this.2, this.1⟩
                    cases sg with
                    | true =>
                      go_wp2; have hC := (HL.out.1.setEx (-v)); have k9 := chg_cell wr w.heap.size 4 (.int .i64 (-v)); have hq9 := HL.out.2.1.chg k9 (fun o hh => by have := hh.1; omega); refine bodyPost_ret (v := .tuple #[srcV ng b a n c bh (-v) two, .bool true]) (res62 (hq9.six _ _ _ _ _ _ _ _) rfl rfl) rfl ?_; exact ⟨-v, two, true, rfl, by omega, by omega, fun _ => HEX.out, SrcC.six_chg (HL.out.2.2.2.setCell w.heap.size 4 _ (fun h => absurd h (Nat.lt_irrefl _))) (Nat.le_succ _) _ _ _ _ _ _⟩
                    | false =>
                      go_wp2; refine bodyPost_ret (v := .tuple #[srcV ng b a n c bh v two, .bool true]) (res62 (HL.out.2.1.six _ _ _ _ _ _ _ _) rfl rfl) rfl ?_; exact ⟨v, two, true, rfl, by omega, by omega, fun _ => HEX.out, SrcC.six_chg HL.out.2.2.2 (Nat.le_succ _) _ _ _ _ _ _⟩
end Go.Proofs.YtmgfajamanakcaaGreatDoor.Si

