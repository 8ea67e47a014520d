/-
  The law of FnRatParseFails: its loop over the bytes. Conditions: the text 1/2 parses (a premise, to be shown).
-/
import Derived.Test.YtmgfajamanakcaaGreatDoorRh
import Derived.Test.YtmgfajamanakcaaGreatDoorFg
import Derived.Deep.LoopGhost
import Derived.Deep.CutBlock
import Derived.Outline
namespace Go.Proofs.YtmgfajamanakcaaGreatDoor
open Go.RowKit
set_option maxRecDepth 100000
set_option linter.unusedVariables false
def OddRel (w : World) (s : ByteArray) (k : Nat) (s3 s4 s5 : Value) (wc : World) : Prop :=
  ∃ (i n : Nat) (odd : Bool), s3 = .bool odd ∧ s4 = .int .i64 (n : Int) ∧ s5 = .int .i64 (i : Int) ∧ i + k = s.size ∧ n ≤ i ∧ w = wc ∧
    Hid ((odd = true → odd1 s) ∧ (2 ≤ n → odd1 s) ∧ (1 ≤ n → ∃ j, j < i ∧ byteAt s j = 47))
set_option maxHeartbeats 8000000 in
theorem law10_60 (s : ByteArray) (aE a1 a2 : Addr) (w : World) (hs : s.size ≤ 60) (hw : 14 ≤ w.heap.size)
    (hE : Errs w (.iface 229 (.pointer (some aE))) (.iface 229 (.pointer (some a1))) (.iface 229 (.pointer (some a2)))) (hPE : PErrs w) :
    Calls Tryz.prog 10 #[.string s] w fun e w' => e = .returned (.bool true) ∧ Chg zNone w w' := by
  have H := Lib.hid (And.intro hE hPE)
  clear hE hPE
  have h1 : decide ((2147483647 : Int) < (s.size : Int)) = false := by simp; omega
  have h2 : decide ((60 : Int) < (s.size : Int)) = false := by simp; omega
  obtain ⟨em, hem⟩ : ∃ b, ((s.size : Int) == 0) = b := ⟨_, rfl⟩
  have Hem := Lib.hid hem
  go_enter Tryz.func10, Tryz.ntmps10
  go_wp2_with fail
  clear hem
  go_loopg [3, 4, 5] s.size (OddRel w s)
  case atStart =>
    refine ⟨0, 0, em, rfl, rfl, rfl, by omega, by omega, rfl, fun h => ?_, fun h => by omega, fun h => by omega⟩
    have := Hem.out
    rw [h] at this
    exact Or.inl (by simpa using this)
  case round =>
    obtain ⟨i, n, odd, rfl, rfl, rfl, hk, hn, rfl, HH⟩ := hrel
    by_cases hi : i < s.size
    · have h3 : decide ((i : Int) < (s.size : Int)) = true := by simp; omega
      have h4 : (0 : Int) ≤ (i : Int) := by omega
      have h5 : (i : Int) < (s.size : Int) := by omega
      go_upto_region 9 with fail
      go_cut [6] (fun s6 wc => s6 = .int .u8 (byteAt s i) ∧ w = wc)
      case first =>
        go_wp2
        go_meet
        exact ⟨by rw [← byteAt_eq s i hi], rfl⟩
      case rest =>
        obtain ⟨rfl, rfl⟩ := hcut
        obtain ⟨c, hc⟩ : ∃ c, byteAt s i = c := ⟨_, rfl⟩
        rw [hc]
        have Hc := Lib.hid hc
        have hcb := byteAt_range s i
        rw [hc] at hcb
        obtain ⟨hc0, hc1⟩ := hcb
        clear hc
        go_upto_region 10 with fail
        go_cut [7] (fun s7 wc => (∃ F : Bool, s7 = .bool F ∧ Hid (F = true ↔ isFig c)) ∧ w = wc)
        case first => as_aux_lemma =>
          by_cases q1 : c < 48
          · go_wp2; go_meet; exact ⟨⟨_, rfl, by unfold Hid isFig; simp; omega⟩, rfl⟩
          · have q1' : 48 ≤ c := by omega
            by_cases q2 : c ≤ 57
            · go_wp2; go_meet; exact ⟨⟨_, rfl, by unfold Hid isFig; simp; omega⟩, rfl⟩
            · have q2' : 57 < c := by omega
              by_cases q3 : c < 65
              · have q4 : c < 97 := by omega
                go_wp2; go_meet; exact ⟨⟨_, rfl, by unfold Hid isFig; simp; omega⟩, rfl⟩
              · have q3' : 65 ≤ c := by omega
                by_cases q4 : c ≤ 70
                · have q5 : c < 97 := by omega
                  go_wp2; go_meet; exact ⟨⟨_, rfl, by unfold Hid isFig; simp; omega⟩, rfl⟩
                · have q4' : 70 < c := by omega
                  by_cases q5 : c < 97
                  · go_wp2; go_meet; exact ⟨⟨_, rfl, by unfold Hid isFig; simp; omega⟩, rfl⟩
                  · have q5' : 97 ≤ c := by omega
                    by_cases q6 : c ≤ 102
                    · go_wp2; go_meet; exact ⟨⟨_, rfl, by unfold Hid isFig; simp; omega⟩, rfl⟩
                    · have q6' : 102 < c := by omega
                      go_wp2; go_meet; exact ⟨⟨_, rfl, by unfold Hid isFig; simp; omega⟩, rfl⟩
        case rest => as_aux_lemma =>
          obtain ⟨⟨F, rfl, HF⟩, rfl⟩ := hcut
          go_upto_region 11 with fail
          go_cut [3] (fun s3 wc => (∃ G : Bool, s3 = .bool G ∧ Hid (G = true → odd = true ∨ (¬ okB c ∧ c ≠ 47))) ∧ w = wc)
          case first => as_aux_lemma =>
            cases odd with
            | true => go_wp2; go_meet; exact ⟨⟨_, rfl, fun _ => Or.inl trivial⟩, rfl⟩
            | false =>
              cases F with
              | true => go_wp2; go_meet; exact ⟨⟨_, rfl, fun h => by simp at h⟩, rfl⟩
              | false =>
                by_cases k46 : c = 46
                · have j46 : (c != 46) = false := bne_eq_false_iff_eq.2 k46
                  clear k46
                  as_aux_lemma =>
                    go_wp2; go_meet; exact ⟨⟨_, rfl, (fun h => by cases h)⟩, rfl⟩
                have j46 : (c != 46) = true := bne_iff_ne.2 k46
                by_cases k95 : c = 95
                · have j95 : (c != 95) = false := bne_eq_false_iff_eq.2 k95
                  clear k95
                  as_aux_lemma =>
                    go_wp2; go_meet; exact ⟨⟨_, rfl, (fun h => by cases h)⟩, rfl⟩
                have j95 : (c != 95) = true := bne_iff_ne.2 k95
                by_cases k43 : c = 43
                · have j43 : (c != 43) = false := bne_eq_false_iff_eq.2 k43
                  clear k43
                  as_aux_lemma =>
                    go_wp2; go_meet; exact ⟨⟨_, rfl, (fun h => by cases h)⟩, rfl⟩
                have j43 : (c != 43) = true := bne_iff_ne.2 k43
                by_cases k45 : c = 45
                · have j45 : (c != 45) = false := bne_eq_false_iff_eq.2 k45
                  clear k45
                  as_aux_lemma =>
                    go_wp2; go_meet; exact ⟨⟨_, rfl, (fun h => by cases h)⟩, rfl⟩
                have j45 : (c != 45) = true := bne_iff_ne.2 k45
                by_cases k112 : c = 112
                · have j112 : (c != 112) = false := bne_eq_false_iff_eq.2 k112
                  clear k112
                  as_aux_lemma =>
                    go_wp2; go_meet; exact ⟨⟨_, rfl, (fun h => by cases h)⟩, rfl⟩
                have j112 : (c != 112) = true := bne_iff_ne.2 k112
                by_cases k80 : c = 80
                · have j80 : (c != 80) = false := bne_eq_false_iff_eq.2 k80
                  clear k80
                  as_aux_lemma =>
                    go_wp2; go_meet; exact ⟨⟨_, rfl, (fun h => by cases h)⟩, rfl⟩
                have j80 : (c != 80) = true := bne_iff_ne.2 k80
                by_cases k120 : c = 120
                · have j120 : (c != 120) = false := bne_eq_false_iff_eq.2 k120
                  clear k120
                  as_aux_lemma =>
                    go_wp2; go_meet; exact ⟨⟨_, rfl, (fun h => by cases h)⟩, rfl⟩
                have j120 : (c != 120) = true := bne_iff_ne.2 k120
                by_cases k88 : c = 88
                · have j88 : (c != 88) = false := bne_eq_false_iff_eq.2 k88
                  clear k88
                  as_aux_lemma =>
                    go_wp2; go_meet; exact ⟨⟨_, rfl, (fun h => by cases h)⟩, rfl⟩
                have j88 : (c != 88) = true := bne_iff_ne.2 k88
                by_cases k111 : c = 111
                · have j111 : (c != 111) = false := bne_eq_false_iff_eq.2 k111
                  clear k111
                  as_aux_lemma =>
                    go_wp2; go_meet; exact ⟨⟨_, rfl, (fun h => by cases h)⟩, rfl⟩
                have j111 : (c != 111) = true := bne_iff_ne.2 k111
                by_cases k79 : c = 79
                · have j79 : (c != 79) = false := bne_eq_false_iff_eq.2 k79
                  clear k79
                  as_aux_lemma =>
                    go_wp2; go_meet; exact ⟨⟨_, rfl, (fun h => by cases h)⟩, rfl⟩
                have j79 : (c != 79) = true := bne_iff_ne.2 k79
                by_cases k47 : c = 47
                · have j47 : (c != 47) = false := bne_eq_false_iff_eq.2 k47
                  clear k47
                  as_aux_lemma =>
                    go_wp2; go_meet; exact ⟨⟨_, rfl, (fun h => by cases h)⟩, rfl⟩
                have j47 : (c != 47) = true := bne_iff_ne.2 k47
                have HO : Hid (¬ okB c ∧ c ≠ 47) := by
                  have hf : ¬ isFig c := fun h => by have := HF.out.2 h; cases this
                  unfold isFig at hf
                  unfold Hid okB
                  omega
                clear k46 k95 k43 k45 k112 k80 k120 k88 k111 k79 k47
                go_wp2; go_meet; exact ⟨⟨_, rfl, fun _ => Or.inr HO.out⟩, rfl⟩
          case rest => as_aux_lemma =>
            obtain ⟨⟨G, rfl, HG⟩, rfl⟩ := hcut
            have HO : Hid (G = true → odd1 s) := fun h => by
              rcases HG.out h with h | h
              · exact HH.out.1 h
              · exact Or.inr (Or.inl ⟨i, hi, by rw [Hc.out]; exact h.1, by rw [Hc.out]; exact h.2⟩)
            by_cases h47 : c = 47
            · have j47 : (c == 47) = true := by simp [h47]
              have H47 : Hid (byteAt s i = 47) := Hc.out.trans h47
              clear h47
              have HN : Hid (2 ≤ n + 1 → odd1 s) := fun h => by
                obtain ⟨j, hj, hj2⟩ := HH.out.2.2 (by omega)
                exact Or.inr (Or.inr (Or.inr ⟨j, i, hj, hi, hj2, H47.out⟩))
              cases G with
              | true =>
                go_wp2
                go_roundg (gk - 1)
                case measure => omega
                case rel => exact ⟨i + 1, n + 1, true, rfl, by go_num, by go_num, by omega, by omega, rfl, fun _ => HO.out trivial, HN.out, fun _ => ⟨i, by omega, H47.out⟩⟩
              | false =>
                by_cases g0 : i = 0
                · have j0 : ((i : Int) == 0) = true := by simp [g0]
                  have HX : Hid (odd1 s) := Or.inr (Or.inr (Or.inl ⟨by omega, Or.inl (by rw [← g0]; exact H47.out)⟩))
                  clear g0
                  go_wp2
                  go_roundg (gk - 1)
                  case measure => omega
                  case rel => exact ⟨i + 1, n + 1, true, rfl, by go_num, by go_num, by omega, by omega, rfl, fun _ => HX.out, HN.out, fun _ => ⟨i, by omega, H47.out⟩⟩
                · have j0 : ((i : Int) == 0) = false := by simp [g0]
                  clear g0
                  by_cases g1 : i = s.size - 1
                  · have j1 : ((i : Int) == (s.size : Int) - 1) = true := by simp; omega
                    have HX : Hid (odd1 s) := Or.inr (Or.inr (Or.inl ⟨by omega, Or.inr (by rw [← g1]; exact H47.out)⟩))
                    clear g1
                    go_wp2
                    go_roundg (gk - 1)
                    case measure => omega
                    case rel => exact ⟨i + 1, n + 1, true, rfl, by go_num, by go_num, by omega, by omega, rfl, fun _ => HX.out, HN.out, fun _ => ⟨i, by omega, H47.out⟩⟩
                  · have j1 : ((i : Int) == (s.size : Int) - 1) = false := by simp; omega
                    clear g1
                    go_wp2
                    go_roundg (gk - 1)
                    case measure => omega
                    case rel => exact ⟨i + 1, n + 1, false, rfl, by go_num, by go_num, by omega, by omega, rfl, (fun h => by cases h), HN.out, fun _ => ⟨i, by omega, H47.out⟩⟩
            · have j47 : (c == 47) = false := by simp [h47]
              clear h47
              go_wp2
              go_roundg (gk - 1)
              case measure => omega
              case rel => exact ⟨i + 1, n, G, rfl, rfl, by go_num, by omega, by omega, rfl, HO.out, HH.out.2.1, fun h => by
                obtain ⟨j, h1, h2⟩ := HH.out.2.2 h
                exact ⟨j, by omega, h2⟩⟩
    · have h3 : decide ((i : Int) < (s.size : Int)) = false := by simp; omega
      by_cases hq : odd = false ∧ n < 2
      · obtain ⟨rfl, hn2⟩ := hq
        have h6 : decide ((n : Int) < 2) = true := by simp; omega
        go_wp2
        go_ret
        exact ⟨rfl, Chg.refl _ _⟩
      · have Hodd : Hid (odd1 s) := by
          cases odd with
          | true => exact HH.out.1 rfl
          | false => exact HH.out.2.1 (by
              rcases Nat.lt_or_ge n 2 with h | h
              · exact absurd ⟨rfl, h⟩ hq
              · exact h)
        have HC := Lib.hid (RatParse_no s aE a1 a2 w (by omega) hw H.out.1 H.out.2 (ratNo_of_odd Hodd.out))
        cases odd with
        | true =>
          go_wp2_with fail
          refine HC.out.mono ?_
          rintro e w1 ⟨rfl, k1⟩
          have K1 := Lib.hid k1
          clear k1
          go_wp2_with fail
          have k2 : Chg zNone w (w1.alloc (.cells #[.bool false, .slice none 0 0, .slice none 0 0] 31)) := K1.out.alloc _
          have HH2 := Lib.hid (show Calls Tryz.prog 36 #[.string ⟨#[49, 47, 50]⟩] (w1.alloc (.cells #[.bool false, .slice none 0 0, .slice none 0 0] 31)) (HalfPost _) from RatParse_half aE a1 a2 _ (by have := k2.size; omega) (H.out.1.chg k2 (fun _ h => h)))
          have K2 := Lib.hid k2
          clear k2
          refine HH2.out.mono ?_
          rintro e w2 ⟨B, b1, d1, b2, d2, rfl, k3⟩
          have K3 := Lib.hid (K2.out.trans k3 (fun _ _ _ h => h))
          clear k3
          go_wp2
          go_ret
          exact ⟨rfl, K3.out.alloc _⟩
        | false =>
          have h6 : decide ((n : Int) < 2) = false := by
            have : ¬ n < 2 := fun h => hq ⟨rfl, h⟩
            simp; omega
          go_wp2_with fail
          refine HC.out.mono ?_
          rintro e w1 ⟨rfl, k1⟩
          have K1 := Lib.hid k1
          clear k1
          go_wp2_with fail
          have k2 : Chg zNone w (w1.alloc (.cells #[.bool false, .slice none 0 0, .slice none 0 0] 31)) := K1.out.alloc _
          have HH2 := Lib.hid (show Calls Tryz.prog 36 #[.string ⟨#[49, 47, 50]⟩] (w1.alloc (.cells #[.bool false, .slice none 0 0, .slice none 0 0] 31)) (HalfPost _) from RatParse_half aE a1 a2 _ (by have := k2.size; omega) (H.out.1.chg k2 (fun _ h => h)))
          have K2 := Lib.hid k2
          clear k2
          refine HH2.out.mono ?_
          rintro e w2 ⟨B, b1, d1, b2, d2, rfl, k3⟩
          have K3 := Lib.hid (K2.out.trans k3 (fun _ _ _ h => h))
          clear k3
          go_wp2
          go_ret
          exact ⟨rfl, K3.out.alloc _⟩
set_option maxHeartbeats 2000000 in
theorem law10 (s : ByteArray) (aE a1 a2 : Addr) (w : World) (hw : 14 ≤ w.heap.size)
    (hE : Errs w (.iface 229 (.pointer (some aE))) (.iface 229 (.pointer (some a1))) (.iface 229 (.pointer (some a2)))) (hPE : PErrs w) :
    Calls Tryz.prog 10 #[.string s] w fun e w' => e = .returned (.bool true) ∧ Chg zNone w w' := by
  by_cases hs : s.size ≤ 60
  · exact law10_60 s aE a1 a2 w hs hw hE hPE
  · clear hE hPE hw
    by_cases hb : 2147483647 < s.size
    · have h1 : decide ((2147483647 : Int) < (s.size : Int)) = true := by simp; omega
      clear hb hs
      go_enter Tryz.func10, Tryz.ntmps10
      go_wp2
      go_ret
      exact ⟨rfl, Chg.refl _ _⟩
    · have h1 : decide ((2147483647 : Int) < (s.size : Int)) = false := by simp; omega
      have h2 : decide ((60 : Int) < (s.size : Int)) = true := by simp; omega
      clear hb hs
      go_enter Tryz.func10, Tryz.ntmps10
      go_wp2
      go_ret
      exact ⟨rfl, Chg.refl _ _⟩
end Go.Proofs.YtmgfajamanakcaaGreatDoor
