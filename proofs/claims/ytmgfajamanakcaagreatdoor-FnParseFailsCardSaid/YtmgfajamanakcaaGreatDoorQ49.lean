/-
  The law of FnParseFails, walked: true at every text and base. Conditions: what the program's variables hold.
-/
import Derived.Test.YtmgfajamanakcaaGreatDoorQ47
import Derived.Test.YtmgfajamanakcaaGreatDoorQ48
import Derived.Deep.LoopGhost
import Derived.Deep.CutBlock
import Derived.Outline
namespace Go.Proofs.YtmgfajamanakcaaGreatDoor
set_option linter.unusedSimpArgs false
open Go.RowKit
set_option maxRecDepth 100000
set_option linter.unusedVariables false
/-! ### The plain half -/
theorem signAt_ok {s : ByteArray} : ∀ i, i < (signAt s 0).2 → okB (byteAt s i) := by
  intro i hi
  unfold signAt at hi
  split at hi
  · rename_i h
    simp only at hi
    obtain rfl : i = 0 := by omega
    rw [h]; unfold okB; omega
  · split at hi
    · rename_i h
      simp only at hi
      obtain rfl : i = 0 := by omega
      rw [h]; unfold okB; omega
    · simp only at hi; omega
/-- A text that is one number has figures, and number bytes alone. -/
theorem parseOk_bytes {s : ByteArray} {base : Int} (hbase : base = 0 ∨ base = 2 ∨ base = 8 ∨ base = 10 ∨ base = 16) (h : parseOk s base) : (∃ i, i < s.size ∧ isFig (byteAt s i)) ∧ ∀ i, i < s.size → okB (byteAt s i) := by
  obtain ⟨h0, ⟨h1, h2⟩, h3⟩ := h
  have hq := signAt_le h0
  obtain ⟨i, i1, i2, i3⟩ := scanS_fig (by omega) h1
  obtain ⟨a1, a2, a3⟩ := scanS_ok (base := base) (frac := true) hq (by omega)
  obtain ⟨b1, b2, b3⟩ := scanE_ok (sep := (base == 0)) a2
  refine ⟨⟨i, i2, i3⟩, fun j hj => ?_⟩
  by_cases c1 : j < (signAt s 0).2
  · exact signAt_ok j c1
  · by_cases c2 : j < (scanS base true s (signAt s 0).2).p
    · exact a3 j (by omega) c2
    · exact b3 j (by omega) (by omega)
/-- The text without its sign. -/
def tOf (s : ByteArray) : ByteArray := if 0 < s.size ∧ (byteAt s 0 = 45 ∨ byteAt s 0 = 43) then s.extract 1 s.size else s
theorem head_of {s : ByteArray} {a : UInt8} {l : List UInt8} (h : (s.toList == a :: l) = true) : byteAt s 0 = (a.toNat : Int) := by
  have h1 := beq_iff_eq.1 h
  rw [ByteArray.toList_eq] at h1
  unfold byteAt
  rw [h1]
  rfl
theorem notInf_of {s : ByteArray} (h1 : ((tOf s).toList == [105, 110, 102]) = false) (h2 : ((tOf s).toList == [73, 110, 102]) = false) : NotInf s := by
  unfold tOf at h1 h2
  by_cases hc : 0 < s.size ∧ (byteAt s 0 = 45 ∨ byteAt s 0 = 43)
  · rw [if_pos hc] at h1 h2
    refine ⟨?_, ?_, fun h4 _ => ?_⟩
    · cases h : (s.toList == [73, 110, 102]) with
      | false => rfl
      | true =>
        exfalso
        have := head_of h
        rw [show (((73 : UInt8).toNat : Nat) : Int) = 73 from rfl] at this
        omega
    · cases h : (s.toList == [105, 110, 102]) with
      | false => rfl
      | true =>
        exfalso
        have := head_of h
        rw [show (((105 : UInt8).toNat : Nat) : Int) = 105 from rfl] at this
        omega
    · rw [h4] at h1 h2
      exact ⟨h2, h1⟩
  · rw [if_neg hc] at h1 h2
    exact ⟨h2, h1, fun h4 hh => absurd ⟨by omega, by omega⟩ hc⟩
/-- The text 1. -/
theorem one_ok {base : Int} (hbase : base = 0 ∨ base = 2 ∨ base = 8 ∨ base = 10 ∨ base = 16) : parseOk ⟨#[49]⟩ base ∧ NotInf ⟨#[49]⟩ ∧
    x5of (scanS base true ⟨#[49]⟩ (signAt ⟨#[49]⟩ 0).2) (scanE (base == 0) ⟨#[49]⟩ (scanS base true ⟨#[49]⟩ (signAt ⟨#[49]⟩ 0).2).p) = 0 ∧
    x2of (scanS base true ⟨#[49]⟩ (signAt ⟨#[49]⟩ 0).2) (scanE (base == 0) ⟨#[49]⟩ (scanS base true ⟨#[49]⟩ (signAt ⟨#[49]⟩ 0).2).p) = 0 := by
  have hN : NotInf ⟨#[49]⟩ := ⟨by rw [ByteArray.toList_eq]; rfl, by rw [ByteArray.toList_eq]; rfl, fun h => absurd h (by decide)⟩
  rcases hbase with rfl | rfl | rfl | rfl | rfl
  all_goals exact ⟨⟨by decide, ⟨by kernel_rfl, by kernel_rfl⟩, by kernel_rfl⟩, hN, by kernel_rfl, by kernel_rfl⟩
/-! ### The walk -/
def FRel (w : World) (s : ByteArray) (k : Nat) (s5 s6 s7 : Value) (wc : World) : Prop :=
  ∃ (i : Nat) (odd fig : Bool), s5 = .bool odd ∧ s6 = .bool fig ∧ s7 = .int .i64 (i : Int) ∧ i + k = s.size ∧ w = wc ∧
    Hid ((odd = true → ∃ j, j < s.size ∧ ¬ okB (byteAt s j)) ∧ (fig = false → ∀ j, j < i → ¬ isFig (byteAt s j)))
theorem base_at7 (b : Int) (hb : 0 ≤ b) (_hb2 : b < 256) : ∃ bb : Int, (bb = 0 ∨ bb = 2 ∨ bb = 8 ∨ bb = 10 ∨ bb = 16) ∧ ∀ w, (Instr.index 59 (.agg #[.int .i64 0, .int .i64 2, .int .i64 8, .int .i64 10, .int .i64 16]) (.int .u8 (b.tmod 5))).run Tryz.prog w = .ok (.int .i64 bb) w := by
  have h : b.tmod 5 = 0 ∨ b.tmod 5 = 1 ∨ b.tmod 5 = 2 ∨ b.tmod 5 = 3 ∨ b.tmod 5 = 4 := by rw [Int.tmod_eq_emod_of_nonneg hb]; omega
  rcases h with h | h | h | h | h <;> rw [h]
  · exact ⟨0, by simp, fun _ => by kernel_rfl⟩
  · exact ⟨2, by simp, fun _ => by kernel_rfl⟩
  · exact ⟨8, by simp, fun _ => by kernel_rfl⟩
  · exact ⟨10, by simp, fun _ => by kernel_rfl⟩
  · exact ⟨16, by simp, fun _ => by kernel_rfl⟩
set_option maxHeartbeats 8000000 in
theorem law7_60 (s : ByteArray) (b : Int) (aE a1 a2 : Addr) (w : World) (hs : s.size ≤ 60) (hb : 0 ≤ b) (hb2 : b < 256) (hE : FEnv w aE a1 a2) :
    Calls Tryz.prog 7 #[.string s, .int .u8 b] w fun e w' => e = .returned (.bool true) ∧ Chg zNone w w' := by
  obtain ⟨bb, hbb, hix⟩ := base_at7 b hb hb2
  have HE := Lib.hid hE
  have hix2 : ∀ w, (Instr.index 59 (.agg #[.int .i64 0, .int .i64 2, .int .i64 8, .int .i64 10, .int .i64 16]) (.int .u8 (b % 5))).run Tryz.prog w = .ok (.int .i64 bb) w := by
    rw [← Int.tmod_eq_emod_of_nonneg hb]; exact hix
  clear hE
  have h1 : decide ((2147483647 : Int) < (s.size : Int)) = false := by simp; omega
  have h2 : decide ((60 : Int) < (s.size : Int)) = false := by simp; omega
  go_enter Tryz.func7, Tryz.ntmps7
  go_wp2_with fail
  go_loopg [5, 6, 7] s.size (FRel w s)
  case atStart => exact ⟨0, false, false, rfl, rfl, rfl, by omega, rfl, (fun h => by cases h), fun _ j hj => by omega⟩
  case round =>
    obtain ⟨i, odd, fig, rfl, rfl, rfl, hk, rfl, HH⟩ := hrel
    by_cases hi : i < s.size
    · have h3 : decide ((i : Int) < (s.size : Int)) = true := by simp; omega
      have h4 : (0 : Int) ≤ (i : Int) := by omega
      have h5 : (i : Int) < (s.size : Int) := by omega
      go_upto_region 9 with fail
      go_cut [8] (fun s8 wc => s8 = .int .u8 (byteAt s i) ∧ w = wc)
      case first =>
        go_wp2
        go_meet
        exact ⟨by rw [← byteAt_eq s i hi], rfl⟩
      case rest =>
        obtain ⟨rfl, rfl⟩ := hcut
        obtain ⟨c, hc⟩ : ∃ c, byteAt s i = c := ⟨_, rfl⟩
        rw [hc]
        have Hc := Lib.hid hc
        have hcb := byteAt_range s i
        rw [hc] at hcb
        obtain ⟨hc0, hc1⟩ := hcb
        clear hc
        go_upto_region 10 with fail
        go_cut [9] (fun s9 wc => (∃ F : Bool, s9 = .bool F ∧ Hid (F = true ↔ isFig c)) ∧ w = wc)
        case first => as_aux_lemma =>
          by_cases q1 : c < 48
          · go_wp2; go_meet; exact ⟨⟨_, rfl, by unfold Hid isFig; simp; omega⟩, rfl⟩
          · have q1' : 48 ≤ c := by omega
            by_cases q2 : c ≤ 57
            · go_wp2; go_meet; exact ⟨⟨_, rfl, by unfold Hid isFig; simp; omega⟩, rfl⟩
            · have q2' : 57 < c := by omega
              by_cases q3 : c < 65
              · have q4 : c < 97 := by omega
                go_wp2; go_meet; exact ⟨⟨_, rfl, by unfold Hid isFig; simp; omega⟩, rfl⟩
              · have q3' : 65 ≤ c := by omega
                by_cases q4 : c ≤ 70
                · have q5 : c < 97 := by omega
                  go_wp2; go_meet; exact ⟨⟨_, rfl, by unfold Hid isFig; simp; omega⟩, rfl⟩
                · have q4' : 70 < c := by omega
                  by_cases q5 : c < 97
                  · go_wp2; go_meet; exact ⟨⟨_, rfl, by unfold Hid isFig; simp; omega⟩, rfl⟩
                  · have q5' : 97 ≤ c := by omega
                    by_cases q6 : c ≤ 102
                    · go_wp2; go_meet; exact ⟨⟨_, rfl, by unfold Hid isFig; simp; omega⟩, rfl⟩
                    · have q6' : 102 < c := by omega
                      go_wp2; go_meet; exact ⟨⟨_, rfl, by unfold Hid isFig; simp; omega⟩, rfl⟩
        case rest => as_aux_lemma =>
          obtain ⟨⟨F, rfl, HF⟩, rfl⟩ := hcut
          go_upto_region 11 with fail
          go_cut [6] (fun s6 wc => (∃ G : Bool, s6 = .bool G ∧ Hid (G = false → fig = false ∧ F = false)) ∧ w = wc)
          case first => as_aux_lemma =>
            cases fig with
            | true => go_wp2; go_meet; exact ⟨⟨_, rfl, fun h => by simp at h⟩, rfl⟩
            | false =>
              cases F with
              | true => go_wp2; go_meet; exact ⟨⟨_, rfl, fun h => by simp at h⟩, rfl⟩
              | false => go_wp2; go_meet; exact ⟨⟨_, rfl, fun _ => (by first | exact ⟨rfl, rfl⟩ | trivial | simp)⟩, rfl⟩
          obtain ⟨⟨G2, rfl, HG2⟩, rfl⟩ := hcut
          have HFG : Hid (G2 = false → ∀ j, j < i + 1 → ¬ isFig (byteAt s j)) := fun hg j hj => by
            obtain ⟨g1, g2⟩ := HG2.out hg
            rcases Nat.lt_or_ge j i with h | h
            · exact HH.out.2 g1 j h
            · obtain rfl : j = i := by omega
              rw [Hc.out]
              intro hf
              have := HF.out.2 hf
              rw [g2] at this
              cases this
          go_upto_region 12 with fail
          cases odd with
          | true =>
            as_aux_lemma =>
              go_wp2
              go_roundg (gk - 1)
              case measure => omega
              case rel => exact ⟨i + 1, true, G2, rfl, rfl, by go_num, by omega, rfl, fun _ => HH.out.1 (by first | rfl | trivial), HFG.out⟩
          | false =>
            cases F with
            | true =>
              as_aux_lemma =>
                go_wp2
                go_roundg (gk - 1)
                case measure => omega
                case rel => exact ⟨i + 1, false, G2, rfl, rfl, by go_num, by omega, rfl, (fun h => by cases h), HFG.out⟩
            | false =>
                by_cases k46 : c = 46
                · have j46 : (c != 46) = false := bne_eq_false_iff_eq.2 k46
                  clear k46
                  as_aux_lemma =>
                    go_wp2
                    go_roundg (gk - 1)
                    case measure => omega
                    case rel => exact ⟨i + 1, false, G2, rfl, rfl, by go_num, by omega, rfl, (fun h => by cases h), HFG.out⟩
                have j46 : (c != 46) = true := bne_iff_ne.2 k46
                by_cases k95 : c = 95
                · have j95 : (c != 95) = false := bne_eq_false_iff_eq.2 k95
                  clear k95
                  as_aux_lemma =>
                    go_wp2
                    go_roundg (gk - 1)
                    case measure => omega
                    case rel => exact ⟨i + 1, false, G2, rfl, rfl, by go_num, by omega, rfl, (fun h => by cases h), HFG.out⟩
                have j95 : (c != 95) = true := bne_iff_ne.2 k95
                by_cases k43 : c = 43
                · have j43 : (c != 43) = false := bne_eq_false_iff_eq.2 k43
                  clear k43
                  as_aux_lemma =>
                    go_wp2
                    go_roundg (gk - 1)
                    case measure => omega
                    case rel => exact ⟨i + 1, false, G2, rfl, rfl, by go_num, by omega, rfl, (fun h => by cases h), HFG.out⟩
                have j43 : (c != 43) = true := bne_iff_ne.2 k43
                by_cases k45 : c = 45
                · have j45 : (c != 45) = false := bne_eq_false_iff_eq.2 k45
                  clear k45
                  as_aux_lemma =>
                    go_wp2
                    go_roundg (gk - 1)
                    case measure => omega
                    case rel => exact ⟨i + 1, false, G2, rfl, rfl, by go_num, by omega, rfl, (fun h => by cases h), HFG.out⟩
                have j45 : (c != 45) = true := bne_iff_ne.2 k45
                by_cases k112 : c = 112
                · have j112 : (c != 112) = false := bne_eq_false_iff_eq.2 k112
                  clear k112
                  as_aux_lemma =>
                    go_wp2
                    go_roundg (gk - 1)
                    case measure => omega
                    case rel => exact ⟨i + 1, false, G2, rfl, rfl, by go_num, by omega, rfl, (fun h => by cases h), HFG.out⟩
                have j112 : (c != 112) = true := bne_iff_ne.2 k112
                by_cases k80 : c = 80
                · have j80 : (c != 80) = false := bne_eq_false_iff_eq.2 k80
                  clear k80
                  as_aux_lemma =>
                    go_wp2
                    go_roundg (gk - 1)
                    case measure => omega
                    case rel => exact ⟨i + 1, false, G2, rfl, rfl, by go_num, by omega, rfl, (fun h => by cases h), HFG.out⟩
                have j80 : (c != 80) = true := bne_iff_ne.2 k80
                by_cases k120 : c = 120
                · have j120 : (c != 120) = false := bne_eq_false_iff_eq.2 k120
                  clear k120
                  as_aux_lemma =>
                    go_wp2
                    go_roundg (gk - 1)
                    case measure => omega
                    case rel => exact ⟨i + 1, false, G2, rfl, rfl, by go_num, by omega, rfl, (fun h => by cases h), HFG.out⟩
                have j120 : (c != 120) = true := bne_iff_ne.2 k120
                by_cases k88 : c = 88
                · have j88 : (c != 88) = false := bne_eq_false_iff_eq.2 k88
                  clear k88
                  as_aux_lemma =>
                    go_wp2
                    go_roundg (gk - 1)
                    case measure => omega
                    case rel => exact ⟨i + 1, false, G2, rfl, rfl, by go_num, by omega, rfl, (fun h => by cases h), HFG.out⟩
                have j88 : (c != 88) = true := bne_iff_ne.2 k88
                by_cases k111 : c = 111
                · have j111 : (c != 111) = false := bne_eq_false_iff_eq.2 k111
                  clear k111
                  as_aux_lemma =>
                    go_wp2
                    go_roundg (gk - 1)
                    case measure => omega
                    case rel => exact ⟨i + 1, false, G2, rfl, rfl, by go_num, by omega, rfl, (fun h => by cases h), HFG.out⟩
                have j111 : (c != 111) = true := bne_iff_ne.2 k111
                by_cases k79 : c = 79
                · have j79 : (c != 79) = false := bne_eq_false_iff_eq.2 k79
                  clear k79
                  as_aux_lemma =>
                    go_wp2
                    go_roundg (gk - 1)
                    case measure => omega
                    case rel => exact ⟨i + 1, false, G2, rfl, rfl, by go_num, by omega, rfl, (fun h => by cases h), HFG.out⟩
                have j79 : (c != 79) = true := bne_iff_ne.2 k79
                have HO : Hid (¬ okB c) := by
                  have hf : ¬ isFig c := fun h => by have := HF.out.2 h; cases this
                  unfold isFig at hf
                  unfold Hid okB
                  omega
                clear k46 k95 k43 k45 k112 k80 k120 k88 k111 k79
                go_wp2
                go_roundg (gk - 1)
                case measure => omega
                case rel => exact ⟨i + 1, true, G2, rfl, rfl, by go_num, by omega, rfl, fun _ => ⟨i, hi, by rw [Hc.out]; exact HO.out⟩, HFG.out⟩
    · have h3 : decide ((i : Int) < (s.size : Int)) = false := by simp; omega
      have hisz : i = s.size := by omega
      have HNF : Hid (fig = false → ∀ j, j < s.size → ¬ isFig (byteAt s j)) := fun h j hj => HH.out.2 h j (by omega)
      have HOD : Hid (odd = true → ∃ j, j < s.size ∧ ¬ okB (byteAt s j)) := HH.out.1
      clear hisz
      go_upto_region 14 with fail
      go_cut [119] (fun s119 wc => (∃ T : Bool, s119 = .bool T ∧ Hid (T = true ↔ (0 < s.size ∧ (byteAt s 0 = 45 ∨ byteAt s 0 = 43)))) ∧ w = wc)
      case first => as_aux_lemma =>
        by_cases h0 : 0 < s.size
        · have f1 : decide ((0 : Int) < (s.size : Int)) = true := by simp; omega
          have f2 : (0 : Int) < (s.size : Int) := by omega
          have e0 := byteAt_eq s 0 h0
          by_cases c1 : byteAt s 0 = 45
          · have c1' : (byteAt s 0 == 45) = true := by simp [c1]
            have HR := Lib.hid (show 0 < s.size ∧ (byteAt s 0 = 45 ∨ byteAt s 0 = 43) from ⟨h0, Or.inl c1⟩)
            rw [← e0] at c1'
            clear c1 e0
            go_wp2
            all_goals (go_meet; exact ⟨⟨true, rfl, ⟨fun _ => HR.out, fun _ => rfl⟩⟩, rfl⟩)
          · have c1' : (byteAt s 0 == 45) = false := by simp [c1]
            by_cases c2 : byteAt s 0 = 43
            · have c2' : (byteAt s 0 == 43) = true := by simp [c2]
              have HR := Lib.hid (show 0 < s.size ∧ (byteAt s 0 = 45 ∨ byteAt s 0 = 43) from ⟨h0, Or.inr c2⟩)
              rw [← e0] at c1' c2'
              clear c1 c2 e0
              go_wp2
              all_goals (go_meet; exact ⟨⟨true, rfl, ⟨fun _ => HR.out, fun _ => rfl⟩⟩, rfl⟩)
            · have c2' : (byteAt s 0 == 43) = false := by simp [c2]
              have HR := Lib.hid (show ¬ (0 < s.size ∧ (byteAt s 0 = 45 ∨ byteAt s 0 = 43)) from fun hh => hh.2.elim c1 c2)
              rw [← e0] at c1' c2'
              clear c1 c2 e0
              go_wp2
              all_goals (go_meet; exact ⟨⟨false, rfl, ⟨(fun h => by cases h), fun h => absurd h HR.out⟩⟩, rfl⟩)
        · have f1 : decide ((0 : Int) < (s.size : Int)) = false := decide_eq_false (by omega)
          have f2 : ((s.size : Int) == 0) = true := beq_iff_eq.2 (by omega)
          go_wp2
          all_goals (go_meet; exact ⟨⟨false, rfl, ⟨(fun h => by cases h), fun h => absurd h.1 h0⟩⟩, rfl⟩)
      obtain ⟨⟨T, rfl, HT⟩, rfl⟩ := hcut
      go_upto_if 119 with fail
      go_cut [10] (fun s10 wc => s10 = .string (tOf s) ∧ w = wc)
      case first => as_aux_lemma =>
        cases T with
        | true =>
          have ht := HT.out.1 rfl
          have HTT : Hid (tOf s = s.extract 1 s.size) := by unfold Hid tOf; rw [if_pos ht]
          have f3 : (1 : Int) ≤ (s.size : Int) := by have := ht.1; omega
          have f4 : (0 : Int) ≤ (1 : Int) := by omega
          clear ht
          go_wp2
          go_meet
          exact ⟨by rw [HTT.out], rfl⟩
        | false =>
          have HTT : Hid (tOf s = s) := by unfold Hid tOf; rw [if_neg (fun hh => by have := HT.out.2 hh; cases this)]
          go_wp2
          go_meet
          exact ⟨by rw [HTT.out], rfl⟩
      case rest => as_aux_lemma =>
        obtain ⟨rfl, rfl⟩ := hcut
        obtain ⟨b1, hb1⟩ : ∃ b1, ((tOf s).toList == [105, 110, 102]) = b1 := ⟨_, rfl⟩
        obtain ⟨b2, hb2'⟩ : ∃ b2, ((tOf s).toList == [73, 110, 102]) = b2 := ⟨_, rfl⟩
        have HB1 := Lib.hid hb1
        have HB2 := Lib.hid hb2'
        go_upto_region 16 with fail
        go_cut [134] (fun s134 wc => (∃ T : Bool, s134 = .bool T ∧ Hid (T = false → (odd = true ∨ fig = false) ∧ b1 = false ∧ b2 = false)) ∧ w = wc)
        case first => as_aux_lemma =>
          cases odd with
          | true =>
            cases b1 with
            | true => go_wp2; go_meet; exact ⟨⟨_, rfl, fun h => by simp at h⟩, rfl⟩
            | false =>
              cases b2 with
              | true => go_wp2; go_meet; exact ⟨⟨_, rfl, fun h => by simp at h⟩, rfl⟩
              | false => go_wp2; go_meet; exact ⟨⟨_, rfl, fun _ => by simp⟩, rfl⟩
          | false =>
            cases fig with
            | true => go_wp2; go_meet; exact ⟨⟨_, rfl, fun h => by simp at h⟩, rfl⟩
            | false =>
              cases b1 with
              | true => go_wp2; go_meet; exact ⟨⟨_, rfl, fun h => by simp at h⟩, rfl⟩
              | false =>
                cases b2 with
                | true => go_wp2; go_meet; exact ⟨⟨_, rfl, fun h => by simp at h⟩, rfl⟩
                | false => go_wp2; go_meet; exact ⟨⟨_, rfl, fun _ => by simp⟩, rfl⟩
        case rest => as_aux_lemma =>
          obtain ⟨⟨T, rfl, HT2⟩, rfl⟩ := hcut
          cases T with
          | true =>
            go_wp2_with fail
            refine bodyPost_ret (v := .bool true) (by simp [results, Tryz.results7, go_sem]) rfl ?_
            exact ⟨rfl, Chg.refl _ _⟩
          | false =>
            obtain ⟨q1, q2, q3⟩ := HT2.out rfl
            have hN : NotInf s := notInf_of (HB1.out.trans q2) (HB2.out.trans q3)
            have hno : ¬ parseOk s bb := fun h => by
              obtain ⟨⟨j, j1, j2⟩, j3⟩ := parseOk_bytes hbb h
              rcases q1 with q1 | q1
              · obtain ⟨l, l1, l2⟩ := HOD.out q1
                exact l2 (j3 l l1)
              · exact HNF.out q1 j j1 j2
            have HC : Hid (Calls Tryz.prog 31 #[.string s, .int .i64 bb, .int .u64 53, .int .i64 0] w (IBad w)) := IParse_bad s bb 53 53 0 aE a1 a2 w (by omega) hN HE.out (by rfl) (by omega) (by omega) hbb hno
            clear hN hno q1 q2 q3 hb1 hb2' HT HT2 HNF HOD HH h1 h2 h3
            go_wp2_with fail
            refine HC.out.mono ?_
            rintro e w1 ⟨rfl, k1⟩
            have K1 := Lib.hid k1
            clear k1
            have hal : Chg zNone w (w1.alloc (.cells #[.int .u64 0, .int .i64 0, .int .i64 0, .bool false, .slice none 0 0, .int .i64 0] 25)) := K1.out.alloc _
            obtain ⟨o1, o2, o3, o4⟩ := one_ok hbb
            have HO := Lib.hid (IParse_good ⟨#[49]⟩ bb 53 53 0 aE a1 a2 _ (by decide) o2 (HE.out.far hal (fun _ _ _ h => h)) (by rfl) (by omega) (by omega) hbb o1 (by rw [o3]; decide) (by rw [o3]; decide) (by rw [o4]; decide) (by rw [o4]; decide))
            have HO2 : Hid (Calls Tryz.prog 31 #[.string ⟨#[49]⟩, .int .i64 bb, .int .u64 53, .int .i64 0] (w1.alloc (.cells #[.int .u64 0, .int .i64 0, .int .i64 0, .bool false, .slice none 0 0, .int .i64 0] 25)) fun e w' =>
                ∃ p m f ng sa sn sc x ac bo, e = .returned (.tuple #[.agg #[.int .u64 p, .int .i64 m, .int .i64 f, .bool ng, .slice sa sn sc, .int .i64 x], .int .i64 ac, .int .i64 bo, .bool true]) ∧ Chg zNone (w1.alloc (.cells #[.int .u64 0, .int .i64 0, .int .i64 0, .bool false, .slice none 0 0, .int .i64 0] 25)) w') := HO.out.mono (by
              rintro e w' (⟨_, rfl, k⟩ | ⟨_, v, Y, t, a, n, c, W, _, _, _, _, _, rfl, _, _, _, _, _, _, _, k⟩)
              · exact ⟨_, _, _, _, _, _, _, _, _, _, rfl, k⟩
              · exact ⟨_, _, _, _, _, _, _, _, _, _, rfl, k⟩)
            have HA := Lib.hid hal
            clear o1 o2 o3 o4 HO hal
            go_wp2_with fail
            refine HO2.out.mono ?_
            rintro e w2 ⟨p, m, f, ng, sa, sn, sc, x, ac, bo, rfl, k2⟩
            have K2 := Lib.hid (HA.out.trans k2 (fun _ _ _ h => h))
            clear k2
            go_wp2
            go_ret
            exact ⟨rfl, K2.out.alloc _⟩
set_option maxHeartbeats 2000000 in
theorem law7 (s : ByteArray) (b : Int) (aE a1 a2 : Addr) (w : World) (hb : 0 ≤ b) (hb2 : b < 256) (hE : FEnv w aE a1 a2) :
    Calls Tryz.prog 7 #[.string s, .int .u8 b] w fun e w' => e = .returned (.bool true) ∧ Chg zNone w w' := by
  by_cases hs : s.size ≤ 60
  · exact law7_60 s b aE a1 a2 w hs hb hb2 hE
  · clear hE
    by_cases hq : 2147483647 < s.size
    · have h1 : decide ((2147483647 : Int) < (s.size : Int)) = true := by simp; omega
      clear hq hs
      go_enter Tryz.func7, Tryz.ntmps7
      go_wp2
      go_ret
      exact ⟨rfl, Chg.refl _ _⟩
    · have h1 : decide ((2147483647 : Int) < (s.size : Int)) = false := by simp; omega
      have h2 : decide ((60 : Int) < (s.size : Int)) = true := by simp; omega
      clear hq hs
      go_enter Tryz.func7, Tryz.ntmps7
      go_wp2
      go_ret
      exact ⟨rfl, Chg.refl _ _⟩
end Go.Proofs.YtmgfajamanakcaaGreatDoor
