/- Part of the proof of FnParse: what the functions that it reaches do, as contracts. Conditions: those that each theorem names. -/
import Derived.Test.YtmgfajamanakcaaGreatDoorD41
import Derived.Test.YtmgfajamanakcaaGreatDoorD42
namespace Go.Proofs.YtmgfajamanakcaaGreatDoor
set_option linter.unusedVariables false
set_option linter.unusedSimpArgs false
open Go Go.RowKit
set_option maxRecDepth 100000
def FsP (w : World) (sg : Bool) (a : Int) (k : Nat) (e : Ending) (w' : World) : Prop := ∃ s, e = .returned (.string s) ∧ PointS s sg a k ∧ Chg zNone w w'
theorem PointW.byte {B : Nat → Int} {n : Nat} {neg : Bool} {a : Int} {k : Nat} (h : PointW B n neg a k) : ∀ i, i < n → 0 ≤ B i ∧ B i < 256 := by
  obtain ⟨l, h1, h2⟩ := h
  intro i hi
  rcases h2 with ⟨_, rfl⟩ | ⟨_, rfl, h3, h4⟩
  · exact h1.byte i hi
  · by_cases a1 : i < l
    · exact h1.byte i a1
    · by_cases a2 : i = l
      · subst a2; omega
      · have := h4.dig (i := i) (by omega) hi
        omega
theorem PointW.str {B : Nat → Int} {n : Nat} {neg : Bool} {a : Int} {k : Nat} (h : PointW B n neg a k) : PointS (strOf B n) neg a k := by
  unfold PointS
  rw [strOf_size]
  exact h.congr (fun i hi => strOf_at B n i hi (h.byte i hi))
theorem PointW.pos {B : Nat → Int} {n : Nat} {neg : Bool} {a : Int} {k : Nat} (h : PointW B n neg a k) : 0 < n := by
  obtain ⟨l, ⟨m, _, _, h1, _⟩, h2⟩ := h
  rcases h2 with ⟨_, rfl⟩ | ⟨_, rfl, _⟩ <;> omega
theorem dig_noughts {X : Nat → Int} {lo hi : Nat} (h : ∀ j, lo ≤ j → j < hi → X j = 48) (hl : lo ≤ hi) : DigW X lo hi 0 :=
  ⟨hl, Int.le_refl _, ten_pos _, fun j hj => by rw [h _ (by omega) (by omega)]; simp⟩
theorem TextW.long {B : Nat → Int} {n : Nat} {neg : Bool} {V : Int} (h : TextW B n neg V) : 0 < n := by
  obtain ⟨m, _, _, h1, _⟩ := h
  omega
set_option maxHeartbeats 8000000 in
theorem FloatString_int (rb : Nat) (sg : Bool) (xa : Option Addr) (xn xc : Nat) (X : Nat → Int) (V : Int) (ya : Option Addr) (yn yc : Nat) (Y : Nat → Int) (k : Nat) (w : World) (hA : IntC w rb 0 sg xa xn xc) (hB : IntC w rb 2 false ya yn yc) (hx : NatIn w xa xn xc X) (hnx : Norm X xn) (hv : val X xn = V) (hn22 : xn < 22)
    (hy : NatIn w ya yn yc Y) (hny : Norm Y yn) (hd : val Y yn = 1) (hm0 : 0 < yn) (hg : Glob w) (hk : k ≤ 100) (hsg : sg = true → V ≠ 0) :
    Calls Tryz.prog 59 #[.pointer (some ⟨rb, 0, none⟩), .int .i64 (k : Int)] w (FsP w sg (decQ V 1 (10 ^ k)) k) := by
  have HI := Lib.hid (IsInt_any rb false ya yn yc Y 1 w hB hy hny hd hm0)
  have HT : Hid (∀ W, Chg zNone w W → Calls Tryz.prog 99 #[.pointer (some ⟨rb, 0, none⟩), .slice none 0 0, .int .i64 10] W (AppP W sg V none 0 0 (fun _ => 0))) := fun W k =>
    Append_any rb 0 sg xa xn xc X V none 0 0 (fun _ => 0) W (hA.chg k (fun _ _ h => h)) ⟨rd_far hx.rd k (fun _ _ _ _ _ h => h), hx.wf, hx.le, hx.small, hx.aok.chg k⟩ hnx hv hn22 (hg.far k) (Or.inl ⟨rfl, rfl⟩) (Or.inl rfl) (Nat.le_refl _) (by omega)
  have hsv : Hid ((sg && decide (V ≠ 0)) = sg) := by
    show (sg && decide (V ≠ 0)) = sg
    cases sg with
    | false => rfl
    | true => simpa using hsg rfl
  clear hA hB hx hnx hv hy hny hd hg hm0 hsg
  go_enter Tryz.func59, Tryz.ntmps59
  go_wp2_with fail
  refine HI.out.mono ?_
  rintro e w1 ⟨rfl, k1⟩
  have d1 : decide ((1 : Int) = 1) = true := rfl
  rw [d1]
  clear d1
  have K1 := Lib.hid k1
  clear k1
  go_wp2_with fail
  refine (HT.out w1 K1.out).mono ?_
  rintro e w2 ⟨a1, m1, c1, Y1, rfl, g0, g1, g2, g3, g4, g5, g6⟩
  rw [cat_zero] at g3
  simp only [Nat.zero_add] at g1 g3 ⊢
  have kk : Chg zNone w w2 := K1.out.trans g6 (fun _ _ _ h => no_zone h)
  have hbuf : Buf w.heap.size w2 a1 m1 c1 Y1 := ⟨g1, g2, g3, fun b o e => by
    have hs := K1.out.size
    rcases g5.homeB b o e with ⟨o', e'⟩ | hb
    · cases e'
    · omega⟩
  rw [hsv.out] at g4
  have H2 := Lib.hid (And.intro hbuf (And.intro g4 kk))
  clear g1 g2 g3 g4 g5 g6 kk hbuf
  by_cases h0 : k = 0
  · subst h0
    have d2 : decide ((0 : Int) < ((0 : Nat) : Int)) = false := rfl
    have d2' : decide ((0 : Int) < 0) = false := rfl
    have hP : PointW Y1 m1 sg (decQ V 1 (10 ^ 0)) 0 := by
      refine ⟨m1, ?_, Or.inl ⟨rfl, rfl⟩⟩
      rw [(dec_whole (N := V) (p := 10 ^ 0) (by decide)).1]
      simpa using H2.out.2.1
    obtain ⟨b1, o1, rfl, hW⟩ : ∃ b o, a1 = some ⟨b, o, none⟩ ∧ BWords w2 b o m1 Y1 := by
      rcases H2.out.1.rd with h | h
      · have := hP.pos; omega
      · exact h
    have hcv := conv_str w2 b1 o1 m1 c1 Y1 hW hP.byte
    have HP := Lib.hid hP
    clear hP hW
    go_wp2_with fail
    go_ret
    exact ⟨_, rfl, HP.out.str, H2.out.2.2⟩
  · have d2 : decide ((0 : Int) < (k : Int)) = true := decide_eq_true (by omega)
    have d2' : decide (0 < k) = true := decide_eq_true (by omega)
    have H0 := Lib.hid h0
    clear h0
    have HX := Lib.hid (H2.out.1.one 46)
    have hle := H2.out.1.le
    have hlt : m1 < 1099511627776 := by omega
    go_wp2_with (refine wpList_append_byte rfl (.tmp 23) (.tmp 24) rfl a1 m1 c1 Y1 _ _ rfl rfl HX.out.1 HX.out.2.1 hle hlt HX.out.2.2 ?_; rintro a2 c2 w3 h3; have H3 := Lib.hid h3; clear h3)
    have hsz2 : w.heap.size ≤ w2.heap.size := H2.out.2.2.size
    have HR : Hid (Buf w.heap.size w3 a2 (m1 + 1) c2 (upd Y1 m1 46) ∧ Chg zNone w w3) := by
      obtain ⟨q1, q2, q3⟩ := H2.out.1.snoc hsz2 H3.out
      refine ⟨q1, H2.out.2.2.trans q2 ?_⟩
      rintro b o hb ⟨o', e⟩
      have := H2.out.1.new b o' e
      omega
    have hm1 : m1 < 1048576 := g0
    clear hle hlt HX
    go_loopg [5, 6] k (fun g s5 s6 wc => ∃ a i c B, i + g = k ∧ s5 = .slice a (m1 + 1 + i) c ∧ s6 = .int .i64 ((g : Nat) : Int) ∧ Hid (Buf w.heap.size wc a (m1 + 1 + i) c B ∧ TextW B m1 sg V ∧ B m1 = 46 ∧ (∀ j, m1 + 1 ≤ j → j < m1 + 1 + i → B j = 48) ∧ Chg zNone w wc))
    case atStart =>
      exact ⟨a2, 0, c2, _, by omega, rfl, rfl, HR.out.1, H2.out.2.1.congr (fun i hi => upd_other _ _ (by omega)), upd_same _ _ _, fun j h1 h2 => by omega, HR.out.2⟩
    case round =>
      obtain ⟨a, i, c, B, hig, rfl, rfl, HL⟩ := hrel
      by_cases hg0 : gk = 0
      · have q1 : decide ((0 : Int) < (gk : Int)) = false := decide_eq_false (by omega)
        have q1' : decide (0 < gk) = false := decide_eq_false (by omega)
        have hP : PointW B (m1 + 1 + i) sg (decQ V 1 (10 ^ k)) k := by
          obtain ⟨_, t1, t2, t3, _⟩ := HL.out
          obtain ⟨e1, e2, e3⟩ := dec_whole (N := V) (p := 10 ^ k) (ten_pos k)
          rw [e1]
          have hik : i = k := by omega
          subst hik
          refine ⟨m1, by rw [e2]; exact t1, Or.inr ⟨by have := H0.out; omega, by omega, t2, ?_⟩⟩
          rw [e3]
          exact dig_noughts t3 (by omega)
        obtain ⟨b1, o1, rfl, hW⟩ : ∃ b o, a = some ⟨b, o, none⟩ ∧ BWords wr b o (m1 + 1 + i) B := by
          rcases HL.out.1.rd with h | h
          · omega
          · exact h
        have hcv := conv_str wr b1 o1 (m1 + 1 + i) c B hW hP.byte
        have HP := Lib.hid hP
        clear hP hW hg0
        go_wp2_with fail
        go_ret
        exact ⟨_, rfl, HP.out.str, HL.out.2.2.2.2⟩
      · have q1 : decide ((0 : Int) < (gk : Int)) = true := decide_eq_true (by omega)
        have q1' : decide (0 < gk) = true := decide_eq_true (by omega)
        have HX := Lib.hid (HL.out.1.one 48)
        have hle := HL.out.1.le
        have hlt : m1 + 1 + i < 1099511627776 := by omega
        go_wp2_with (refine wpList_append_byte rfl (.tmp 31) (.tmp 32) rfl a (m1 + 1 + i) c B _ _ rfl rfl HX.out.1 HX.out.2.1 hle hlt HX.out.2.2 ?_; rintro a4 c4 w4 h4; have H4 := Lib.hid h4; clear h4)
        go_roundg (gk - 1)
        case measure => omega
        case rel =>
          obtain ⟨q1, q2, q3⟩ := HL.out.1.snoc HL.out.2.2.2.2.size H4.out
          refine ⟨a4, i + 1, c4, upd B (m1 + 1 + i) 48, by omega, rfl, by go_num, q1, HL.out.2.1.congr (fun j hj => upd_other _ _ (by omega)), by rw [upd_other _ _ (by omega)]; exact HL.out.2.2.1, fun j h1 h2 => ?_, HL.out.2.2.2.2.trans q2 ?_⟩
          · by_cases hj : j = m1 + 1 + i
            · subst hj; exact upd_same _ _ _
            · rw [upd_other _ _ hj]; exact HL.out.2.2.2.1 j h1 (by omega)
          · rintro b o hb ⟨o', e⟩
            have := HL.out.1.new b o' e
            omega
end Go.Proofs.YtmgfajamanakcaaGreatDoor
