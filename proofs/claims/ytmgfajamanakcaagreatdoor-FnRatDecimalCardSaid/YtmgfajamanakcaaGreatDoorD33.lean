/- Part of the proof of FnParse: what the functions that it reaches do, as contracts. Conditions: those that each theorem names. -/
import GoSem.Core.Float
import Derived.Test.YtmgfajamanakcaaGreatDoorD32
import Derived.Test.YtmgfajamanakcaaGreatDoorD19
namespace Go.Proofs.YtmgfajamanakcaaGreatDoor
set_option linter.unusedVariables false
set_option linter.unusedSimpArgs false
open Go
set_option maxRecDepth 100000
def digEst (c b : Nat) : Option (Nat × Int) := match FloatKind.f64.format.div (FloatKind.f64.nearest b) c with
  | some r => match (FloatKind.f64.decode r).toInt .zero with
    | some n => some (r, n)
    | none => none
  | none => none
def digChk (c b : Nat) : Bool := match digEst c b with
  | some (_, n) => decide (0 ≤ n) && decide (n ≤ 1000) && decide (2 ^ b ≤ 10 ^ (n.toNat + 1))
  | none => false
theorem dig_all : ((List.range 1400).all (digChk 0x400A934F0979A371)) = true := by decide +kernel
theorem dig_est {b : Nat} (hb : b < 1400) : ∃ (r n : Nat), FloatKind.f64.format.div (FloatKind.f64.nearest (b : Int)) 0x400A934F0979A371 = some r ∧ (FloatKind.f64.decode r).toInt .zero = some (n : Int) ∧ n ≤ 1000 ∧ (2 : Nat) ^ b ≤ 10 ^ (n + 1) := by
  have h := List.all_eq_true.1 dig_all b (List.mem_range.2 hb)
  unfold digChk digEst at h
  cases h1 : FloatKind.f64.format.div (FloatKind.f64.nearest (b : Int)) 0x400A934F0979A371 with
  | none => rw [h1] at h; cases h
  | some r =>
    rw [h1] at h
    cases h2 : (FloatKind.f64.decode r).toInt .zero with
    | none => simp only [h2] at h; cases h
    | some n =>
      simp only [h2, Bool.and_eq_true, decide_eq_true_eq] at h
      obtain ⟨⟨a1, a2⟩, a3⟩ := h
      refine ⟨r, n.toNat, rfl, ?_, by omega, a3⟩
      rw [h2, show ((n.toNat : Nat) : Int) = n by omega]
end Go.Proofs.YtmgfajamanakcaaGreatDoor
namespace Go.Proofs.YtmgfajamanakcaaGreatDoor
set_option linter.unusedVariables false
set_option linter.unusedSimpArgs false
open Go Go.RowKit
set_option maxRecDepth 100000
def TextW (B : Nat → Int) (n : Nat) (neg : Bool) (V : Int) : Prop :=
  ∃ m, m = (if neg = true then 1 else 0) ∧ (neg = true → B 0 = 45) ∧ m < n ∧ DigW B m n V ∧ (n = m + 1 ∨ 10 ^ (n - 1 - m) ≤ V)
def BNew (w w' : World) (a : Option Addr) (n c : Nat) (B : Nat → Int) : Prop := n ≤ c ∧ c < 1048576 ∧ BRd w' a n B ∧ ∀ b o, a = some ⟨b, o, none⟩ → w.heap.size ≤ b
def ItoaP (w : World) (neg : Bool) (V : Int) (e : Ending) (w' : World) : Prop :=
  ∃ a n c B, e = .returned (.slice a n c) ∧ BNew w w' a n c B ∧ TextW B n (neg && decide (V ≠ 0)) V ∧ Chg zNone w w'
theorem conv_nought (w : World) : (convert 100 100 (.slice (some ⟨w.heap.size, 0, none⟩) 1 1)).run Tryz.prog (w.alloc (.cells #[.int .u8 48] 5)) = .ok (.slice (some ⟨w.heap.size, 0, none⟩) 1 1) (w.alloc (.cells #[.int .u8 48] 5 (1, 2))) := by
  have hsh : (w.alloc (.cells #[.int .u8 48] 5)).heap[w.heap.size]? = some (.cells #[.int .u8 48] 5) := Array.getElem?_push_size
  have hshape : (w.alloc (.cells #[.int .u8 48] 5)).shape? w.heap.size = some (5, 1) := by simp only [World.shape?, hsh]; rfl
  have hfr : (w.alloc (.cells #[.int .u8 48] 5)).freeze ⟨w.heap.size, 1, none⟩ 1 = w.alloc (.cells #[.int .u8 48] 5 (1, 2)) := by
    have hm : ∀ (a : Array Obj) (x : Obj) (f : Obj → Obj), (a.push x).modify a.size f = a.push (f x) := by
      intro a x f
      apply Array.ext
      · simp
      · intro i h1 h2
        simp only [Array.getElem_modify, Array.getElem_push]
        by_cases h : a.size = i
        · subst h
          simp
        · have hi : i < a.size := by simp at h1; omega
          simp [h, hi]
    unfold World.freeze
    rw [if_neg (by decide)]
    show ({ w.alloc (.cells #[.int .u8 48] 5) with heap := (w.heap.push (.cells #[.int .u8 48] 5)).modify w.heap.size _ } : World) = _
    rw [hm]
    rfl
  simp [convert, run_underlying Tryz.underlying100, run_underlying Tryz.underlying5, markStringish, go_sem, hshape, hfr]
theorem alloc_f (w : World) (cs : Array Value) (t : TypeId) (f : Nat × Nat) (i : Nat) (v : Value) (h : cs[i]? = some v) : (w.alloc (.cells cs t f)).cell? ⟨w.heap.size, i, none⟩ = some v := by
  have e : (w.alloc (.cells cs t f)).heap[w.heap.size]? = some (.cells cs t f) := Array.getElem?_push_size
  simp only [World.cell?, e]
  simp [h]
theorem Stk.apart {Z : Zone} {w w' : World} {p : Nat} {d : Option SD} (h : Stk w p d) (k : Chg Z w w') (hz : ∀ b o, Z b o → SepB p d b) : Stk w' p d := by
  refine Stk.chg h k (fun hh => (hz _ _ hh).1 rfl) (fun s e => ⟨fun hh => ((hz _ _ hh).2 s e).1 rfl, ?_⟩)
  rintro b o ⟨po, e1, _⟩ hh
  exact absurd rfl (((hz _ _ hh).2 s e).2 b po e1)
theorem DigW.unshift {X : Nat → Int} {lo hi : Nat} {V : Int} (h : DigW X lo hi V) (k : Nat) (hk : k ≤ lo) : DigW (fun j => X (k + j)) (lo - k) (hi - k) V := by
  obtain ⟨h1, h2, h3, h4⟩ := h
  refine ⟨by omega, h2, ?_, fun j hj => ?_⟩
  · rw [show hi - k - (lo - k) = hi - lo by omega]; exact h3
  · show X (k + (hi - k - 1 - j)) = _
    rw [show k + (hi - k - 1 - j) = hi - 1 - j by omega]
    exact h4 j (by omega)
set_option maxHeartbeats 1000000 in
theorem maxPow_ten (w : World) : Calls Tryz.prog 182 #[.int .u64 10] w fun e w' => e = .returned (.tuple #[.int .u64 10000000000000000000, .int .i64 19]) ∧ w' = w := by
  go_enter Tryz.func182, Tryz.ntmps182
  go_wp2_with fail
  go_loop [2, 3] (fun sp sn => ∃ (n : Nat) (p : Int), sp = .int .u64 p ∧ sn = .int .i64 n ∧ 1 ≤ n ∧ n ≤ 63 ∧ 0 ≤ p ∧ p ≤ 18446744073709551615 ∧ Hid (p = 10 ^ n)) (fun sp sn => 64 - (intOf sn).toNat)
  case atStart => exact ⟨1, 10, rfl, rfl, by omega, by omega, by omega, by omega, (show (10 : Int) = 10 ^ (0 + 1) by rw [Int.pow_succ, Int.pow_zero, Int.one_mul])⟩
  case round =>
    obtain ⟨n, p, rfl, rfl, hn1, hn2, hp0, hp1, H⟩ := hrel
    by_cases hle : p ≤ 1844674407370955161
    · have hx := pow_next 10 p n (by omega) H.out hp0 (by show p ≤ 18446744073709551615 / 10; exact hle)
      have HX := Lib.hid hx
      clear hx
      go_wp2
      go_round
      case rel => exact ⟨n + 1, _, rfl, by go_num, by omega, n_le_63 10 (by omega) _ HX.out.2.1, by omega, by omega, (show p * 10 = 10 ^ (n + 1) by rw [Int.pow_succ, ← H.out])⟩
      case measure => simp [intOf]; have := n_le_63 10 (by omega) _ HX.out.2.1; omega
    · have hn : n = 19 := by
        have h1 := H.out
        rcases Nat.lt_trichotomy n 19 with h | h | h
        · exfalso
          have := ipow_le (show (1 : Int) ≤ 10 by decide) (show n ≤ 18 by omega)
          have e : (10 : Int) ^ 18 = 1000000000000000000 := by decide
          omega
        · exact h
        · exfalso
          have := ipow_le (show (1 : Int) ≤ 10 by decide) (show 20 ≤ n by omega)
          have e : (10 : Int) ^ 20 = 100000000000000000000 := by decide
          omega
      subst hn
      have hp : p = 10000000000000000000 := H.out
      subst hp
      go_wp2
      go_ret2
      exact ⟨rfl, rfl⟩
theorem divisors_all (p m : Nat) (w : World) (hm : m < 34) (h9 : w.cell? ⟨9, 0, none⟩ = some (.int .i64 8))
    (h1 : w.cell? ⟨1, 0, none⟩ = some (.int .i64 40)) (h5 : w.cell? ⟨5, 0, none⟩ = some (.int .i64 12)) (h6 : w.cell? ⟨6, 0, none⟩ = some (.int .i64 80)) :
    Calls Tryz.prog 202 #[.pointer (some ⟨p, 0, none⟩), .int .i64 (m : Int), .int .u64 10, .int .i64 19, .int .u64 10000000000000000000] w fun e w' => ∃ ta t, e = .returned (.slice ta t t) ∧ t ≤ 2 ∧ Chg zNone w w' ∧ ((ta = none ∧ t = 0) ∨ ∃ tb, ta = some ⟨tb, 0, none⟩ ∧ 0 < t ∧ TabS w w' tb t t) := by
  by_cases h8 : m ≤ 8
  · refine (divisors_few p m w h8 h9).mono ?_
    rintro e w' ⟨rfl, rfl⟩
    exact ⟨none, 0, rfl, by omega, Chg.refl _ _, Or.inl ⟨rfl, rfl⟩⟩
  · by_cases h18 : m < 18
    · refine (divisors_many p m 1 w (by omega) (Or.inl ⟨rfl, h18⟩) h9 h1 h5 h6).mono ?_
      rintro e w' ⟨tb, rfl, hT⟩
      exact ⟨_, 1, rfl, by omega, hT.k, Or.inr ⟨tb, rfl, by omega, hT⟩⟩
    · refine (divisors_many p m 2 w (by omega) (Or.inr ⟨rfl, by omega, hm⟩) h9 h1 h5 h6).mono ?_
      rintro e w' ⟨tb, rfl, hT⟩
      exact ⟨_, 2, rfl, by omega, hT.k, Or.inr ⟨tb, rfl, by omega, hT⟩⟩
set_option maxHeartbeats 4000000 in
theorem itoa_zero (neg : Bool) (xa : Option Addr) (xc : Nat) (w : World) : Calls Tryz.prog 153 #[.slice xa 0 xc, .bool neg, .int .i64 10] w (ItoaP w neg 0) := by
  have hcv := conv_nought w
  go_enter Tryz.func153, Tryz.ntmps153
  go_wp2_with fail
  go_ret
  refine ⟨some ⟨w.heap.size, 0, none⟩, 1, 1, fun _ => 48, rfl, ⟨by omega, by omega, Or.inr ⟨_, _, rfl, fun i hi => ?_⟩, fun b o e => ?_⟩, ⟨0, by simp, by simp, by omega, ⟨by omega, by omega, by simp, fun j hj => ?_⟩, Or.inl rfl⟩, (Chg.refl _ _).alloc _⟩
  · obtain rfl : i = 0 := by omega
    exact alloc_f w _ 5 _ 0 _ rfl
  · injection e with e; injection e with e1 _; omega
  · simp
set_option maxHeartbeats 8000000 in
theorem itoa_any (neg : Bool) (xa : Option Addr) (xn xc : Nat) (X : Nat → Int) (V : Int) (w : World) (hx : NatIn w xa xn xc X) (hnx : Norm X xn) (hv : val X xn = V) (hn0 : 0 < xn) (hn22 : xn < 22) (h9 : w.cell? ⟨9, 0, none⟩ = some (.int .i64 8)) (h4 : w.cell? ⟨4, 0, none⟩ = some (.int .i64 40))
    (h1 : w.cell? ⟨1, 0, none⟩ = some (.int .i64 40)) (h5 : w.cell? ⟨5, 0, none⟩ = some (.int .i64 12)) (h6 : w.cell? ⟨6, 0, none⟩ = some (.int .i64 80)) :
    Calls Tryz.prog 153 #[.slice xa xn xc, .bool neg, .int .i64 10] w (ItoaP w neg V) := by
  have HBl := Lib.hid (bitLen_any xa xn xc X w hx.rd hx.wf hn0 (by omega) (by
    rcases hnx with h | h
    · omega
    · exact h))
  have hn1 : ((xn : Int) == 0) = false := beq_false_of_ne (by omega)
  have HX := Lib.hid (And.intro hx (And.intro hnx hv))
  have HG := Lib.hid (And.intro h9 (And.intro h4 (And.intro h1 (And.intro h5 h6))))
  clear hx hnx hv h9 h4 h1 h5 h6
  go_enter_defers Tryz.func153, Tryz.ntmps153
  go_wp2_with fail
  refine HBl.out.mono ?_
  rintro e w1 ⟨L, rfl, l0, l1, l2, l3, rfl⟩
  rw [HX.out.2.2] at l2 l3
  have HL := Lib.hid (And.intro l0 (And.intro l2 l3))
  clear l2 l3
  obtain ⟨r, nd, r1, r2, r3, r4⟩ := dig_est (b := L) (by have := HL.out.1; omega)
  have hq : (binOp .quo 250 (.float .f64 (floatOfInt FloatKind.f64 (L : Int))) (.float .f64 4614662735865160561)).run Tryz.prog w1 = .ok (.float .f64 r) w1 := run_fquo r1 250 w1
  have hf10 : floatOfInt FloatKind.f64 10 = 4621819117588971520 := by decide +kernel
  have hcv : (convert 250 3 (.float .f64 r)).run Tryz.prog w1 = .ok (.int .i64 (nd : Int)) w1 := run_convert_float_int w1 250 3 .f64 .i64 r nd (by kernel_rfl) (by kernel_rfl) (by unfold floatToIntVal; rw [r2]; exact if_pos ⟨by show (-9223372036854775808 : Int) ≤ _; omega, by show _ ≤ (9223372036854775807 : Int); omega⟩)
  have HLg := Lib.hid (Log2_ten w1)
  go_upto_if 41 with (first | (refine HLg.out.mono ?_; rintro e w2 ⟨rfl, rfl⟩))
  go_cut [7] from 41 to 175 (fun s7 wc => ∃ N : Nat, s7 = .int .i64 (N : Int) ∧ N = nd + 1 + (if neg = true then 1 else 0) ∧ wc = w2)
  case first => as_aux_lemma =>
    cases neg with
    | true =>
      go_wp2_with fail
      go_meet
      exact ⟨nd + 2, by go_num, rfl, rfl⟩
    | false =>
      go_wp2_with fail
      go_meet
      exact ⟨nd + 1, by go_num, rfl, rfl⟩
  case rest =>
    obtain ⟨N, rfl, hN, rfl⟩ := hcut
    have hN2 : N ≤ 1010 := by rw [hN]; split <;> omega
    have HN := Lib.hid hN
    have hMk := run_make_bytes wc (N : Int) (N : Int) (by omega) (Int.le_refl _) (by omega)
    have hb10 : bits BinOp.and IntKind.u64 10 18446744073709551606 = 2 := by decide +kernel
    have HR4 := Lib.hid r4
    clear hN hq hcv r1 r2 r4
    obtain ⟨wM, hwM⟩ : ∃ wM, wM = wc.alloc (.cells (madeCells #[.int .u8 0] (N : Int).toNat) 5) := ⟨_, rfl⟩
    rw [← hwM] at hMk
    have hkM : Chg zNone wc wM := by rw [hwM]; exact (Chg.refl _ _).alloc _
    have hRm : BRoom wM wc.heap.size 0 N := by rw [hwM, Int.toNat_natCast]; exact broom_made wc N
    have hsM : wM.heap.size = wc.heap.size + 1 := by rw [hwM]; show (Array.push _ _).size = _; simp
    have HGs := Lib.hid (getStack_any wM)
    have HM := Lib.hid (And.intro hkM (And.intro hRm hsM))
    clear hwM hkM hRm hsM
    rw [Int.toNat_natCast] at hMk
    go_wp2_with fail
    refine HGs.out.mono ?_
    rintro e wS ⟨rfl, hwS⟩
    have hkS : Chg zNone wM wS := by rw [hwS]; exact (Chg.refl _ _).alloc _
    have hSs : wS.heap.size = wM.heap.size + 1 := by rw [hwS]; show (Array.push _ _).size = _; simp
    have hStk : Stk wS wM.heap.size none := by rw [hwS]; exact ⟨cell?_alloc_new wM _ 208 0 _ rfl, frozen?_alloc_new wM _ 208 0⟩
    have HS := Lib.hid (And.intro hkS (And.intro hSs hStk))
    have HMp := Lib.hid (maxPow_ten wS)
    clear hwS hkS hSs hStk
    go_wp2_with fail
    refine HMp.out.mono ?_
    rintro e wS2 ⟨rfl, rfl⟩
    have kS2 : Chg zNone wc wS2 := HM.out.1.trans HS.out.1 (fun _ _ _ h => h)
    have HDs := Lib.hid (divisors_all wM.heap.size xn wS2 (by omega) (kS2.cell HG.out.1 (fun h => h)) (kS2.cell HG.out.2.2.1 (fun h => h)) (kS2.cell HG.out.2.2.2.1 (fun h => h)) (kS2.cell HG.out.2.2.2.2 (fun h => h)))
    have HK2 := Lib.hid kS2
    clear kS2
    go_wp2_with fail
    refine HDs.out.mono ?_
    rintro e wD ⟨ta, t, rfl, ht2, kD, hT⟩
    have kD2 := HK2.out.trans kD (fun _ _ _ h => h)
    have HSt := Lib.hid (set_any none xa 0 0 xn xc X wD (Or.inl ⟨rfl, rfl⟩) (rd_far HX.out.1.rd kD2 (fun _ _ _ _ _ h => h)) HX.out.1.le (by omega))
    have HD := Lib.hid (And.intro kD (And.intro hT kD2))
    clear kD hT kD2
    go_wp2_with fail
    refine HSt.out.mono ?_
    rintro e wQ ⟨qa, qc, rfl, q1, q2, q3, q4, q5⟩
    have kQ : Chg zNone wD wQ := q5.mono (fun _ _ _ h => (no_zone h).elim)
    have HQ := Lib.hid (And.intro q1 (And.intro q2 (And.intro q3 (And.intro q4 kQ))))
    clear q1 q2 q3 q4 q5 kQ
    have HCv : Hid (Calls Tryz.prog 203 #[.slice qa xn qc, .pointer (some ⟨wM.heap.size, 0, none⟩), .slice (some ⟨wc.heap.size, 0, none⟩) N N, .int .u64 10, .int .i64 19, .int .u64 10000000000000000000, .slice ta t t] wQ (ConvP t wQ wc.heap.size 0 N qa qc wM.heap.size none V)) := by
      have hkM := HM.out.1
      have hsM := HM.out.2.2
      have hSs := HS.out.2.1
      obtain ⟨kD, hT, kD2⟩ := HD.out
      obtain ⟨q1, q2, q3, q4, kQ⟩ := HQ.out
      have kDQ := kD2.trans kQ (fun _ _ _ h => h)
      have sD := kD.size
      have sQ := kQ.size
      have h9c := lt_of_cell HG.out.1
      have h4c := lt_of_cell HG.out.2.1
      have hqn : ∀ b o, qa = some ⟨b, o, none⟩ → wD.heap.size ≤ b := by
        intro b o e
        rcases q4 with ⟨h, _⟩ | ⟨b', o', e', hb⟩
        · rw [h] at e; cases e
        · rw [e'] at e; injection e with e; injection e with e1 _; omega
      have kSQ : Chg zNone wS2 wQ := kD.trans kQ (fun _ _ _ h => h)
      refine conv_any t (fun b => b < wc.heap.size ∨ (wS2.heap.size ≤ b ∧ b < wD.heap.size)) qa xn qc X V wc.heap.size 0 N N wM.heap.size none ta t wQ ⟨?_, Nat.le_refl _, by omega, ?_, ?_, ⟨by omega, fun s e => (by cases e)⟩, by omega, HS.out.2.2.far kSQ, by simp [stkL], Or.inl h4c, Or.inl h9c, kDQ.cell HG.out.2.1 (fun h => h), kDQ.cell HG.out.1 (fun h => h)⟩ ⟨q1, q2, q3, HX.out.1.wf, HX.out.2.1, HX.out.2.2, ?_, hn22⟩ ?_ ?_ ht2 (Nat.le_refl _) ?_
      · exact HM.out.2.1.chg ((HS.out.1.trans kD (fun _ _ _ h => h)).trans kQ (fun _ _ _ h => h)) (fun _ _ h => h)
      · rintro b (hb | ⟨hb1, hb2⟩)
        · exact ⟨by omega, ⟨by omega, fun s e => (by cases e)⟩⟩
        · exact ⟨by omega, ⟨by omega, fun s e => (by cases e)⟩⟩
      · rintro (hb | ⟨hb1, hb2⟩)
        · omega
        · omega
      · intro b o e
        have := hqn b o e
        refine ⟨?_, by omega, ⟨by omega, fun s e => (by cases e)⟩⟩
        rintro (hb | ⟨hb1, hb2⟩)
        · omega
        · omega
      · have := HL.out.2.1
        have h2 : (0 : Int) < 2 ^ (L - 1) := Int.pow_pos (by decide)
        omega
      · have h1 := HL.out.2.2
        have h2 := HR4.out
        have h3 : (2 : Int) ^ L ≤ 10 ^ (nd + 1) := by
          have : ((2 ^ L : Nat) : Int) ≤ ((10 ^ (nd + 1) : Nat) : Int) := by omega
          simpa using this
        have h4 := ipow_le (show (1 : Int) ≤ 10 by decide) (show nd + 1 ≤ N by have := HN.out; omega)
        omega
      · rcases hT with ⟨h1, h2⟩ | ⟨tb, h1, h2, h3⟩
        · exact Or.inl ⟨h1, h2⟩
        · right
          refine ⟨⟨tb, h1, Or.inr ⟨h3.ge, h3.pb.lt⟩, fun j hj => ?_⟩, fun h => by omega⟩
          obtain ⟨a, m, c, XX, nd', nb, E⟩ := h3.done j hj
          refine ⟨a, m, c, XX, nd', nb, wS2, E.chg kQ (fun _ h => h) (fun _ _ _ _ h => h), fun b o e => Or.inr ⟨?_, ?_⟩⟩
          · rcases E.fr with h | ⟨b', o', e', hb⟩
            · rw [h] at e; cases e
            · rw [e'] at e; injection e with e; injection e with e1 _; omega
          · exact E.z.lt e
    go_wp2_with fail
    refine HCv.out.mono ?_
    rintro e wR ⟨d', B, rfl, t1, t2, t3, t4, t5, t6, t7, t8⟩
    have HR := Lib.hid (And.intro t1 (And.intro t2 (And.intro t4 (And.intro t5 (And.intro t6 t8)))))
    clear t1 t2 t3 t4 t5 t6 t7 t8
    have hV1 : 0 < V := by
      have := HL.out.2.1
      have h2 : (0 : Int) < 2 ^ (L - 1) := Int.pow_pos (by decide)
      omega
    have HV := Lib.hid hV1
    clear hV1
    go_wp2_with fail
    go_loopg [7] N (fun g s7 wd => ∃ i : Nat, i + g = N ∧ s7 = .int .i64 (i : Int) ∧ wd = wR ∧ Hid (DigW B i N V))
    case atStart => exact ⟨0, by omega, rfl, rfl, HR.out.2.2.2.2.1⟩
    case round =>
      obtain ⟨i, hig, rfl, hwd, HDg⟩ := hrel
      subst hwd
      have hiN : i < N := by
        rcases Nat.lt_or_ge i N with h | h
        · exact h
        · exfalso
          have h1 := HDg.out.2.2.1
          rw [show N - i = 0 by omega] at h1
          have := HV.out
          simp at h1
          omega
      have hcell : wr.cell? ⟨wc.heap.size, i, none⟩ = some (.int .u8 (B i)) := by
        have := HR.out.2.2.2.1 i hiN
        rwa [Nat.zero_add] at this
      have e1 : (0 : Int) ≤ (i : Int) := by omega
      have e2 : (i : Int) < (N : Int) := by omega
      obtain ⟨bv, hbv⟩ : ∃ v, B i = v := ⟨_, rfl⟩
      rw [hbv] at hcell
      have HB := Lib.hid hbv
      clear hbv
      by_cases h48 : bv = 48
      · have d1 : (bv == 48) = true := by simp [h48]
        have HBv := Lib.hid h48
        clear h48
        go_wp2_with fail
        go_roundg (gk - 1)
        case measure => omega
        case rel => exact ⟨i + 1, by omega, by go_num, rfl, HDg.out.drop hiN (by rw [HB.out]; exact HBv.out)⟩
      · have d1 : (bv == 48) = false := beq_false_of_ne h48
        have hlead := HDg.out.lead hiN (by rw [HB.out]; exact h48)
        have HLd := Lib.hid hlead
        clear hlead
        obtain ⟨g1, g2, g3, g4, g5, g6⟩ := HR.out
        have sM := HM.out.2.2
        have sS := HS.out.2.1
        have sD := HD.out.1.size
        have sQ := HQ.out.2.2.2.2.size
        have sR := g6.size
        have kcQ : Chg zNone wc wQ := HD.out.2.2.trans HQ.out.2.2.2.2 (fun _ _ _ h => h)
        have hqa : ∀ b o, zAddr qa qc b o → wc.heap.size ≤ b := by
          rintro b o ⟨p', e, _⟩
          rcases HQ.out.2.2.2.1 with ⟨h, _⟩ | ⟨b', o', e', hb⟩
          · rw [h] at e; cases e
          · rw [e'] at e; injection e with e; injection e with e1 _; omega
        have kcR : Chg zNone wc wr := kcQ.trans g6 (by
          rintro b o hb (hz | hz | hz)
          · have := hz.1; omega
          · have := hqa b o hz; omega
          · have := hz.1; omega)
        have hsep : SepB wM.heap.size d' wc.heap.size := (show SepB wM.heap.size none wc.heap.size from ⟨by omega, fun s e => (by cases e)⟩).from g2 (by omega)
        have hfre : ∀ (we w2 : World), RestPost we wM.heap.size d' 0 w2 → ∃ Zf : Zone, Chg Zf we w2 ∧ ∀ b o, Zf b o → wQ.heap.size ≤ b := by
          rintro we w2 ⟨d3, _, _, k⟩
          cases d' with
          | none => exact ⟨_, k, fun _ _ h => h.elim⟩
          | some sd => exact ⟨_, k, fun b o h => by rw [h.1]; exact g2.1⟩
        have hroom : wr.frozen? ⟨wc.heap.size, 0 + i, none⟩ = false := (g3 i hiN).2
        have HF := Lib.hid (And.intro g1 (And.intro g2 (And.intro g3 (And.intro g4 (And.intro kcR (And.intro hsep (And.intro hfre (And.intro sQ (And.intro sD (And.intro sS (And.intro sM sR)))))))))))
        clear g1 g2 g3 g4 g5 g6 sM sS sD sQ sR kcQ hqa kcR hsep hfre
        have e4 : ¬ (N = i) := by omega
        have e5 : (i : Int) ≤ (N : Int) := by omega
        cases neg with
        | false =>
          go_wp2_with fail
          refine leaves_cons (f := 101) (args := #[.pointer (some ⟨wM.heap.size, 0, none⟩)]) (by simp) (by simp [go_sem]) ?_
          refine (free_d wM.heap.size d' .returning wr HF.out.1).mono ?_
          rintro e u' w'' ⟨rfl, rfl, hrest⟩
          obtain ⟨g1, g2, g3, g4, kcR, hsep, hfre, sQ, sD, sS, sM, sR⟩ := HF.out
          obtain ⟨Zf, kf, hZf⟩ := hfre _ _ hrest
          refine ⟨_, results_tmp rfl _ _ _, some ⟨wc.heap.size, i, none⟩, N - i, N - i, fun j => B (i + j), rfl, ⟨Nat.le_refl _, by omega, Or.inr ⟨_, _, rfl, ?_⟩, ?_⟩, ⟨0, by simp, by simp, by omega, ?_, ?_⟩, kcR.trans kf (fun b o hb hz => by have := hZf b o hz; omega)⟩
          · intro j hj
            refine kf.cell ?_ (fun hz => by have := hZf _ _ hz; omega)
            have := g4 (i + j) (by omega)
            rwa [Nat.zero_add] at this
          · intro b o e; injection e with e; injection e with e1 _; omega
          · have := HDg.out.unshift i (Nat.le_refl _)
            rwa [Nat.sub_self] at this
          · right
            rw [show N - i - 1 - 0 = N - 1 - i by omega]
            exact HLd.out
        | true =>
          have hN1 := HN.out
          simp only [if_true] at hN1
          have hi0 : 0 < i := by
            apply Nat.pos_of_ne_zero
            intro h0
            have h1 := HLd.out
            rw [h0] at h1
            have h2 := HL.out.2.2
            have h3 : (2 : Int) ^ L ≤ 10 ^ (nd + 1) := by
              have h4 := HR4.out
              have : ((2 ^ L : Nat) : Int) ≤ ((10 ^ (nd + 1) : Nat) : Int) := by omega
              simpa using this
            have h4 := ipow_le (show (1 : Int) ≤ 10 by decide) (show nd + 1 ≤ N - 1 - 0 by omega)
            omega
          have y1 : (0 : Int) ≤ (i : Int) - 1 := by omega
          have y2 : (i : Int) - 1 < (N : Int) := by omega
          have y3 : (i : Int) - 1 ≤ (N : Int) := by omega
          have y4 : ¬ (N = i - 1) := by omega
          have y6 : ((i : Int) - 1).toNat = i - 1 := by omega
          obtain ⟨⟨old, hold⟩, hfz⟩ := HF.out.2.2.1 (i - 1) (by omega)
          have HO := Lib.hid hold
          rw [Nat.zero_add] at hold hfz
          have x5 : wrap64 ((i : Int) - 1) = (i : Int) - 1 := by unfold wrap64; omega
          clear hN1 e4 e5 e1 e2
          go_wp2_with fail
          have kst : Chg (zRow wc.heap.size (i - 1) 1) wr (wr.setCell ⟨wc.heap.size, i - 1, none⟩ (.int .u8 45)) := chg_cell _ _ _ _
          refine leaves_cons (f := 101) (args := #[.pointer (some ⟨wM.heap.size, 0, none⟩)]) (by simp) (by simp [go_sem]) ?_
          refine (free_d wM.heap.size d' .returning _ (Stk.apart HF.out.1 kst (fun b o hz => by rw [hz.1]; exact HF.out.2.2.2.2.2.1))).mono ?_
          rintro e u' w'' ⟨rfl, rfl, hrest⟩
          obtain ⟨g1, g2, g3, g4, kcR, hsep, hfre, sQ, sD, sS, sM, sR⟩ := HF.out
          obtain ⟨Zf, kf, hZf⟩ := hfre _ _ hrest
          refine ⟨_, results_tmp rfl _ _ _, some ⟨wc.heap.size, i - 1, none⟩, N - (i - 1), N - (i - 1), fun j => if j = 0 then 45 else B (i - 1 + j), rfl, ⟨Nat.le_refl _, by omega, Or.inr ⟨_, _, rfl, ?_⟩, ?_⟩, ⟨1, ?_, fun _ => rfl, by omega, ?_, ?_⟩, (kcR.trans kst (fun b o hb hz => by have := hz.1; omega)).trans kf (fun b o hb hz => by have := hZf b o hz; omega)⟩
          · intro j hj
            refine kf.cell ?_ (fun hz => by have := hZf _ _ hz; omega)
            by_cases hj0 : j = 0
            · subst hj0
              have := HO.out
              rw [Nat.zero_add] at this
              exact cs_same this
            · show World.cell? _ _ = some (Value.int IntKind.u8 (if j = 0 then 45 else B (i - 1 + j)))
              rw [cs_other (by omega), if_neg hj0]
              have := g4 (i - 1 + j) (by omega)
              rwa [Nat.zero_add] at this
          · intro b o e; injection e with e; injection e with e1 _; omega
          · have := HV.out
            simp; omega
          · have h1 := HDg.out.unshift (i - 1) (by omega)
            rw [show i - (i - 1) = 1 by omega] at h1
            exact h1.congr (fun m h1 h2 => if_neg (by omega))
          · right
            rw [show N - (i - 1) - 1 - 1 = N - 1 - i by omega]
            exact HLd.out
end Go.Proofs.YtmgfajamanakcaaGreatDoor
