/-
  A Float that fits its precision, rounded: it stays what it is. Plain. Conditions: the top bit is set.
  impl.real of a finite Float and of a nought, walked. Conditions: the Float is as FNum says and fits its precision.
  A rounded Float fits its precision. Plain. Conditions: the top bit is set.
  What every law's row shares: a walk that ends in 'true' with nothing turned below the heap's old size gives the row's post. Conditions: none beyond the row's own.
-/
import Derived.Test.YtmgfajamanakcaaGreatDoorQ25
import Derived.Test.YtmgfajamanakcaaGreatDoorQ36
import Derived.Test.YtmgfajamanakcaaGreatDoorQ02
import Derived.Test.YtmgfajamanakcaaGreatDoorQ37
import Derived.Test.YtmgfajamanakcaaGreatDoorQ22
import Derived.Test.YtmgfajamanakcaaGreatDoorRows
import Derived.WalkKit
import Derived.ProofKit
import Derived.OpenVars
import Derived.LaidMore
import Derived.Stop.Joined
namespace Go.Proofs.YtmgfajamanakcaaGreatDoor
set_option linter.unusedSimpArgs false
open Go
set_option maxRecDepth 100000
set_option linter.unusedVariables false
theorem exact_round {neg : Bool} {M md : Int} {L P : Nat} (hP : 1 ≤ P) (hL : 1 ≤ L) (h1 : 2 ^ (L - 1) ≤ M) (h2 : M < 2 ^ L) (h : M % 2 ^ (L - P) = 0) : ∃ m t, Rounded neg M 1 P md m t 0 ∧ DyEq m t M 0 := by
  by_cases hle : L ≤ P
  · refine ⟨_, _, rounded_exact hP hle h1 h2 hL, 0, P - L, by omega, by simp⟩
  · obtain ⟨c, hc⟩ : ∃ c, L - P = c := ⟨_, rfl⟩
    rw [hc] at h
    have hcp : (0 : Int) < 2 ^ c := Int.pow_pos (by decide)
    have e : M = M / 2 ^ c * 2 ^ c := by
      have := Int.emod_add_mul_ediv M (2 ^ c)
      rw [h, Int.zero_add, Int.mul_comm] at this
      exact this.symm
    have q1 : 2 ^ (P - 1) ≤ M / 2 ^ c := by
      rw [Int.le_ediv_iff_mul_le hcp, ← Int.pow_add, show P - 1 + c = L - 1 by omega]
      exact h1
    have q2 : M / 2 ^ c < 2 ^ P := by
      rw [Int.ediv_lt_iff_lt_mul hcp, ← Int.pow_add, show P + c = L by omega]
      exact h2
    have hr := (rounded_exact (neg := neg) (md := md) (p := P) hP (Nat.le_refl P) q1 q2 hP).shift (c := c) (d := 0)
    rw [← e, Nat.sub_self, Int.pow_zero, Int.mul_one, Int.mul_one] at hr
    refine ⟨_, _, hr, c, 0, by omega, ?_⟩
    rw [Int.pow_zero, Int.mul_one]
    exact e.symm
theorem FVal.exact {v : FV} {Y : Nat → Int} {neg : Bool} {M E md : Int} {L P : Nat} (h : FVal v Y neg M 1 E P md) (hP : 1 ≤ P) (hL : 1 ≤ L) (h1 : 2 ^ (L - 1) ≤ M) (h2 : M < 2 ^ L) (hz : M % 2 ^ (L - P) = 0) : v.fm = 1 ∧ v.ac = 0 ∧ DyEq (val Y v.n) (v.e - 64 * v.n) M E := by
  obtain ⟨h0, m, t, hR, hD⟩ := h
  obtain ⟨m', t', hR', hD'⟩ := exact_round (neg := neg) (md := md) hP hL h1 h2 hz
  obtain ⟨rfl, rfl, ha⟩ := hR.unique (by decide) hP hR'
  refine ⟨h0, ha, hD.trans ?_⟩
  obtain ⟨a, b, e1, e2⟩ := hD'
  exact ⟨a, b, by omega, e2⟩
/-- Two numbers with their top bits set that are one value: their exponents. -/
theorem dy_top {A B e f : Int} {x y : Nat} (hx : 1 ≤ x) (hy : 1 ≤ y) (a1 : 2 ^ (x - 1) ≤ A) (a2 : A < 2 ^ x) (b1 : 2 ^ (y - 1) ≤ B) (b2 : B < 2 ^ y) (h : DyEq A e B f) : e + x = f + y := by
  obtain ⟨a, b, h1, h2⟩ := h
  have ha : (0 : Int) < 2 ^ a := Int.pow_pos (by decide)
  have hb : (0 : Int) < 2 ^ b := Int.pow_pos (by decide)
  have p1 : (2 : Int) ^ (x - 1 + a) < 2 ^ (y + b) := by
    rw [Int.pow_add, Int.pow_add]
    have := Int.mul_le_mul_of_nonneg_right a1 (Int.le_of_lt ha)
    have := Int.mul_lt_mul_of_pos_right b2 hb
    omega
  have p2 : (2 : Int) ^ (y - 1 + b) < 2 ^ (x + a) := by
    rw [Int.pow_add, Int.pow_add]
    have := Int.mul_le_mul_of_nonneg_right b1 (Int.le_of_lt hb)
    have := Int.mul_lt_mul_of_pos_right a2 ha
    omega
  have r1 := pow_lt_of p1
  have r2 := pow_lt_of p2
  omega
/-- What is left when the noughts at the low end are taken off: the same for two numbers of one value. -/
theorem low_same {A B : Int} {x y t : Nat} (hA : 0 < A) (ht : LowZ B t) (hty : t ≤ y) (h : DyEq A ((y : Int) - x) B 0) : y ≤ x + t ∧ A / 2 ^ (x + t - y) = B / 2 ^ t := by
  obtain ⟨a, b, h1, h2⟩ := h
  obtain ⟨q, hq⟩ := ht
  have hl : LowZ (A * 2 ^ a) (t + b) := ⟨q, by rw [h2, hq, Int.pow_add]; generalize (2 : Int) ^ t = u; generalize (2 : Int) ^ b = v; rw [Int.mul_assoc, Int.mul_comm _ v, ← Int.mul_assoc]⟩
  have hab : a ≤ t + b := hl.mod (Int.mul_emod_left _ _)
  have hd : t + b - a = x + t - y := by omega
  refine ⟨by omega, ?_⟩
  have ha : (0 : Int) < 2 ^ a := Int.pow_pos (by decide)
  have htp : (0 : Int) < 2 ^ t := Int.pow_pos (by decide)
  have hsp : (0 : Int) < 2 ^ (x + t - y) := Int.pow_pos (by decide)
  have e : A = 2 ^ (x + t - y) * (2 * q + 1) := by
    obtain ⟨r, hr⟩ := hl
    have hr2 : A * 2 ^ a = 2 ^ (x + t - y) * (2 * q + 1) * 2 ^ a := by
      rw [h2, hq, ← hd]
      have : (2 : Int) ^ (t + b - a) * 2 ^ a = 2 ^ t * 2 ^ b := by rw [← Int.pow_add, ← Int.pow_add, show t + b - a + a = t + b by omega]
      rw [Int.mul_assoc (2 ^ (t + b - a)), Int.mul_comm _ (2 ^ a), ← Int.mul_assoc, this]
      rw [Int.mul_assoc, Int.mul_assoc, Int.mul_comm (2 ^ b)]
    exact Int.eq_of_mul_eq_mul_right (by omega) hr2
  rw [e, hq, Int.mul_ediv_cancel_left _ (by omega), Int.mul_ediv_cancel_left _ (by omega)]
theorem ipow_le {b : Int} (hb : 1 ≤ b) {i j : Nat} (h : i ≤ j) : b ^ i ≤ b ^ j := by
  obtain ⟨d, rfl⟩ : ∃ d, j = i + d := ⟨j - i, by omega⟩
  rw [Int.pow_add]
  have h1 : (0 : Int) < b ^ i := Int.pow_pos (by omega)
  have h2 : (0 : Int) < b ^ d := Int.pow_pos (by omega)
  have := Int.mul_le_mul_of_nonneg_left (show 1 ≤ b ^ d by omega) (Int.le_of_lt h1)
  omega
theorem words_few {X : Nat → Int} {n k : Nat} (hX : WF X n) (hN : Norm X n) (h : val X n < 2 ^ (64 * k)) : n ≤ k := by
  rcases Nat.lt_or_ge k n with h1 | h1
  · exfalso
    rcases hN with h2 | h2
    · omega
    · have h3 := val_split X (show n - 1 < n by omega)
      have h4 := val_nonneg (hX.le (show n - 1 ≤ n by omega))
      have h5 := hX (n - 1) (by omega)
      have h6 : val (fun i => X (n - 1 + 1 + i)) (n - (n - 1) - 1) = 0 := by rw [show n - (n - 1) - 1 = 0 by omega]; rfl
      rw [h6, Int.mul_zero, Int.add_zero, BB_pow] at h3
      have h7 : (2 : Int) ^ (64 * k) ≤ 2 ^ (64 * (n - 1)) := ipow_le (by omega) (by omega)
      have h8 : (0 : Int) < 2 ^ (64 * (n - 1)) := Int.pow_pos (by omega)
      have h9 := Int.mul_le_mul_of_nonneg_left (show 1 ≤ X (n - 1) by have := h5.1; omega) (Int.le_of_lt h8)
      omega
  · exact h1
end Go.Proofs.YtmgfajamanakcaaGreatDoor
namespace Go.Proofs.YtmgfajamanakcaaGreatDoor
set_option linter.unusedSimpArgs false
open Go.RowKit
set_option maxRecDepth 100000
set_option linter.unusedVariables false
/-- A Real's six cells, that may be written. -/
structure RealC (w : World) (b : Nat) (p md fm : Int) (ng : Bool) (a : Option Addr) (n c : Nat) (e : Int) : Prop where
  p : w.cell? ⟨b, 0, none⟩ = some (.int .u64 p)
  md : w.cell? ⟨b, 1, none⟩ = some (.int .i64 md)
  fm : w.cell? ⟨b, 2, none⟩ = some (.int .i64 fm)
  ng : w.cell? ⟨b, 3, none⟩ = some (.bool ng)
  mt : w.cell? ⟨b, 4, none⟩ = some (.slice a n c)
  ex : w.cell? ⟨b, 5, none⟩ = some (.int .i64 e)
  pb : PB w b
theorem RealC.chg {Z : Zone} {w w' : World} {b : Nat} {p md fm : Int} {ng : Bool} {a : Option Addr} {n c : Nat} {e : Int} (h : RealC w b p md fm ng a n c e) (k : Chg Z w w') (hz : ∀ o, ¬ Z b o) : RealC w' b p md fm ng a n c e :=
  ⟨k.cell h.p (hz _), k.cell h.md (hz _), k.cell h.fm (hz _), k.cell h.ng (hz _), k.cell h.mt (hz _), k.cell h.ex (hz _), h.pb.chg k⟩
theorem newReal (w : World) (p md fm : Int) (ng : Bool) (a : Option Addr) (n c : Nat) (e : Int) : RealC (w.alloc (.cells #[.int .u64 p, .int .i64 md, .int .i64 fm, .bool ng, .slice a n c, .int .i64 e] 25)) w.heap.size p md fm ng a n c e :=
  ⟨cell?_alloc_new w _ 25 0 _ rfl, cell?_alloc_new w _ 25 1 _ rfl, cell?_alloc_new w _ 25 2 _ rfl, cell?_alloc_new w _ 25 3 _ rfl, cell?_alloc_new w _ 25 4 _ rfl, cell?_alloc_new w _ 25 5 _ rfl, PB.new w _ _⟩
theorem RealC.set245 {w : World} {b : Nat} {p md fm : Int} {ng : Bool} {a : Option Addr} {n c : Nat} {e : Int} (h : RealC w b p md fm ng a n c e) (fm' : Int) (a' : Option Addr) (n' c' : Nat) (e' : Int) :
    RealC (((w.setCell ⟨b, 2, none⟩ (.int .i64 fm')).setCell ⟨b, 4, none⟩ (.slice a' n' c')).setCell ⟨b, 5, none⟩ (.int .i64 e')) b p md fm' ng a' n' c' e' := by
  obtain ⟨h0, h1, h2, h3, h4, h5, hp⟩ := h
  refine ⟨?_, ?_, ?_, ?_, ?_, cs_same (u := .int .i64 e) ?_, ((hp.chg (chg_cell _ _ _ _)).chg (chg_cell _ _ _ _)).chg (chg_cell _ _ _ _)⟩
  · rw [cs_other (by omega), cs_other (by omega), cs_other (by omega)]; exact h0
  · rw [cs_other (by omega), cs_other (by omega), cs_other (by omega)]; exact h1
  · rw [cs_other (by omega), cs_other (by omega)]; exact cs_same h2
  · rw [cs_other (by omega), cs_other (by omega), cs_other (by omega)]; exact h3
  · rw [cs_other (by omega)]; exact cs_same (u := .slice a n c) (by rw [cs_other (by omega)]; exact h4)
  · rw [cs_other (by omega), cs_other (by omega)]; exact h5
theorem six_row (w' : World) (b : Nat) (v0 v1 v2 v3 v4 v5 : Value) :
    Chg (zRow b 0 6) w' ((((((w'.setCell ⟨b, 0, none⟩ v0).setCell ⟨b, 1, none⟩ v1).setCell ⟨b, 2, none⟩ v2).setCell ⟨b, 3, none⟩ v3).setCell ⟨b, 4, none⟩ v4).setCell ⟨b, 5, none⟩ v5) :=
  ((((((Chg.refl _ _).setCell b 0 _ (fun _ => ⟨rfl, by omega, by omega⟩)).setCell b 1 _ (fun _ => ⟨rfl, by omega, by omega⟩)).setCell b 2 _ (fun _ => ⟨rfl, by omega, by omega⟩)).setCell b 3 _ (fun _ => ⟨rfl, by omega, by omega⟩)).setCell b 4 _ (fun _ => ⟨rfl, by omega, by omega⟩)).setCell b 5 _ (fun _ => ⟨rfl, by omega, by omega⟩)
theorem RealC.six {w : World} {b : Nat} {p md fm : Int} {ng : Bool} {a : Option Addr} {n c : Nat} {e : Int} (h : RealC w b p md fm ng a n c e) (p' md' fm' : Int) (ng' : Bool) (a' : Option Addr) (n' c' : Nat) (e' : Int) :
    RealC ((((((w.setCell ⟨b, 0, none⟩ (.int .u64 p')).setCell ⟨b, 1, none⟩ (.int .i64 md')).setCell ⟨b, 2, none⟩ (.int .i64 fm')).setCell ⟨b, 3, none⟩ (.bool ng')).setCell ⟨b, 4, none⟩ (.slice a' n' c')).setCell ⟨b, 5, none⟩ (.int .i64 e')) b p' md' fm' ng' a' n' c' e' := by
  obtain ⟨h0, h1, h2, h3, h4, h5, hp⟩ := h
  refine ⟨?_, ?_, ?_, ?_, ?_, ?_, hp.chg (six_row w b _ _ _ _ _ _)⟩
  · rw [cs_other (by omega), cs_other (by omega), cs_other (by omega), cs_other (by omega), cs_other (by omega)]; exact cs_same (u := .int .u64 p) h0
  · rw [cs_other (by omega), cs_other (by omega), cs_other (by omega), cs_other (by omega)]; exact cs_same (u := .int .i64 md) (by rw [cs_other (by omega)]; exact h1)
  · rw [cs_other (by omega), cs_other (by omega), cs_other (by omega)]; exact cs_same (u := .int .i64 fm) (by rw [cs_other (by omega), cs_other (by omega)]; exact h2)
  · rw [cs_other (by omega), cs_other (by omega)]; exact cs_same (u := .bool ng) (by rw [cs_other (by omega), cs_other (by omega), cs_other (by omega)]; exact h3)
  · rw [cs_other (by omega)]; exact cs_same (u := .slice a n c) (by rw [cs_other (by omega), cs_other (by omega), cs_other (by omega), cs_other (by omega)]; exact h4)
  · exact cs_same (u := .int .i64 e) (by rw [cs_other (by omega), cs_other (by omega), cs_other (by omega), cs_other (by omega), cs_other (by omega)]; exact h5)
theorem res64 {tmps : Array Value} {w : World} {b : Nat} {p md fm : Int} {ng : Bool} {a : Option Addr} {n c : Nat} {e : Int} (h : RealC w b p md fm ng a n c e) (ht : tmps.getD 2 undef = .pointer (some ⟨b, 0, none⟩)) :
    (results Tryz.f64 tmps).run Tryz.prog w = .ok (.agg #[.int .u64 p, .int .i64 md, .int .i64 fm, .bool ng, .slice a n c, .int .i64 e]) w := by
  obtain ⟨h0, h1, h2, h3, h4, h5, hp⟩ := h
  have ht' : tmps[2]?.getD undef = .pointer (some ⟨b, 0, none⟩) := by simpa using ht
  simp [results, Tryz.results64, go_sem, ht', h0, h1, h2, h3, h4, h5]
def RealHead (w : World) (xb : Nat) (v : FV) (X : Nat → Int) (s3 : Value) (wc : World) : Prop :=
  ∃ b3, s3 = .pointer (some ⟨b3, 0, none⟩) ∧ Hid (w.heap.size < b3 ∧ RealC wc w.heap.size 0 0 0 false none 0 0 0 ∧ RealC wc b3 v.p v.md 0 v.ng none 0 0 0 ∧ Chg zNone w wc)
theorem FNum.noap {w : World} {b zb : Nat} {v : FV} {X : Nat → Int} (h : FNum w b v X) (hz : w.heap.size ≤ zb) : ∀ o, v.a ≠ some ⟨zb, o, none⟩ := fun o e => by
  rcases h.z with ⟨e1, _⟩ | ⟨b', o', e1, hb, _⟩
  · rw [e1] at e; cases e
  · rw [e1] at e; injection e with e; injection e with e2 _
    have := hb.lt
    omega
theorem real_head_ok (w : World) (p md : Int) (ng : Bool) : RealC ((w.alloc (.cells #[.int .u64 0, .int .i64 0, .int .i64 0, .bool false, .slice none 0 0, .int .i64 0] 25)).alloc (.cells #[.int .u64 p, .int .i64 md, .int .i64 0, .bool ng, .slice none 0 0, .int .i64 0] 25)) w.heap.size 0 0 0 false none 0 0 0 ∧
    RealC ((w.alloc (.cells #[.int .u64 0, .int .i64 0, .int .i64 0, .bool false, .slice none 0 0, .int .i64 0] 25)).alloc (.cells #[.int .u64 p, .int .i64 md, .int .i64 0, .bool ng, .slice none 0 0, .int .i64 0] 25)) (w.heap.size + 1) p md 0 ng none 0 0 0 ∧
    Chg zNone w ((w.alloc (.cells #[.int .u64 0, .int .i64 0, .int .i64 0, .bool false, .slice none 0 0, .int .i64 0] 25)).alloc (.cells #[.int .u64 p, .int .i64 md, .int .i64 0, .bool ng, .slice none 0 0, .int .i64 0] 25)) := by
  have h1 := newReal w 0 0 0 false none 0 0 0
  have k1 : Chg zNone w (w.alloc (.cells #[.int .u64 0, .int .i64 0, .int .i64 0, .bool false, .slice none 0 0, .int .i64 0] 25)) := (Chg.refl _ _).alloc _
  have hsz : (w.alloc (.cells #[.int .u64 0, .int .i64 0, .int .i64 0, .bool false, .slice none 0 0, .int .i64 0] 25)).heap.size = w.heap.size + 1 := by
    show (w.heap.push _).size = _
    simp
  obtain ⟨W, hW⟩ : ∃ W, W = w.alloc (.cells #[.int .u64 0, .int .i64 0, .int .i64 0, .bool false, .slice none 0 0, .int .i64 0] 25) := ⟨_, rfl⟩
  rw [← hW] at h1 k1 hsz ⊢
  have h2 := newReal W p md 0 ng none 0 0 0
  have k2 : Chg zNone W (W.alloc (.cells #[.int .u64 p, .int .i64 md, .int .i64 0, .bool ng, .slice none 0 0, .int .i64 0] 25)) := (Chg.refl _ _).alloc _
  rw [hsz] at h2
  exact ⟨h1.chg k2 (fun _ h => h), h2, k1.trans k2 (fun _ _ _ h => h)⟩
theorem flt_new_lt (w : World) : w.heap.size < (w.alloc (.cells #[.int .u32 0, .int .u8 0, .int .i8 0, .int .u8 0, .bool false, .slice none 0 0, .int .i32 0] 136)).heap.size := by
  show _ < (w.heap.push _).size
  simp
/-- SetMantExp of a mantissa that fits its precision, by the precision that it needs: an Int's bits. -/
theorem sme_fits {w w' : World} {zb P t m : Nat} {v : FV} {X : Nat → Int} (h : FNum w zb v X) (hf : v.fm = 1) (he : v.e = 0) (hP : 1 ≤ P) (hP2 : P ≤ 512) (hn : 64 * v.n ≤ P + 63) (hfit : val X v.n % 2 ^ (64 * v.n - P) = 0) (ht : LowZ (val X v.n) t) (hm : 64 * v.n - t = m) (h1 : 1 ≤ m)
    (hS : SERPost w zb v X (v.e + m) false P w') : ∃ v' Y t', FNum w' zb v' Y ∧ v'.fm = 1 ∧ v'.ng = v.ng ∧ v'.e = (m : Int) ∧ m ≤ 64 * v'.n ∧ LowZ (val Y v'.n) t' ∧ val Y v'.n / 2 ^ (64 * v'.n - m) = val X v.n / 2 ^ t ∧ Chg (zF zb v) w w' := by
  obtain ⟨f1, f2, f3, f4, f5, f6⟩ := h.fin hf
  obtain ⟨x1, x2⟩ := val_ge_top f5 f1 f6
  obtain ⟨v', Y, hA⟩ := ser_all hS ⟨f1, f2, f3, f4, f5, f6⟩ hP
  have hF := hA.vl (by omega) (by omega) (val X v.n) 1 (by decide) (by rw [Int.ediv_one]) (by simp [Int.emod_one]) (fun _ => Int.emod_one _)
  obtain ⟨g1, g2, g3⟩ := hF.exact hP (by omega) x1 x2 hfit
  obtain ⟨k1, k2, k3, k4, k5, k6⟩ := hA.new.num.fin g1
  obtain ⟨y1, y2⟩ := val_ge_top k5 k1 k6
  have hpos : (0 : Int) < val Y v'.n := by
    have : (0 : Int) < 2 ^ (64 * v'.n - 1) := Int.pow_pos (by decide)
    omega
  have ht1 := dy_top (by omega) (by omega) y1 y2 x1 x2 g3
  have hem : v'.e = (m : Int) := by push_cast at ht1; omega
  have htl : t < 64 * v.n := by omega
  have hD : DyEq (val Y v'.n) (((64 * v.n : Nat) : Int) - ((64 * v'.n : Nat) : Int)) (val X v.n) 0 := by
    obtain ⟨a, b, e1, e2⟩ := g3
    exact ⟨a, b, by push_cast; omega, e2⟩
  obtain ⟨l1, l2⟩ := low_same hpos ht (by omega) hD
  obtain ⟨t', ht'⟩ := lowz_ex hpos
  refine ⟨v', Y, t', hA.new.num, g1, hA.ng, hem, by omega, ht', ?_, hA.new.chg⟩
  rw [← l2, show 64 * v'.n + t - 64 * v.n = 64 * v'.n - m by omega]
set_option maxHeartbeats 8000000 in
theorem real_fin (xb t P : Nat) (v : FV) (X : Nat → Int) (w : World) (h : FNum w xb v X) (hf : v.fm = 1) (hp : v.p = (P : Int)) (hfit : val X v.n % 2 ^ (64 * v.n - P) = 0) (hn : 64 * v.n ≤ P + 63) (hP : P ≤ 512) (ht : LowZ (val X v.n) t) (hT : DeB w) (hex : -1099511627776 ≤ v.e ∧ v.e ≤ 1099511627776) :
    Calls Tryz.prog 64 #[.pointer (some ⟨xb, 0, none⟩)] w fun e w' => ∃ a n c Y, e = .returned (.agg #[.int .u64 v.p, .int .i64 v.md, .int .i64 1, .bool v.ng, .slice a n c, .int .i64 (v.e - (64 * v.n - t : Nat))]) ∧ n ≤ c ∧ ZOK w' a c ∧ Rd w' a n Y ∧ WF Y n ∧ Norm Y n ∧ val Y n = val X v.n / 2 ^ t ∧ Fresh w a ∧ Chg zNone w w' := by
  have kal : Chg zNone w (w.alloc (.cells #[.int .u64 0, .int .i64 0, .int .i64 0, .bool false, .slice none 0 0, .int .i64 0] 25)) := (Chg.refl _ _).alloc _
  have hC := h.c.chg kal (fun _ _ h => h)
  have hpp := h.p
  have hmd := h.md
  have htl : t < 64 * v.n := by
    obtain ⟨f1, f2, f3, f4, f5, f6⟩ := h.fin hf
    have hv := val_ge_top f5 f1 f6
    exact ht.lt (by have : (0 : Int) < 2 ^ (64 * v.n - 1) := Int.pow_pos (by decide); omega) hv.2
  have HP := Lib.hid (Prec_any xb v _ hC (by omega))
  have HM := Lib.hid (Mode_any xb v _ hC)
  have HS := Lib.hid (Signbit_any xb v _ hC)
  have HK := Lib.hid kal
  have w0 : IntKind.i64.wrap v.md = v.md := IntWalk.i64_in _ (by omega)
  obtain ⟨m, hm⟩ : ∃ m, 64 * v.n - t = m := ⟨_, rfl⟩
  rw [hm]
  have hm1 : 1 ≤ m := by omega
  have hm2 : m ≤ 1024 := by omega
  have H := Lib.hid (And.intro h (And.intro hf (And.intro hp (And.intro hfit (And.intro hn (And.intro ht (And.intro hT (And.intro hm hP))))))))
  have hlx := h.c.lt
  have d1 : (v.fm == 2) = false := by rw [hf]; rfl
  have hP1 : 1 ≤ P := by omega
  clear kal hC h hf hp hfit hn ht hT hm htl
  go_enter Tryz.func64, Tryz.ntmps64
  go_upto_region 1 with fail
  go_cut [3] (RealHead w xb v X)
  case first => as_aux_lemma =>
    go_wp2_with fail
    refine HP.out.mono ?_
    rintro e w1 ⟨rfl, rfl⟩
    go_wp2_with fail
    refine HM.out.mono ?_
    rintro e w1 ⟨rfl, rfl⟩
    go_wp2_with fail
    refine HS.out.mono ?_
    rintro e w1 ⟨rfl, rfl⟩
    go_wp2
    go_meet
    obtain ⟨g1, g2, g3⟩ := real_head_ok w v.p v.md v.ng
    refine ⟨w.heap.size + 1, rfl, ?_⟩
    exact ⟨Nat.lt_succ_self _, g1, g2, g3⟩
  case rest => as_aux_lemma =>
    obtain ⟨b3, rfl, HH⟩ := hcut
    have hx := H.out.1.chg HH.out.2.2.2 (fun _ _ _ h => h)
    have HI := Lib.hid (IsInf_any xb v wc hx.c)
    have HSg := Lib.hid (FSign_any xb v wc hx.c)
    rw [d1] at HI
    obtain ⟨sg, hsg, hsg0⟩ : ∃ sg : Int, (if v.fm = 0 then (0 : Int) else if v.ng = true then -1 else 1) = sg ∧ (sg != 0) = true := by
      refine ⟨_, rfl, ?_⟩
      rw [if_neg (by rw [H.out.2.1]; decide)]
      split <;> rfl
    rw [hsg] at HSg
    clear hsg
    have kA : Chg zNone wc (wc.alloc (.cells #[.int .u32 0, .int .u8 0, .int .i8 0, .int .u8 0, .bool false, .slice none 0 0, .int .i32 0] 136)) := (Chg.refl _ _).alloc _
    have hlc : xb < wc.heap.size := hx.c.lt
    have HMn := Lib.hid (MantExp_any wc.heap.size xb v _ X _ (hx.chg kA (fun _ _ _ h => h)) H.out.2.1 (newFlt wc 136) ⟨rfl, rfl, rfl⟩ (by omega) (hx.noap (Nat.le_refl _)))
    have HX := Lib.hid (And.intro hx kA)
    have HLT := Lib.hid (flt_new_lt wc)
    clear hx kA HP HM HS HK
    go_wp2_with fail
    refine HI.out.mono ?_
    rintro e w1 ⟨rfl, rfl⟩
    go_wp2_with fail
    refine HSg.out.mono ?_
    rintro e w1 ⟨rfl, rfl⟩
    go_wp2_with fail
    refine HMn.out.mono ?_
    rintro e w2 ⟨rfl, b, o, c', hb, g1, g2⟩
    have k2 : Chg zNone wc w2 := HX.out.2.trans g2 (fun b o hb hh => by have := hh.1; omega)
    have hx2 := HX.out.1.chg k2 (fun _ _ _ h => h)
    have hT2 : DeB w2 := fun j hj => k2.cell (HH.out.2.2.2.cell (H.out.2.2.2.2.2.2.1 j hj) (fun h => h)) (fun h => h)
    have HMP := Lib.hid (MinPrec_any xb t v X w2 hx2 H.out.2.1 H.out.2.2.2.2.2.1 hT2)
    rw [H.out.2.2.2.2.2.2.2.1] at HMP
    have HG := Lib.hid (And.intro g1 (And.intro k2 hT2))
    have hl2 : wc.heap.size < w2.heap.size := by have := g2.size; have := HLT.out; omega
    clear hb g1 g2 k2 hx2 hT2
    go_wp2_with fail
    refine HMP.out.mono ?_
    rintro e w3 ⟨rfl, _, k3⟩
    have wm : IntKind.i64.wrap (m : Int) = (m : Int) := IntWalk.i64_in _ (by omega)
    have g3 := HG.out.1.chg k3 (fun _ _ _ h => h)
    have kB : Chg zNone w3 (w3.alloc (.cells #[.int .u32 0, .int .u8 0, .int .i8 0, .int .u8 0, .bool false, .slice none 0 0, .int .i32 0] 136)) := (Chg.refl _ _).alloc _
    have hl3 : wc.heap.size < w3.heap.size := by have := k3.size; omega
    have HSM := Lib.hid (SetMantExp_any w3.heap.size wc.heap.size P _ _ X (m : Int) _ (g3.chg kB (fun _ _ _ h => h)) H.out.2.1 H.out.2.2.1 (newFlt w3 136) ⟨rfl, rfl, rfl⟩ (by omega) (g3.noap (Nat.le_refl _)) (by omega))
    have HB := Lib.hid (And.intro (HG.out.2.1.trans k3 (fun _ _ _ h => h)) (And.intro kB (show DeB w3 from fun j hj => k3.cell (HG.out.2.2 j hj) (fun h => h))))
    have HLT3 := Lib.hid (flt_new_lt w3)
    clear k3 g3 kB
    go_wp2_with fail
    refine HSM.out.mono ?_
    rintro e w4 ⟨rfl, wq, b', o', c2, hb', q1, q2, q3⟩
    obtain ⟨_, hf, hp, hfit, hn, ht, hT, hm, hPP⟩ := H.out
    obtain ⟨v5, Y, t', s1, s2, s3, s4, s5, s6, s7, s8⟩ := sme_fits (t := t) q1 hf rfl hP1 hPP hn hfit ht hm hm1 q3
    have kq : Chg zNone w3 wq := HB.out.2.1.trans q2 (fun b o hb hh => by have := hh.1; omega)
    have kw : Chg zNone w3 w4 := kq.trans s8 (fun b o hb hh => by
      rcases hh with hh | ⟨po, e, _⟩
      · have := hh.1; omega
      · injection e with e; injection e with e1 e2
        have h1 := HLT3.out
        omega)
    have HFI := Lib.hid (FInt_any w3.heap.size t' m v5 Y w4 s1 s2 s4 hm1 s5 s6 (fun j hj => kw.cell (HB.out.2.2 j hj) (fun h => h)))
    rw [s7] at HFI
    have HW := Lib.hid (HB.out.1.trans kw (fun _ _ _ h => h))
    clear q1 q2 q3 s1 s2 s3 s4 s5 s6 s7 s8 kq kw hb' hf hp hfit hn ht hT hm hPP
    go_wp2_with fail
    refine HFI.out.mono ?_
    rintro e w5 ⟨ac5, rfl, ⟨a6, n6, c6, Y6, i1, i2, i3, i4, i5, i6, i7⟩, k5⟩
    have hn6 : n6 ≤ v.n := words_few i5 i6 (by
      rw [i7]
      obtain ⟨f1, f2, f3, f4, f5, f6⟩ := H.out.1.fin H.out.2.1
      have hv := val_ge_top f5 f1 f6
      have hp0 : (0 : Int) < 2 ^ t := Int.pow_pos (by decide)
      have h0 : (0 : Int) ≤ val X v.n := val_nonneg f5
      have h1 := Int.ediv_le_self (2 ^ t) h0
      omega)
    have hnv : v.n < 65536 := (H.out.1.fin H.out.2.1).2.2.1
    have HWd := Lib.hid (wordsOf_any w4.heap.size 0 _ a6 n6 c6 Y6 w5 i1 i4 (by omega))
    have HI5 := Lib.hid (And.intro i5 (And.intro i6 (And.intro i7 (HW.out.trans k5 (fun _ _ _ h => h)))))
    clear i1 i2 i3 i4 i5 i6 i7 k5
    go_wp2_with fail
    refine HWd.out.mono ?_
    rintro e w6 ⟨a7, c7, rfl, j1, j2, j3, j4, j5⟩
    have k6 : Chg zNone wc w6 := HI5.out.2.2.2.trans j5 (fun _ _ _ h => h)
    have hR6 := HH.out.2.2.1.chg k6 (fun _ h => h)
    have hT6 := HH.out.2.1.chg k6 (fun _ h => h)
    have hb3 := HH.out.1
    have hne3 : b3 ≠ w.heap.size := by omega
    have r2z := hR6.pb.fz 2
    have r4z := hR6.pb.fz 4
    have r5z := hR6.pb.fz 5
    have r2 := hR6.fm
    have r4 := hR6.mt
    have r5 := hR6.ex
    have we : IntKind.i64.wrap (v.e - (m : Int)) = v.e - (m : Int) := IntWalk.i64_in _ (by omega)
    have HJ := Lib.hid (And.intro j1 (And.intro j2 (And.intro j3 (And.intro j4 (And.intro j5 k6)))))
    have HRT := Lib.hid (And.intro hR6 hT6)
    clear j1 j2 j3 j4 j5 k6 hR6 hT6
    go_upto_region 10 with fail
    obtain ⟨W7, hW7⟩ : ∃ W, W = ((w6.setCell ⟨b3, 2, none⟩ (.int .i64 1)).setCell ⟨b3, 4, none⟩ (.slice a7 n6 c7)).setCell ⟨b3, 5, none⟩ (.int .i64 (v.e - (m : Int))) := ⟨_, rfl⟩
    have kW7 : Chg (zRow b3 0 6) w6 W7 := by
      rw [hW7]
      exact (((Chg.refl _ _).setCell b3 2 _ (fun _ => ⟨rfl, by omega, by omega⟩)).setCell b3 4 _ (fun _ => ⟨rfl, by omega, by omega⟩)).setCell b3 5 _ (fun _ => ⟨rfl, by omega, by omega⟩)
    have hR7 : RealC W7 b3 v.p v.md 1 v.ng a7 n6 c7 (v.e - (m : Int)) := by
      rw [hW7]
      exact (HRT.out.1.set245 1 a7 n6 c7 (v.e - (m : Int)))
    have hT7 := HRT.out.2.chg kW7 (fun o hh => hne3 hh.1.symm)
    rw [← hW7]
    clear r2 r4 r5 r2z r4z r5z hW7
    obtain ⟨r0, r1, r2, r3, r4, r5, rp⟩ := hR7
    obtain ⟨t0, t1, t2, t3, t4, t5, tp⟩ := hT7
    have t0z := tp.fz 0
    have t1z := tp.fz 1
    have t2z := tp.fz 2
    have t3z := tp.fz 3
    have t4z := tp.fz 4
    have t5z := tp.fz 5
    have HKW := Lib.hid kW7
    have HTP := Lib.hid (show RealC W7 w.heap.size 0 0 0 false none 0 0 0 from ⟨t0, t1, t2, t3, t4, t5, tp⟩)
    clear rp tp kW7
    go_wp2
    refine bodyPost_ret (v := .agg #[.int .u64 v.p, .int .i64 v.md, .int .i64 1, .bool v.ng, .slice a7 n6 c7, .int .i64 (v.e - (m : Int))]) (res64 (HTP.out.six _ _ _ _ _ _ _ _) rfl) rfl ?_
    obtain ⟨j1, j2, j3, j4, j5, k6⟩ := HJ.out
    obtain ⟨g1, g2, g3, g4⟩ := HI5.out
    have kF0 := six_row W7 w.heap.size (.int .u64 v.p) (.int .i64 v.md) (.int .i64 1) (.bool v.ng) (.slice a7 n6 c7) (.int .i64 (v.e - (m : Int)))
    have kF : Chg (zOr (zRow b3 0 6) (zRow w.heap.size 0 6)) w6 _ := (HKW.out.mono (fun _ _ _ h => Or.inl h)).trans kF0 (fun _ _ _ h => Or.inr h)
    clear kF0
    have hb3c : b3 < wc.heap.size := HH.out.2.2.1.pb.lt
    have hwc : w.heap.size < wc.heap.size := HH.out.2.1.pb.lt
    have h5 : wc.heap.size ≤ w5.heap.size := g4.size
    have hfar : ∀ b o, a7 = some ⟨b, o, none⟩ → b ≠ b3 ∧ b ≠ w.heap.size := by
      intro b o e
      rcases j3 with e1 | ⟨b2, o2, e1, hb⟩
      · rw [e1] at e; cases e
      · rw [e1] at e; injection e with e; injection e with e2 _
        omega
    have hz7 : ∀ b o, zAddr a7 c7 b o → ¬ zOr (zRow b3 0 6) (zRow w.heap.size 0 6) b o := by
      rintro b o ⟨po, e, _⟩ hh
      obtain ⟨q1, q2⟩ := hfar b po e
      rcases hh with hh | hh
      · exact q1 hh.1
      · exact q2 hh.1
    refine ⟨a7, n6, c7, Y6, rfl, j1, j2.chg kF hz7, ?_, g1, g2, g3, ?_, (HH.out.2.2.2.trans k6 (fun _ _ _ h => h)).trans kF (fun b o hb hh => ?_)⟩
    · rcases j4 with j4 | ⟨b, o, e, hw⟩
      · exact Or.inl j4
      · exact Or.inr ⟨b, o, e, hw.chg kF (fun i hi hh => by
          obtain ⟨q1, q2⟩ := hfar b o e
          rcases hh with hh | hh
          · exact q1 hh.1
          · exact q2 hh.1)⟩
    · rcases j3 with e1 | ⟨b2, o2, e1, hb⟩
      · exact Or.inl e1
      · exact Or.inr ⟨b2, o2, e1, by omega⟩
    · rcases hh with hh | hh
      · have := hh.1; omega
      · have := hh.1; omega
end Go.Proofs.YtmgfajamanakcaaGreatDoor
namespace Go.Proofs.YtmgfajamanakcaaGreatDoor
set_option linter.unusedSimpArgs false
open Go
set_option maxRecDepth 100000
set_option linter.unusedVariables false
theorem Rounded.range {neg : Bool} {N D md m t acc : Int} {p : Nat} (h : Rounded neg N D p md m t acc) : 2 ^ (p - 1) ≤ m ∧ m ≤ 2 ^ p ∧ -1 ≤ acc ∧ acc ≤ 1 := by
  obtain ⟨q, l, ⟨a, b, _, _, h3, h4⟩, h5, h6⟩ := h
  refine ⟨?_, ?_, ?_⟩
  · rw [h5]; split <;> omega
  · rw [h5]; split <;> omega
  · rw [h6]
    unfold accS
    split
    · omega
    · split <;> omega
theorem FVal.fit {v : FV} {Y : Nat → Int} {neg : Bool} {N D E md : Int} {P : Nat} (h : FVal v Y neg N D E P md) (hP : 1 ≤ P) (hn : 1 ≤ v.n) (y1 : 2 ^ (64 * v.n - 1) ≤ val Y v.n) (y2 : val Y v.n < 2 ^ (64 * v.n)) : val Y v.n % 2 ^ (64 * v.n - P) = 0 ∧ -1 ≤ v.ac ∧ v.ac ≤ 1 := by
  obtain ⟨_, m, t, hR, hD⟩ := h
  obtain ⟨r1, r2, r3⟩ := hR.range
  refine ⟨?_, r3⟩
  generalize val Y v.n = A at *
  generalize 64 * (v.n : Int) = V at *
  by_cases hle : 64 * v.n ≤ P
  · rw [show 64 * v.n - P = 0 by omega, Int.pow_zero]; exact Int.emod_one _
  · by_cases hm : m < 2 ^ P
    · have hd := dy_top (by omega) hP y1 y2 r1 hm hD
      obtain ⟨a, b, e1, e2⟩ := hD
      have hb : b = (64 * v.n - P) + a := by omega
      rw [hb, Int.pow_add, ← Int.mul_assoc] at e2
      have ha : (0 : Int) < 2 ^ a := Int.pow_pos (by decide)
      have e3 := Int.eq_of_mul_eq_mul_right (by omega) e2
      rw [e3]
      exact Int.mul_emod_left _ _
    · have hm2 : m = 2 ^ P := by omega
      have q2 : m < 2 ^ (P + 1) := by
        rw [hm2, Int.pow_succ]
        have : (0 : Int) < 2 ^ P := Int.pow_pos (by decide)
        omega
      have hd := dy_top (y := P + 1) (by omega) (by omega) y1 y2 (by rw [hm2]; exact Int.le_refl _) q2 hD
      obtain ⟨a, b, e1, e2⟩ := hD
      have hb : b = (64 * v.n - P - 1) + a := by omega
      rw [hb, Int.pow_add, ← Int.mul_assoc] at e2
      have ha : (0 : Int) < 2 ^ a := Int.pow_pos (by decide)
      have e3 := Int.eq_of_mul_eq_mul_right (by omega) e2
      rw [e3, hm2, ← Int.pow_add, show P + (64 * v.n - P - 1) = P - 1 + (64 * v.n - P) by omega, Int.pow_add]
      exact Int.mul_emod_left _ _
end Go.Proofs.YtmgfajamanakcaaGreatDoor
namespace Go.Proofs.YtmgfajamanakcaaGreatDoor
set_option linter.unusedSimpArgs false
set_option linter.unusedVariables false
open Go.ChangeShapes Go.WideShapes Go.ChangeAt Go.RowKit

theorem own : ownKnob Tryz.prog.godebug = none := by kernel_rfl
theorem laidOut : laidOutB Tryz.prog = true := by kernel_rfl

def typesRowed (P : Program) (ts : List TypeId) : Bool := ts.all fun t => P.readableRec t && decide (t < P.types.size)

theorem below_trodAll {H : Type} {enc : TypeId × Value → H} {P : Program} (hl : laidOutB P = true) {W W' : World} (hb : Below W.heap.size W W') :
    ∀ {ts : List TypeId} {vs : List Value} {ds : List (DataW H)} {ps : List MemPlace}, typesRowed P ts = true → DataW.TrodAll enc P W 0 (fun _ => true) true ts vs ds ps → (∀ x ∈ ps, x.block < W.heap.size) →
      DataW.TrodAll enc P W' 0 (fun b => decide (b < W.heap.size)) true ts vs ds ps
  | [], [], [], _, _, h, _ => h
  | [], [], _ :: _, _, _, h, _ => h.elim
  | [], _ :: _, _, _, _, h, _ => h.elim
  | _ :: _, [], _, _, _, h, _ => h.elim
  | _ :: _, _ :: _, [], _, _, h, _ => h.elim
  | t :: ts, v :: vs, d :: ds, ps, ht, h, hlt => by
    obtain ⟨p, q, h1, h2, rfl⟩ := h
    simp only [typesRowed, List.all_cons, Bool.and_eq_true] at ht
    refine ⟨p, q, Below.trod hl ht.1.1 (of_decide_eq_true ht.1.2) h1 hb (fun x hx => hlt x (by simp [hx])), ?_, rfl⟩
    exact below_trodAll hl hb (by simpa [typesRowed] using ht.2) h2 (fun x hx => hlt x (by simp [hx]))

theorem post_law {H : Type} {enc : TypeId × Value → H} {f : Func} {s : ChangeSpec} {W W' : World} {args : Array Value} {ds gs : List (DataW H)} {before : List MemPlace}
    (hW : DataW.Whole enc Tryz.prog f.params.toList s.vars false W args.toList ds gs before) (hb : Below W.heap.size W W')
    (hfn : s.fn H (ds ++ gs) = { results := [.lit (.bool true)], args := ds, vars := gs }) (hr : f.resultTypes = #[4])
    (hp : typesRowed Tryz.prog f.params.toList = true) (hv : varsRowed Tryz.prog s.vars = true) :
    s.post enc Tryz.prog f false true false false W args (.bool true) W' := by
  have hlt := hW.lt
  have hW' := hW
  obtain ⟨p, q, hA, hV, rfl, _, _⟩ := hW
  refine ⟨ds, gs, _, [], p, q, hW', ?_, ?_, ?_, Below.frame hb _, fun h => by cases h⟩
  · rw [hfn, hr]; exact trodAll_mk1 (shut_bool Tryz.underlying4 _)
  · rw [hfn]; exact below_trodAll laidOut hb hp hA (fun x hx => hlt x (by simp [hx]))
  · rw [hfn]; exact Below.trodVars laidOut hb hv hV

theorem trodVars_length {H : Type} {enc : TypeId × Value → H} {P : Program} {w : World} {sp : Nat → Bool} :
    ∀ {ns : List String} {gs : List (DataW H)} {ps : List MemPlace}, DataW.TrodVars enc P w sp ns gs ps → gs.length = ns.length
  | [], [], _, _ => rfl
  | [], _ :: _, _, h => h.elim
  | _ :: _, [], _, h => h.elim
  | _ :: _, _ :: _, _, h => by
    obtain ⟨_, _, _, _, _, _, _, _, _, _, h, _⟩ := h
    simp [trodVars_length h]
theorem list_four {α : Type} {l : List α} (h : l.length = 4) : ∃ a b c d, l = [a, b, c, d] := by
  match l, h with
  | [a, b, c, d], _ => exact ⟨a, b, c, d, rfl⟩
theorem list_five {α : Type} {l : List α} (h : l.length = 5) : ∃ a b c d e, l = [a, b, c, d, e] := by
  match l, h with
  | [a, b, c, d, e], _ => exact ⟨a, b, c, d, e, rfl⟩
theorem list_six {α : Type} {l : List α} (h : l.length = 6) : ∃ a b c d e f, l = [a, b, c, d, e, f] := by
  match l, h with
  | [a, b, c, d, e, f], _ => exact ⟨a, b, c, d, e, f, rfl⟩
theorem list_seven {α : Type} {l : List α} (h : l.length = 7) : ∃ a b c d e f g, l = [a, b, c, d, e, f, g] := by
  match l, h with
  | [a, b, c, d, e, f, g], _ => exact ⟨a, b, c, d, e, f, g, rfl⟩
end Go.Proofs.YtmgfajamanakcaaGreatDoor
