/-
  Float.pow5 at every n: both branches of Gu as one. Conditions as there.
  The number of noughts at a number's low end. Plain. Conditions: words are words.
  bits.TrailingZeros, nat.trailingZeroBits, Float.MinPrec, walked. Conditions: the argument is a word, not 0; the top word is not 0.
  Float.Copy into a new Float, MinPrec, MantExp, SetMantExp, walked. Conditions: the Float is finite, as FNum says.
-/
import Derived.Test.YtmgfajamanakcaaGreatDoorQ35
import Derived.Deep.LoopGhost
import Derived.Test.YtmgfajamanakcaaGreatDoorQ18
import Derived.Lib.TrailingZeros
import Derived.Test.YtmgfajamanakcaaGreatDoorQ19
import Derived.Shelf.Spec.TrailingZeros
import Derived.Outline
import Derived.Test.YtmgfajamanakcaaGreatDoorQ25
import Derived.Deep.DeepCutAuto
import Derived.Deep.CutBlock
import Derived.Deep.QuietTactic
namespace Go.Proofs.YtmgfajamanakcaaGreatDoor
set_option linter.unusedSimpArgs false
open Go.RowKit
set_option maxRecDepth 100000
set_option linter.unusedVariables false
/-- pow5 at every n. -/
theorem pow5_any (zb n p : Nat) (v : FV) (X : Nat → Int) (w : World) (h : FNum w zb v X) (hp : v.p = (p : Int)) (hp1 : 64 ≤ p) (hp2 : p ≤ 576) (hn2 : n < 18446744073709551616) (hT : Tab5 w) (hg : ∀ b o, zF zb v b o → 14 ≤ b)
    (hK1 : w.cell? ⟨1, 0, none⟩ = some (.int .i64 40)) (hK5 : w.cell? ⟨5, 0, none⟩ = some (.int .i64 12)) (hK6 : w.cell? ⟨6, 0, none⟩ = some (.int .i64 80)) :
    Calls Tryz.prog 175 #[.pointer (some ⟨zb, 0, none⟩), .int .u64 (n : Int)] w fun e w' => e = .returned (.pointer (some ⟨zb, 0, none⟩)) ∧ ∃ v' Z, FNew w zb v w' v' Z ∧ Big v' p := by
  by_cases hn : n ≤ 27
  · refine (pow5_small zb n v X w h (by omega) hn hT).mono ?_
    rintro e w' ⟨rfl, v1, Z1, g1, g2, g3, g4, g5, g6, g7, g8⟩
    exact ⟨rfl, v1, Z1, g1, g1.p.trans hp, Or.inr ⟨g4, by omega, by omega⟩⟩
  · exact pow5_large zb n p v X w h hp hp1 hp2 (by omega) hn2 hT hg hK1 hK5 hK6
end Go.Proofs.YtmgfajamanakcaaGreatDoor
namespace Go.Proofs.YtmgfajamanakcaaGreatDoor
set_option linter.unusedSimpArgs false
set_option linter.unusedVariables false
open Go
set_option maxRecDepth 100000
/-- M has exactly t noughts at its low end. -/
def LowZ (M : Int) (t : Nat) : Prop := ∃ q : Int, M = 2 ^ t * (2 * q + 1)
theorem LowZ.unique {M : Int} {t u : Nat} (h : LowZ M t) (k : LowZ M u) : t = u := by
  obtain ⟨q, hq⟩ := h
  obtain ⟨r, hr⟩ := k
  have key : ∀ (a b : Nat) (x y : Int), a < b → 2 ^ a * (2 * x + 1) = 2 ^ b * (2 * y + 1) → False := by
    intro a b x y hab he
    obtain ⟨d, rfl⟩ : ∃ d, b = a + (d + 1) := ⟨b - a - 1, by omega⟩
    rw [Int.pow_add, Int.mul_assoc] at he
    have h2 := Int.eq_of_mul_eq_mul_left (by have : (0 : Int) < 2 ^ a := Int.pow_pos (by decide); omega) he
    rw [Int.pow_succ, Int.mul_comm (2 ^ d), Int.mul_assoc] at h2
    omega
  rcases Nat.lt_trichotomy t u with h | h | h
  · exact (key _ _ _ _ h (hq.symm.trans hr)).elim
  · exact h
  · exact (key _ _ _ _ h (hr.symm.trans hq)).elim
theorem ctz_low {x : Int} (h : U64 x) (h0 : x ≠ 0) : LowZ x (Lib.ctz 64 x.toNat) ∧ Lib.ctz 64 x.toNat < 64 := by
  obtain ⟨h1, h2⟩ := h
  obtain ⟨m, hm, hk⟩ := Lib.ctzFrom_spec 64 x.toNat (by omega) (by omega)
  have e : Lib.ctz 64 x.toNat = Lib.ctzFrom 64 x.toNat := by unfold Lib.ctz; rw [if_neg (by omega)]
  rw [e]
  refine ⟨⟨m, ?_⟩, hk⟩
  have hx : x = ((x.toNat : Nat) : Int) := by omega
  have h3 := congrArg (fun k : Nat => (k : Int)) hm
  simp only [Int.natCast_mul, Int.natCast_pow, Int.natCast_add, Int.natCast_one, Int.cast_ofNat_Int] at h3
  rw [← hx] at h3
  exact h3
theorem low_val {X : Nat → Int} {n k t : Nat} (hX : WF X n) (hk : k < n) (h0 : ∀ i, i < k → X i = 0) (h : LowZ (X k) t) (ht : t < 64) : LowZ (val X n) (64 * k + t) := by
  obtain ⟨q, hq⟩ := h
  have e := val_split X hk
  have z : val X k = 0 := val_zeros h0
  rw [z, Int.zero_add, hq, BB_pow, BB_split (Nat.le_of_lt ht)] at e
  obtain ⟨d, hd⟩ : ∃ d, 64 - t = d + 1 := ⟨63 - t, by omega⟩
  refine ⟨q + 2 ^ d * val (fun i => X (k + 1 + i)) (n - k - 1), ?_⟩
  rw [e, hd, Int.pow_add 2 (64 * k) t, Int.pow_succ 2 d]
  generalize val (fun i => X (k + 1 + i)) (n - k - 1) = V
  generalize (2 : Int) ^ (64 * k) = A
  generalize (2 : Int) ^ t = B
  generalize (2 : Int) ^ d = C
  have h4 : B * (2 * q + 1) + B * (C * 2) * V = B * (2 * (q + C * V) + 1) := by
    rw [Int.mul_assoc B, ← Int.mul_add, Int.mul_comm C 2, Int.mul_assoc 2 C V]
    congr 1
    omega
  rw [h4, Int.mul_assoc A B]
theorem LowZ.mod {M : Int} {t u : Nat} (h : LowZ M t) (hu : M % 2 ^ u = 0) : u ≤ t := by
  rcases Nat.lt_or_ge t u with h1 | h1
  · obtain ⟨q, hq⟩ := h
    obtain ⟨d, rfl⟩ : ∃ d, u = t + (d + 1) := ⟨u - t - 1, by omega⟩
    rw [Int.pow_add, hq, Int.mul_emod_mul_of_pos _ _ (Int.pow_pos (by decide)), Int.pow_succ] at hu
    have hp : (0 : Int) < 2 ^ t := Int.pow_pos (by decide)
    rcases Int.mul_eq_zero.1 hu with h3 | h3
    · omega
    · have h4 := Int.emod_emod_of_dvd (2 * q + 1) (show (2 : Int) ∣ 2 ^ d * 2 from ⟨2 ^ d, Int.mul_comm _ _⟩)
      rw [h3] at h4
      omega
  · exact h1
theorem LowZ.div {M : Int} {t u : Nat} (h : LowZ M t) (hu : u ≤ t) : M % 2 ^ u = 0 := by
  obtain ⟨q, hq⟩ := h
  obtain ⟨d, rfl⟩ : ∃ d, t = u + d := ⟨t - u, by omega⟩
  rw [hq, Int.pow_add, Int.mul_assoc]
  exact Int.mul_emod_right _ _
theorem LowZ.lt {M : Int} {t L : Nat} (h : LowZ M t) (h0 : 0 < M) (hL : M < 2 ^ L) : t < L := by
  obtain ⟨q, hq⟩ := h
  rcases Nat.lt_or_ge t L with h1 | h1
  · exact h1
  · obtain ⟨d, rfl⟩ : ∃ d, t = L + d := ⟨t - L, by omega⟩
    have hp : (0 : Int) < 2 ^ L := Int.pow_pos (by decide)
    have hd : (0 : Int) < 2 ^ d := Int.pow_pos (by decide)
    rw [Int.pow_add, Int.mul_assoc] at hq
    have hk : 0 < 2 ^ d * (2 * q + 1) := by
      apply Int.pos_of_mul_pos_right (a := 2 ^ L) _ hp
      rw [← hq]; exact h0
    have := Int.mul_le_mul_of_nonneg_left (show 1 ≤ 2 ^ d * (2 * q + 1) by omega) (Int.le_of_lt hp)
    omega
end Go.Proofs.YtmgfajamanakcaaGreatDoor
namespace Go.Proofs.YtmgfajamanakcaaGreatDoor
set_option linter.unusedSimpArgs false
open Go.RowKit
set_option maxRecDepth 100000
set_option linter.unusedVariables false
/-- The table of bits.TrailingZeros64 in its variable. -/
def DeB (w : World) : Prop := ∀ j : Nat, j < 64 → w.cell? ⟨11, j, none⟩ = some (.int .u8 ((Lib.deBruijn64tab.getD j 0 : Nat) : Int))
set_option maxHeartbeats 1000000 in
theorem tz64_core (x k idx : Nat) (w : World) (hx0 : ((x : Int) == 0) = false)
    (key : IntKind.u64.wrap (bits BinOp.and IntKind.u64 (x : Int) (IntKind.u64.wrap (-(x : Int))) * 285870213051353865) / 288230376151711744 = (idx : Int))
    (hi : idx < 64) (hk : k < 64) (hcell : w.cell? ⟨11, idx, none⟩ = some (.int .u8 (k : Int))) :
    Calls Tryz.prog 237 #[.int .u64 (x : Int)] w fun e w' => e = .returned (.int .i64 (k : Int)) ∧ w = w' := by
  go_enter Tryz.func237, Tryz.ntmps237
  go_wp2_with (simp only [key])
  go_ret
  exact ⟨rfl, rfl⟩
theorem tz64_any (x : Nat) (w : World) (hx : x < 18446744073709551616) (h0 : x ≠ 0) (hT : DeB w) :
    Calls Tryz.prog 237 #[.int .u64 (x : Int)] w fun e w' => e = .returned (.int .i64 ((Lib.ctz 64 x : Nat) : Int)) ∧ w = w' := by
  obtain ⟨hlow, hk⟩ := Lib.lowest_bit 64 x h0 hx
  obtain ⟨hi, htab⟩ := Lib.deBruijn64_at _ hk
  have hcell := hT _ hi
  rw [htab] at hcell
  exact tz64_core x _ _ w (by simp; omega) (tz64_key x _ hx h0 hlow) hi hk hcell
set_option maxHeartbeats 1000000 in
theorem tz_any (x : Int) (w : World) (hx : U64 x) (h0 : x ≠ 0) (hT : DeB w) :
    Calls Tryz.prog 201 #[.int .u64 x] w fun e w' => e = .returned (.int .i64 ((Lib.ctz 64 x.toNat : Nat) : Int)) ∧ w = w' := by
  obtain ⟨k, rfl⟩ : ∃ k : Nat, x = (k : Int) := ⟨x.toNat, by have := hx.1; omega⟩
  have H := Lib.hid (tz64_any k w (by have := hx.2; omega) (by omega) hT)
  have hk : (k : Int).toNat = k := rfl
  have w1 : IntKind.u64.wrap (k : Int) = (k : Int) := IntWalk.u64_in _ ⟨by omega, by have := hx.2; omega⟩
  rw [hk]
  clear hx h0 hT hk
  go_enter Tryz.func201, Tryz.ntmps201
  go_wp2_with fail
  refine H.out.mono ?_
  rintro e w1 ⟨rfl, rfl⟩
  go_wp2
  go_ret
  exact ⟨rfl, rfl⟩
set_option maxHeartbeats 2000000 in
theorem tzb_any (b o n c : Nat) (X : Nat → Int) (w : World) (hX : Words w b o n X) (hXw : WF X n) (hn : 0 < n) (hn2 : n < 65536) (ht : X (n - 1) ≠ 0) (hT : DeB w) (hnc : n ≤ c) :
    Calls Tryz.prog 177 #[.slice (some ⟨b, o, none⟩) n c] w fun e w' => ∃ t : Nat, e = .returned (.int .u64 (t : Int)) ∧ LowZ (val X n) t ∧ t < 64 * n ∧ w = w' := by
  have d0 : ((n : Int) == 0) = false := by simp; omega
  have H := Lib.hid (And.intro hX (And.intro hXw (And.intro ht hT)))
  clear hX hXw ht hT
  go_enter Tryz.func177, Tryz.ntmps177
  go_wp2_with fail
  go_loopw [3] (fun s3 wr => ∃ i : Nat, s3 = .int .u64 (i : Int) ∧ w = wr ∧ i < n ∧ Hid (∀ j, j < i → X j = 0)) (fun s3 _ => n - (intOf s3).toNat)
  case atStart => exact ⟨0, rfl, rfl, hn, fun j hj => by omega⟩
  case round =>
    obtain ⟨i, rfl, rfl, hi, HZ⟩ := hrel
    have hci := H.out.1 i hi
    obtain ⟨y, hy⟩ : ∃ y, X i = y := ⟨_, rfl⟩
    rw [hy] at hci
    have Hy := Lib.hid hy
    have f1 : (0 : Int) ≤ (i : Int) := by omega
    have f2 : (i : Int) < (n : Int) := by omega
    clear hy
    by_cases hy0 : y = 0
    · have d1 : (y == 0) = true := by simp [hy0]
      have hin : i + 1 < n := by
        rcases Nat.lt_or_ge (i + 1) n with h | h
        · exact h
        · exfalso
          have e : n - 1 = i := by omega
          have := H.out.2.2.1
          rw [e, Hy.out] at this
          exact this hy0
      have HZ2 : Hid (∀ j, j < i + 1 → X j = 0) := fun j hj => by
        rcases Nat.lt_or_ge j i with h | h
        · exact HZ.out j h
        · obtain rfl : j = i := by omega
          rw [Hy.out]; exact hy0
      clear hy0
      go_wp2
      go_roundw
      case measure => simp only [intOf]; omega
      case rel => exact ⟨i + 1, by go_num, by first | rfl | trivial, hin, HZ2.out⟩
    · have d1 : (y == 0) = false := by simp [hy0]
      have hyw : U64 y := by have := H.out.2.1 i hi; rw [Hy.out] at this; exact this
      have HC := Lib.hid (tz_any y w hyw hy0 H.out.2.2.2)
      have hL := ctz_low hyw hy0
      obtain ⟨t, ht⟩ : ∃ t, Lib.ctz 64 y.toNat = t := ⟨_, rfl⟩
      rw [ht] at hL HC
      have ht64 := hL.2
      have HL : Hid (LowZ (val X n) (64 * i + t)) := low_val H.out.2.1 hi HZ.out (by rw [Hy.out]; exact hL.1) hL.2
      clear hL ht hy0 hyw
      go_wp2_with fail
      refine HC.out.mono ?_
      rintro e w1 ⟨rfl, rfl⟩
      go_wp2
      go_ret
      have he : ((64 * i + t : Nat) : Int) = (i : Int) * 64 + (t : Int) := by omega
      exact ⟨64 * i + t, by rw [he]; rfl, HL.out, by omega, rfl⟩
end Go.Proofs.YtmgfajamanakcaaGreatDoor
namespace Go.Proofs.YtmgfajamanakcaaGreatDoor
set_option linter.unusedSimpArgs false
open Go.RowKit
set_option maxRecDepth 100000
set_option linter.unusedVariables false
theorem flt_ptr_neq (w : World) {b b' : Nat} (h : PB w b) (h' : PB w b') (he : b ≠ b') :
    (binOp .neq 85 (.pointer (some ⟨b, 0, none⟩)) (.pointer (some ⟨b', 0, none⟩))).run Tryz.prog w = .ok (.bool true) w := by
  cases hi : Tryz.prog.info? 136 with
  | none => have := info136; rw [hi] at this; cases this
  | some i =>
    have hs : i.size ≠ 0 := by have := info136; rw [hi] at this; simp at this; omega
    obtain ⟨cs, t, h⟩ := h
    obtain ⟨cs', t', h'⟩ := h'
    have key : ∀ d : Nat, (Op.equalIn (d + 1) 85 (.pointer (some ⟨b, 0, none⟩)) (.pointer (some ⟨b', 0, none⟩))).run Tryz.prog w = .ok false w := fun d => by
      simp [Op.equalIn, run_underlying Tryz.underlying85, sizeOf, typeInfo, hi, hs, run_sameAddr_other w (fun (e : (⟨b, 0, none⟩ : Addr) = ⟨b', 0, none⟩) => he (by injection e with e1 e2)) h h']
    simp only [binOp]
    simp [Op.equal, Op.maxDepth, key 9999]
/-- What Copy leaves: the same number in a mantissa of its own. -/
def CopyPost (w : World) (zb : Nat) (v : FV) (X : Nat → Int) (w' : World) : Prop :=
  ∃ b o c, w.heap.size ≤ b ∧ FNum w' zb { v with a := some ⟨b, o, none⟩, c := c } X ∧ Chg (zRow zb 0 7) w w'
/-- Behind the copy of the words. -/
def CopyMid (WD : World) (zb n : Nat) (X : Nat → Int) (wc : World) : Prop :=
  ∃ a c wf, wc = wf.setCell ⟨zb, 5, none⟩ (.slice a n c) ∧ (n ≤ c ∧ ZOK wf a c ∧ Rd wf a n X ∧ Home WD.drew none 0 a c ∧ Chg (zAddr none 0) WD.drew wf)
set_option maxHeartbeats 8000000 in
theorem Copy_any (zb xb : Nat) (v v0 : FV) (X : Nat → Int) (w : World) (h : FNum w xb v X) (hf : v.fm = 1) (hz : FltC w zb v0) (hv0 : v0.a = none ∧ v0.n = 0 ∧ v0.c = 0) (hne : zb ≠ xb) (hap : ∀ o, v.a ≠ some ⟨zb, o, none⟩) :
    Calls Tryz.prog 136 #[.pointer (some ⟨zb, 0, none⟩), .pointer (some ⟨xb, 0, none⟩)] w fun e w' => e = .returned (.pointer (some ⟨zb, 0, none⟩)) ∧ CopyPost w zb v X w' := by
  have hpn := flt_ptr_neq w hz.pb h.c.pb hne
  obtain ⟨f1, f2, f3, f4, f5, f6⟩ := h.fin hf
  have H := Lib.hid h
  have HZ := Lib.hid hz
  obtain ⟨P, md, ac, fm, ng, a, n, c, e0⟩ := v
  obtain ⟨Pz, mdz, acz, fmz, ngz, az, nz, cz, ez⟩ := v0
  simp only at hf hv0 hap f1 f2 f3 f4 f5 f6
  obtain ⟨rfl, rfl, rfl⟩ := hv0
  subst hf
  have HS : Hid (∀ W, Chg (zRow zb 0 7) w W → Calls Tryz.prog 77 #[.slice none 0 0, .slice a n c] W (SetRes W none 0 n X)) := fun W k =>
    set_any none a 0 0 n c X W (Or.inl ⟨rfl, rfl⟩) (by
      rcases f4 with f4 | ⟨b, o, e, hw⟩
      · exact Or.inl f4
      · refine Or.inr ⟨b, o, e, hw.chg k (fun i hi hh => hap o ?_)⟩
        rw [e, hh.1]) f2 (by omega)
  obtain ⟨c0, c1, c2, c3, c4, c5, c6, cb⟩ := h.c
  obtain ⟨z0, z1, z2, z3, z4, z5, z6, zp⟩ := hz
  simp only at c0 c1 c2 c3 c4 c5 c6 z0 z1 z2 z3 z4 z5 z6
  have g0 := zp.fz 0
  have g1 := zp.fz 1
  have g2 := zp.fz 2
  have g3 := zp.fz 3
  have g4 := zp.fz 4
  have g5 := zp.fz 5
  have g6 := zp.fz 6
  have hx : xb ≠ zb := hne.symm
  have HF := Lib.hid (And.intro f1 (And.intro f2 (And.intro f3 (And.intro f4 (And.intro f5 f6)))))
  have HAP := Lib.hid hap
  clear h cb zp f1 f2 f3 f4 f5 f6 hap
  go_enter Tryz.func136, Tryz.ntmps136
  go_upto_if 47 with fail
  obtain ⟨WD, hWD⟩ : ∃ W, W = ((((w.setCell ⟨zb, 0, none⟩ (.int .u32 P)).setCell ⟨zb, 1, none⟩ (.int .u8 md)).setCell ⟨zb, 2, none⟩ (.int .i8 ac)).setCell ⟨zb, 3, none⟩ (.int .u8 1)).setCell ⟨zb, 4, none⟩ (.bool ng) := ⟨_, rfl⟩
  have HW : Hid (FltC WD zb ⟨P, md, ac, 1, ng, none, 0, 0, ez⟩ ∧ Chg (zRow zb 0 7) w WD) := by
    rw [hWD]
    exact ⟨((((HZ.out.setP P).setMd md).setAc ac).setFm 1).setNg ng, (((((Chg.refl _ _).setCell zb 0 _ (fun _ => ⟨rfl, by omega, by omega⟩)).setCell zb 1 _ (fun _ => ⟨rfl, by omega, by omega⟩)).setCell zb 2 _ (fun _ => ⟨rfl, by omega, by omega⟩)).setCell zb 3 _ (fun _ => ⟨rfl, by omega, by omega⟩)).setCell zb 4 _ (fun _ => ⟨rfl, by omega, by omega⟩)⟩
  rw [← hWD]
  have q5 : WD.cell? ⟨xb, 5, none⟩ = some (.slice a n c) := HW.out.2.cell c5 (fun hh => hx hh.1)
  have q6 : WD.cell? ⟨xb, 6, none⟩ = some (.int .i32 e0) := HW.out.2.cell c6 (fun hh => hx hh.1)
  have r3 := HW.out.1.fm
  have r5 := HW.out.1.mt
  have r6 := HW.out.1.ex
  have s5 := HW.out.1.pb.fz 5
  have s6 := HW.out.1.pb.fz 6
  simp only at r3 r5 r6
  have HWD := Lib.hid (And.intro HW.out.2 (And.intro r5 s5))
  clear c0 c1 c2 c3 c4 c5 c6 z0 z1 z2 z3 z4 z5 z6 g0 g1 g2 g3 g4 g5 g6 hpn hWD
  go_upto_region 8 with fail
  go_cut [2] (fun _ wc => CopyMid WD zb n X wc)
  case first => as_aux_lemma =>
    refine wp_region_noPanic ?_
    refine wp_region_any (by kernel_rfl) ?_
    change wpAny _ _ _ _ _ _ _ (World.drew _)
    refine wpAny_take (i := 0) (v := ?_) rfl (by kernel_rfl) (by kernel_rfl) (by kernel_rfl) (fun _ _ _ h => False.elim h) (Or.inl ⟨by rfl, ?_⟩) ?_
    rotate_left 1
    · intro w9
      go_simp
      try with_reducible rfl
    try simp only [Act.put, List.getElem_toArray, List.getElem_cons_zero, List.getElem_cons_succ, List.setIfInBounds_toArray, List.set_cons_zero, List.set_cons_succ]
    refine wpAny_take (i := 1) (v := ?_) rfl (by kernel_rfl) (by kernel_rfl) (by kernel_rfl) (fun _ _ _ h => False.elim h) (Or.inl ⟨by rfl, ?_⟩) ?_
    rotate_left 1
    · intro w9
      go_simp
      try with_reducible rfl
    try simp only [Act.put, List.getElem_toArray, List.getElem_cons_zero, List.getElem_cons_succ, List.setIfInBounds_toArray, List.set_cons_zero, List.set_cons_succ]
    refine wpAny_take (i := 2) (v := ?_) rfl (by kernel_rfl) (by kernel_rfl) (by kernel_rfl) (fun _ _ _ h => False.elim h) (Or.inl ⟨by rfl, ?_⟩) ?_
    rotate_left 1
    · intro w9
      go_simp
      try with_reducible rfl
    try simp only [Act.put, List.getElem_toArray, List.getElem_cons_zero, List.getElem_cons_succ, List.setIfInBounds_toArray, List.set_cons_zero, List.set_cons_succ]
    refine wpAny_take (i := 3) (v := ?_) rfl (by kernel_rfl) (by kernel_rfl) (by kernel_rfl) (fun _ _ _ h => False.elim h) (Or.inl ⟨by rfl, ?_⟩) ?_
    rotate_left 1
    · intro w9
      go_simp
      try with_reducible rfl
    try simp only [Act.put, List.getElem_toArray, List.getElem_cons_zero, List.getElem_cons_succ, List.setIfInBounds_toArray, List.set_cons_zero, List.set_cons_succ]
    refine wpAny_take (i := 5) (v := ?_) rfl (by kernel_rfl) (by kernel_rfl) (by kernel_rfl) (fun _ _ _ h => False.elim h) (Or.inl ⟨by rfl, ?_⟩) ?_
    rotate_left 1
    · intro w9
      go_simp
      try with_reducible rfl
    try simp only [Act.put, List.getElem_toArray, List.getElem_cons_zero, List.getElem_cons_succ, List.setIfInBounds_toArray, List.set_cons_zero, List.set_cons_succ]
    refine wpAny_take (i := 6) (v := ?_) rfl (by kernel_rfl) (by kernel_rfl) (by kernel_rfl) (fun _ _ _ h => False.elim h) (Or.inl ⟨by rfl, ?_⟩) ?_
    rotate_left 1
    · intro w9
      go_simp
      try with_reducible rfl
    try simp only [Act.put, List.getElem_toArray, List.getElem_cons_zero, List.getElem_cons_succ, List.setIfInBounds_toArray, List.set_cons_zero, List.set_cons_succ]
    refine wpAny_take (i := 7) (v := ?_) rfl (by kernel_rfl) (by kernel_rfl) (by kernel_rfl) (fun _ _ _ h => False.elim h) (Or.inl ⟨by rfl, ?_⟩) ?_
    rotate_left 1
    · intro w9
      go_simp
      try with_reducible rfl
    try simp only [Act.put, List.getElem_toArray, List.getElem_cons_zero, List.getElem_cons_succ, List.setIfInBounds_toArray, List.set_cons_zero, List.set_cons_succ]
    refine wpAny_ready (rs := [4, 8]) (by kernel_rfl) (by simp) ?_
    refine AllReady.cons rfl (fun K hK => ?_) (AllReady.cons rfl (fun K hK => ?_) AllReady.nil)
    · skip
      go_simp
      refine hK _ _ ?_
      clear hK K
      try simp only [Act.put, List.getElem_toArray, List.getElem_cons_zero, List.getElem_cons_succ, List.setIfInBounds_toArray, List.set_cons_zero, List.set_cons_succ]
      refine wpAny_ready (rs := [8]) (by kernel_rfl) (by simp) ?_
      refine AllReady.cons rfl (fun K hK => ?_) AllReady.nil
      go_simp
      refine hK _ _ ?_
      clear hK K
      try simp only [Act.put, List.getElem_toArray, List.getElem_cons_zero, List.getElem_cons_succ, List.setIfInBounds_toArray, List.set_cons_zero, List.set_cons_succ]
      refine wpAny_ready (rs := [9]) (by kernel_rfl) (by simp) ?_
      refine AllReady.cons rfl (fun K hK => ?_) AllReady.nil
      go_simp
      go_wp2_with (go_at_call 77; go_loud (refine (HS.out WD.drew HWD.out.1.drew).mono ?_; rintro e wf ⟨aa, cc, rfl, f1, f2, f3, f4, f5⟩; have j5 : wf.cell? ⟨zb, 5, none⟩ = some (.slice none 0 0) := f5.cell (w := WD.drew) HWD.out.2.1 (fun hh => by obtain ⟨_, e, _⟩ := hh; cases e); have jf : wf.frozen? ⟨zb, 5, none⟩ = false := (f5.frozen (w := WD.drew) HWD.out.2.1 _).trans HWD.out.2.2; have HFF := Lib.hid (And.intro f1 (And.intro f2 (And.intro f3 (And.intro f4 f5)))); clear f1 f2 f3 f4 f5))
      try simp only [Act.put, List.getElem_toArray, List.getElem_cons_zero, List.getElem_cons_succ, List.setIfInBounds_toArray, List.set_cons_zero, List.set_cons_succ]
      refine wpAny_take (i := 10) (v := ?_) rfl (by kernel_rfl) (by kernel_rfl) (by kernel_rfl) (fun _ _ _ h => False.elim h) (Or.inl ⟨by rfl, ?_⟩) ?_
      rotate_left 1
      · intro w9
        go_simp
        try with_reducible rfl
      try simp only [Act.put, List.getElem_toArray, List.getElem_cons_zero, List.getElem_cons_succ, List.setIfInBounds_toArray, List.set_cons_zero, List.set_cons_succ]
      refine wpAny_take (i := 11) (v := ?_) rfl (by kernel_rfl) (by kernel_rfl) (by kernel_rfl) (fun _ _ _ h => False.elim h) (Or.inl ⟨by rfl, ?_⟩) ?_
      rotate_left 1
      · intro w9
        go_simp
        try with_reducible rfl
      try simp only [Act.put, List.getElem_toArray, List.getElem_cons_zero, List.getElem_cons_succ, List.setIfInBounds_toArray, List.set_cons_zero, List.set_cons_succ]
      refine wpAny_ready (rs := [12]) (by kernel_rfl) (by simp) ?_
      refine AllReady.cons rfl (fun K hK => ?_) AllReady.nil
      go_simp
      refine hK _ _ ?_
      clear hK K
      try simp only [Act.put, List.getElem_toArray, List.getElem_cons_zero, List.getElem_cons_succ, List.setIfInBounds_toArray, List.set_cons_zero, List.set_cons_succ]
      refine wpAny_done (by kernel_rfl) ?_ _
      refine NoPanic.normal ?_
      go_wp2
      go_meet
      exact ⟨aa, cc, wf, rfl, HFF.out⟩
    · skip
      go_simp
      refine hK _ _ ?_
      clear hK K
      try simp only [Act.put, List.getElem_toArray, List.getElem_cons_zero, List.getElem_cons_succ, List.setIfInBounds_toArray, List.set_cons_zero, List.set_cons_succ]
      refine wpAny_ready (rs := [4]) (by kernel_rfl) (by simp) ?_
      refine AllReady.cons rfl (fun K hK => ?_) AllReady.nil
      go_simp
      refine hK _ _ ?_
      clear hK K
      try simp only [Act.put, List.getElem_toArray, List.getElem_cons_zero, List.getElem_cons_succ, List.setIfInBounds_toArray, List.set_cons_zero, List.set_cons_succ]
      refine wpAny_ready (rs := [9]) (by kernel_rfl) (by simp) ?_
      refine AllReady.cons rfl (fun K hK => ?_) AllReady.nil
      go_simp
      go_wp2_with (go_at_call 77; go_loud (refine (HS.out WD.drew HWD.out.1.drew).mono ?_; rintro e wf ⟨aa, cc, rfl, f1, f2, f3, f4, f5⟩; have j5 : wf.cell? ⟨zb, 5, none⟩ = some (.slice none 0 0) := f5.cell (w := WD.drew) HWD.out.2.1 (fun hh => by obtain ⟨_, e, _⟩ := hh; cases e); have jf : wf.frozen? ⟨zb, 5, none⟩ = false := (f5.frozen (w := WD.drew) HWD.out.2.1 _).trans HWD.out.2.2; have HFF := Lib.hid (And.intro f1 (And.intro f2 (And.intro f3 (And.intro f4 f5)))); clear f1 f2 f3 f4 f5))
      try simp only [Act.put, List.getElem_toArray, List.getElem_cons_zero, List.getElem_cons_succ, List.setIfInBounds_toArray, List.set_cons_zero, List.set_cons_succ]
      refine wpAny_take (i := 10) (v := ?_) rfl (by kernel_rfl) (by kernel_rfl) (by kernel_rfl) (fun _ _ _ h => False.elim h) (Or.inl ⟨by rfl, ?_⟩) ?_
      rotate_left 1
      · intro w9
        go_simp
        try with_reducible rfl
      try simp only [Act.put, List.getElem_toArray, List.getElem_cons_zero, List.getElem_cons_succ, List.setIfInBounds_toArray, List.set_cons_zero, List.set_cons_succ]
      refine wpAny_take (i := 11) (v := ?_) rfl (by kernel_rfl) (by kernel_rfl) (by kernel_rfl) (fun _ _ _ h => False.elim h) (Or.inl ⟨by rfl, ?_⟩) ?_
      rotate_left 1
      · intro w9
        go_simp
        try with_reducible rfl
      try simp only [Act.put, List.getElem_toArray, List.getElem_cons_zero, List.getElem_cons_succ, List.setIfInBounds_toArray, List.set_cons_zero, List.set_cons_succ]
      refine wpAny_ready (rs := [12]) (by kernel_rfl) (by simp) ?_
      refine AllReady.cons rfl (fun K hK => ?_) AllReady.nil
      go_simp
      refine hK _ _ ?_
      clear hK K
      try simp only [Act.put, List.getElem_toArray, List.getElem_cons_zero, List.getElem_cons_succ, List.setIfInBounds_toArray, List.set_cons_zero, List.set_cons_succ]
      refine wpAny_done (by kernel_rfl) ?_ _
      refine NoPanic.normal ?_
      go_wp2
      go_meet
      exact ⟨aa, cc, wf, rfl, HFF.out⟩
  case rest => as_aux_lemma =>
    obtain ⟨a', c', wf, rfl, HM⟩ := hcut
    have HM := Lib.hid HM
    have kd : Chg zNone WD wf := ((Chg.refl zNone WD).drew).trans HM.out.2.2.2.2 (fun b o _ hh => by obtain ⟨_, e, _⟩ := hh; cases e)
    have j6 : (wf.setCell ⟨zb, 5, none⟩ (.slice a' n c')).cell? ⟨xb, 6, none⟩ = some (.int .i32 e0) := (chg_cell wf zb 5 _).cell (kd.cell q6 (fun h => h)) (fun hh => hx hh.1)
    have HC : Hid (FltC (wf.setCell ⟨zb, 5, none⟩ (.slice a' n c')) zb ⟨P, md, ac, 1, ng, a', n, c', ez⟩) := (HW.out.1.chg kd (fun _ _ h => h)).setMt a' n c'
    have l6 := HC.out.ex
    have m6 := HC.out.pb.fz 6
    simp only at l6
    have HKD := Lib.hid kd
    clear kd q5 q6 r3 r5 r6 s5 s6
    obtain ⟨WE, hWE⟩ : ∃ W, W = wf.setCell ⟨zb, 5, none⟩ (.slice a' n c') := ⟨_, rfl⟩
    have HWE : Hid (Chg (zRow zb 0 7) wf WE) := by rw [hWE]; exact (Chg.refl _ _).setCell zb 5 _ (fun _ => ⟨rfl, by omega, by omega⟩)
    rw [← hWE] at j6 HC l6 m6 ⊢
    clear hWE
    go_wp2
    go_ret
    refine ⟨rfl, ?_⟩
    obtain ⟨f1, f2, f3, f4, f5, f6⟩ := HF.out
    obtain ⟨m1, m2, m3, m4, m5⟩ := HM.out
    have kE : Chg (zRow zb 0 7) wf (WE.setCell ⟨zb, 6, none⟩ (.int .i32 e0)) := HWE.out.setCell zb 6 _ (fun _ => ⟨rfl, by omega, by omega⟩)
    rcases m4 with ⟨e1, e2⟩ | ⟨b, o, rfl, hb⟩
    · omega
    · have hbz : b ≠ zb := by
        have h1 := HZ.out.lt
        have h2 := HW.out.2.size
        have h3 : WD.drew.heap.size = WD.heap.size := rfl
        omega
      refine ⟨b, o, c', ?_, ⟨HC.out.setEx e0, m2.chg kE ?_, ?_, H.out.p, H.out.md, Or.inr (Or.inl rfl), H.out.ex, fun _ => ⟨f1, m1, f3, ?_, f5, f6⟩⟩, (HW.out.2.trans HKD.out (fun _ _ _ h => h.elim)).trans kE (fun _ _ _ h => h)⟩
      · have h2 := HW.out.2.size
        have h3 : WD.drew.heap.size = WD.heap.size := rfl
        omega
      · rintro b' o' ⟨po, e, _⟩ hh
        injection e with e; injection e with e1 e2
        exact hbz (e1.trans hh.1)
      · rintro b' o' e
        injection e with e; injection e with e1 e2
        rw [← e1]; exact hbz
      · rcases m3 with m3 | ⟨b', o', e, hw⟩
        · exact Or.inl m3
        · refine Or.inr ⟨b', o', e, hw.chg kE (fun i hi hh => hbz ?_)⟩
          injection e with e; injection e with e1 e2
          exact e1.trans hh.1
theorem lowz_ex {M : Int} (h : 0 < M) : ∃ t, LowZ M t := by
  obtain ⟨m, hm, _⟩ := Lib.ctzFrom_spec M.toNat M.toNat (by omega) Nat.lt_two_pow_self
  refine ⟨Lib.ctzFrom M.toNat M.toNat, m, ?_⟩
  have h3 := congrArg (fun k : Nat => (k : Int)) hm
  simp only [Int.natCast_mul, Int.natCast_pow, Int.natCast_add, Int.natCast_one, Int.cast_ofNat_Int] at h3
  rw [show ((M.toNat : Nat) : Int) = M by omega] at h3
  exact h3
set_option maxHeartbeats 4000000 in
theorem MinPrec_any (b t : Nat) (v : FV) (X : Nat → Int) (w : World) (h : FNum w b v X) (hf : v.fm = 1) (ht : LowZ (val X v.n) t) (hT : DeB w) :
    Calls Tryz.prog 121 #[.pointer (some ⟨b, 0, none⟩)] w fun e w' => e = .returned (.int .u64 ((64 * v.n - t : Nat) : Int)) ∧ t < 64 * v.n ∧ Chg zNone w w' := by
  obtain ⟨f1, f2, f3, f4, f5, f6⟩ := h.fin hf
  obtain ⟨bm, om, ea, hw, hroom, hpb, hbm⟩ := h.words hf
  have htl : t < 64 * v.n := by
    have hv := val_ge_top f5 f1 f6
    exact ht.lt (by have : (0 : Int) < 2 ^ (64 * v.n - 1) := Int.pow_pos (by decide); omega) hv.2
  have HM : Hid (∀ k, Calls Tryz.prog 177 #[.slice (some ⟨bm, om, none⟩) v.n v.c] (w.drewN k) fun e w' => e = .returned (.int .u64 (t : Int)) ∧ w' = w.drewN k) := fun k =>
    (tzb_any bm om v.n v.c X (w.drewN k) (hw.chg ((Chg.refl zNone w).drewN k) (fun _ _ h => h)) f5 f1 f3 (by omega) (fun j hj => ((Chg.refl zNone w).drewN k).cell (hT j hj) (fun h => h)) f2).mono (by
      rintro e w' ⟨t', rfl, h1, h2, rfl⟩
      rw [h1.unique ht]
      exact ⟨rfl, rfl⟩)
  obtain ⟨P, md, ac, fm, ng, a, n, c, e0⟩ := v
  obtain ⟨c0, c1, c2, c3, c4, c5, c6, cb⟩ := h.c
  simp only at hf ea f1 f2 f3 c0 c1 c2 c3 c4 c5 c6 HM htl
  subst hf
  subst ea
  have w1 : IntKind.u64.wrap (n : Int) = (n : Int) := IntWalk.u64_in _ (by omega)
  have w2 : IntKind.u64.wrap ((n : Int) * 64) = (n : Int) * 64 := IntWalk.u64_in _ (by omega)
  have w3 : IntKind.u64.wrap ((n : Int) * 64 - (t : Int)) = (n : Int) * 64 - (t : Int) := IntWalk.u64_in _ (by omega)
  have w4 : ((64 * n - t : Nat) : Int) = (n : Int) * 64 - (t : Int) := by omega
  rw [w4]
  clear h hT hw hroom hpb cb f4 f5 f6 ht
  go_enter Tryz.func121, Tryz.ntmps121
  go_wp2_with fail
  go_quiet ((go_at_call 177; exact Calls.quiet_of_same (HM.out _)))
  go_wp2
  go_ret
  exact ⟨rfl, htl, (Chg.refl _ _).drewN _⟩
set_option maxHeartbeats 4000000 in
theorem MantExp_any (zb xb : Nat) (v v0 : FV) (X : Nat → Int) (w : World) (h : FNum w xb v X) (hf : v.fm = 1) (hz : FltC w zb v0) (hv0 : v0.a = none ∧ v0.n = 0 ∧ v0.c = 0) (hne : zb ≠ xb) (hap : ∀ o, v.a ≠ some ⟨zb, o, none⟩) :
    Calls Tryz.prog 120 #[.pointer (some ⟨xb, 0, none⟩), .pointer (some ⟨zb, 0, none⟩)] w fun e w' => e = .returned (.int .i64 v.e) ∧ CopyPost w zb { v with e := 0 } X w' := by
  have HC := Lib.hid (Copy_any zb xb v v0 X w h hf hz hv0 hne hap)
  have hex := h.ex
  obtain ⟨P, md, ac, fm, ng, a, n, c, e0⟩ := v
  obtain ⟨c0, c1, c2, c3, c4, c5, c6, cb⟩ := h.c
  simp only at hf c0 c1 c2 c3 c4 c5 c6 hex
  subst hf
  have w1 : IntKind.i64.wrap e0 = e0 := IntWalk.i64_in _ (by omega)
  clear h hz hap cb
  go_enter Tryz.func120, Tryz.ntmps120
  go_wp2_with fail
  refine HC.out.mono ?_
  rintro e w1 ⟨rfl, b, o, c', hb, g1, g2⟩
  obtain ⟨k0, k1, k2, k3, k4, k5, k6, kp⟩ := g1.c
  have f6 := kp.fz 6
  have HG := Lib.hid (And.intro hb (And.intro g1 g2))
  simp only at k0 k1 k2 k3 k4 k5 k6
  clear c0 c1 c2 c3 c4 c5 c6 hb g1 g2 kp
  go_wp2
  go_ret
  refine ⟨rfl, b, o, c', HG.out.1, ?_, HG.out.2.2.setCell zb 6 _ (fun _ => ⟨rfl, by omega, by omega⟩)⟩
  have g := HG.out.2.1
  have kk := chg_cell w1 zb 6 (.int .i32 0)
  refine ⟨g.c.setEx 0, g.zset _ _, g.ap, g.p, g.md, g.fm, (by simp), fun hh => ?_⟩
  obtain ⟨f1, f2, f3, f4, f5, f6'⟩ := g.fin rfl
  refine ⟨f1, f2, f3, ?_, f5, f6'⟩
  rcases f4 with f4 | ⟨b', o', e, hw⟩
  · exact Or.inl f4
  · exact Or.inr ⟨b', o', e, hw.chg kk (fun i hi hh => g.ap b' o' e hh.1)⟩
set_option maxHeartbeats 4000000 in
theorem SetMantExp_any (zb xb p : Nat) (v v0 : FV) (X : Nat → Int) (x : Int) (w : World) (h : FNum w xb v X) (hf : v.fm = 1) (hp : v.p = (p : Int)) (hz : FltC w zb v0) (hv0 : v0.a = none ∧ v0.n = 0 ∧ v0.c = 0) (hne : zb ≠ xb) (hap : ∀ o, v.a ≠ some ⟨zb, o, none⟩) (hx : -1099511627776 ≤ x ∧ x ≤ 1099511627776) :
    Calls Tryz.prog 75 #[.pointer (some ⟨zb, 0, none⟩), .pointer (some ⟨xb, 0, none⟩), .int .i64 x] w fun e w' => e = .returned (.pointer (some ⟨zb, 0, none⟩)) ∧
      ∃ w1 b o c, w.heap.size ≤ b ∧ FNum w1 zb { v with a := some ⟨b, o, none⟩, c := c } X ∧ Chg (zRow zb 0 7) w w1 ∧ SERPost w1 zb { v with a := some ⟨b, o, none⟩, c := c } X (v.e + x) false p w' := by
  have HC := Lib.hid (Copy_any zb xb v v0 X w h hf hz hv0 hne hap)
  have hex := h.ex
  obtain ⟨P, md, ac, fm, ng, a, n, c, e0⟩ := v
  simp only at hf hp hex
  subst hf
  have w1 : IntKind.i64.wrap e0 = e0 := IntWalk.i64_in _ (by omega)
  have w2 : IntKind.i64.wrap (e0 + x) = e0 + x := IntWalk.i64_in _ (by omega)
  clear h hz hap
  go_enter Tryz.func75, Tryz.ntmps75
  go_wp2_with fail
  refine HC.out.mono ?_
  rintro e w1 ⟨rfl, b, o, c', hb, g1, g2⟩
  obtain ⟨k0, k1, k2, k3, k4, k5, k6, kp⟩ := g1.c
  have HS := Lib.hid (setExpAndRound_any zb p _ X (e0 + x) 0 false w1 g1 (by
    obtain ⟨f1, f2, f3, f4, f5, f6⟩ := g1.fin rfl
    exact ⟨f1, f2, f3, f4, f5, f6⟩) hp (Or.inl rfl) (by simp))
  have HG := Lib.hid (And.intro hb (And.intro g1 g2))
  simp only at k0 k1 k2 k3 k4 k5 k6
  clear hb g1 g2 kp
  go_wp2_with fail
  refine HS.out.mono ?_
  rintro e w2 ⟨rfl, hS⟩
  have HSS := Lib.hid hS
  clear hS k0 k1 k2 k3 k4 k5 k6
  go_wp2
  go_ret
  exact ⟨rfl, w1, b, o, c', HG.out.1, HG.out.2.1, HG.out.2.2, HSS.out⟩
end Go.Proofs.YtmgfajamanakcaaGreatDoor
