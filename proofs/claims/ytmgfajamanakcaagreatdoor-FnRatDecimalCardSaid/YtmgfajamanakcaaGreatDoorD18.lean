/- Part of the proof of FnParse: what the functions that it reaches do, as contracts. Conditions: those that each theorem names. -/
import Derived.Test.YtmgfajamanakcaaGreatDoorD17
import Derived.Test.YtmgfajamanakcaaGreatDoorD15
import Derived.Outline
import Derived.Test.YtmgfajamanakcaaGreatDoorD07
import Derived.Deep.CutBlock
import Derived.Deep.DeepCutAuto
import Derived.Test.YtmgfajamanakcaaGreatDoorD05
import Derived.Test.YtmgfajamanakcaaGreatDoorD11
import Derived.Defers
import Derived.Laws.Pointers
namespace Go.Proofs.YtmgfajamanakcaaGreatDoor
set_option linter.unusedVariables false
set_option linter.unusedSimpArgs false
open Go.RowKit
set_option maxRecDepth 100000
def FMant (w : World) (v : FV) (X : Nat → Int) : Prop := 0 < v.n ∧ v.n ≤ v.c ∧ v.n < 65536 ∧ Rd w v.a v.n X ∧ WF X v.n ∧ 9223372036854775808 ≤ X (v.n - 1)
theorem FMant.chg {Z : Zone} {w w' : World} {v : FV} {X : Nat → Int} (h : FMant w v X) (k : Chg Z w w') (hz : ∀ b' o, zAddr v.a v.c b' o → ¬ Z b' o) : FMant w' v X := by
  obtain ⟨h1, h2, h3, h4, h5, h6⟩ := h
  refine ⟨h1, h2, h3, ?_, h5, h6⟩
  rcases h4 with hh | ⟨b', o, e', hw⟩
  · exact Or.inl hh
  · exact Or.inr ⟨b', o, e', hw.chg k (fun i hi => hz b' (o + i) ⟨o, e', by omega, by omega⟩)⟩
theorem RoundPost.base {w W w' : World} {b : Nat} {v : FV} {X : Nat → Int} {sb : Bool} {p : Nat} (h : RoundPost W b v X sb p w') (k : Chg (zRow b 0 7) w W) : RoundPost w b v X sb p w' := by
  refine ⟨fun hh => ?_, fun hh => ?_⟩
  · obtain ⟨h1, h2⟩ := h.1 hh
    exact ⟨h1, k.trans h2 (fun _ _ _ h => h)⟩
  · obtain ⟨v', Y, h1, h2, h3, h4, h5⟩ := h.2 hh
    exact ⟨v', Y, h1, h2, h3, h4, (k.mono (fun _ _ _ h => Or.inl h)).trans h5 (fun _ _ _ h => h)⟩
end Go.Proofs.YtmgfajamanakcaaGreatDoor
namespace Go.Proofs.YtmgfajamanakcaaGreatDoor
set_option linter.unusedVariables false
set_option linter.unusedSimpArgs false
theorem Rnd.scale {N D c : Int} {p : Nat} {q t l : Int} (hc : 0 < c) (h : Rnd N D p q t l) : Rnd (c * N) (c * D) p q t l := by
  obtain ⟨a, b, h1, h2, h3, h4⟩ := h
  refine ⟨a, b, h1, ?_, h3, h4⟩
  have := (Cls.scale (c := c) hc).2 h2
  rwa [← Int.mul_assoc, ← Int.mul_assoc] at this
theorem Rounded.scale {neg : Bool} {N D c md m t acc : Int} {p : Nat} (hc : 0 < c) (h : Rounded neg N D p md m t acc) : Rounded neg (c * N) (c * D) p md m t acc := by
  obtain ⟨q, l, h1, h2, h3⟩ := h
  exact ⟨q, l, h1.scale hc, h2, h3⟩
theorem Rounded.shift {neg : Bool} {N D md m t acc : Int} {p c d : Nat} (h : Rounded neg N D p md m t acc) : Rounded neg (N * 2 ^ c) (D * 2 ^ d) p md m (t + c - d) acc := by
  obtain ⟨q, l, ⟨a, b, h1, h2, h3, h4⟩, h5, h6⟩ := h
  refine ⟨q, l, ⟨a + d, b + c, by push_cast; omega, ?_, h3, h4⟩, h5, h6⟩
  have := (Cls.scale (c := 2 ^ (c + d)) (two_pos (c + d))).2 h2
  rw [show (2 : Int) ^ (c + d) * (N * 2 ^ a) = N * 2 ^ c * 2 ^ (a + d) by rw [Int.pow_add, Int.pow_add]; grind, show (2 : Int) ^ (c + d) * (D * 2 ^ b) = D * 2 ^ d * 2 ^ (b + c) by rw [Int.pow_add, Int.pow_add]; grind] at this
  exact this
theorem Rounded.unscale {neg : Bool} {N D c md m t acc : Int} {p : Nat} (hc : 0 < c) (h : Rounded neg (c * N) (c * D) p md m t acc) : Rounded neg N D p md m t acc := by
  obtain ⟨q, l, ⟨a, b, h1, h2, h3, h4⟩, h5, h6⟩ := h
  refine ⟨q, l, ⟨a, b, h1, ?_, h3, h4⟩, h5, h6⟩
  refine (Cls.scale (c := c) hc).1 ?_
  rwa [← Int.mul_assoc, ← Int.mul_assoc]
theorem Rounded.unshift {neg : Bool} {N D md m t acc : Int} {p c d : Nat} (h : Rounded neg (N * 2 ^ c) (D * 2 ^ d) p md m t acc) : Rounded neg N D p md m (t + d - c) acc := by
  have h1 := h.shift (c := d) (d := c)
  rw [show N * 2 ^ c * 2 ^ d = 2 ^ (c + d) * N by rw [Int.pow_add]; grind, show D * 2 ^ d * 2 ^ c = 2 ^ (c + d) * D by rw [Int.pow_add]; grind] at h1
  exact h1.unscale (two_pos (c + d))
def DyEq (M e M' e' : Int) : Prop := ∃ a b : Nat, (a : Int) - b = e - e' ∧ M * 2 ^ a = M' * 2 ^ b
theorem DyEq.refl {M e : Int} : DyEq M e M e := ⟨0, 0, by simp, rfl⟩
theorem DyEq.symm {M e M' e' : Int} (h : DyEq M e M' e') : DyEq M' e' M e := by
  obtain ⟨a, b, h1, h2⟩ := h
  exact ⟨b, a, by omega, h2.symm⟩
theorem DyEq.trans {M e M' e' M2 e2 : Int} (h : DyEq M e M' e') (k : DyEq M' e' M2 e2) : DyEq M e M2 e2 := by
  obtain ⟨a, b, h1, h2⟩ := h
  obtain ⟨c, d, h3, h4⟩ := k
  refine ⟨a + c, b + d, by push_cast; omega, ?_⟩
  rw [Int.pow_add, Int.pow_add, ← Int.mul_assoc, h2, Int.mul_assoc, Int.mul_comm ((2 : Int) ^ b), ← Int.mul_assoc, h4]
  grind
theorem DyEq.pos {M e M' e' : Int} (h : DyEq M e M' e') (hM : 0 < M) : 0 < M' := by
  obtain ⟨a, b, h1, h2⟩ := h
  have h3 := Int.mul_pos hM (two_pos a)
  rw [h2] at h3
  exact Int.pos_of_mul_pos_left h3 (two_pos b)
end Go.Proofs.YtmgfajamanakcaaGreatDoor
namespace Go.Proofs.YtmgfajamanakcaaGreatDoor
set_option linter.unusedVariables false
set_option linter.unusedSimpArgs false
open Go.RowKit
set_option maxRecDepth 100000
structure FNew (w : World) (b : Nat) (v : FV) (w' : World) (v' : FV) (Y : Nat → Int) : Prop where
  num : FNum w' b v' Y
  p : v'.p = v.p
  md : v'.md = v.md
  home : Home w v.a v.c v'.a v'.c
  chg : Chg (zF b v) w w'
theorem FNew.base {w w1 w' : World} {b : Nat} {v v1 v' : FV} {Y : Nat → Int} (h : FNew w1 b v1 w' v' Y) (hp : v1.p = v.p) (hm : v1.md = v.md) (hh : Home w v.a v.c v1.a v1.c) (k : Chg (zF b v) w w1) : FNew w b v w' v' Y := by
  refine ⟨h.num, h.p.trans hp, h.md.trans hm, ?_, k.trans h.chg ?_⟩
  · rcases h.home with ⟨e1, e2⟩ | ⟨b2, o2, e, hb⟩
    · rw [e1, e2]; exact hh
    · exact Or.inr ⟨b2, o2, e, by have := k.size; omega⟩
  · rintro b' o hb (hz | hz)
    · exact Or.inl hz
    · exact Or.inr (hh.zone b' o hb hz)
theorem gt_words {x1 x2 y1 y2 : Int} (h1 : U64 x1) (h2 : U64 x2) (h3 : U64 y1) (h4 : U64 y2) : (y1 < x1 ∨ (x1 = y1 ∧ y2 < x2)) ↔ y1 * BB + y2 < x1 * BB + x2 := by
  unfold U64 at *
  unfold BB
  constructor
  · rintro (h | ⟨h, h'⟩) <;> omega
  · intro h; omega
theorem greaterThan_any (x1 x2 y1 y2 : Int) (w : World) (h1 : U64 x1) (h2 : U64 x2) (h3 : U64 y1) (h4 : U64 y2) :
    Calls Tryz.prog 242 #[.int .u64 x1, .int .u64 x2, .int .u64 y1, .int .u64 y2] w fun e w' => e = .returned (.bool (decide (y1 * BB + y2 < x1 * BB + x2))) ∧ w' = w := by
  have hk := gt_words h1 h2 h3 h4
  obtain ⟨B, hB⟩ : ∃ B, decide (y1 * BB + y2 < x1 * BB + x2) = B := ⟨_, rfl⟩
  have HB := Lib.hid hB
  by_cases c1 : y1 < x1
  · have d1 : decide (y1 < x1) = true := by simp [c1]
    have HT : Hid (B = true) := by unfold Hid; rw [← hB]; exact decide_eq_true (hk.1 (Or.inl c1))
    clear hB hk c1
    go_enter Tryz.func242, Tryz.ntmps242
    go_wp2
    go_ret
    exact ⟨by rw [HB.out, HT.out]; rfl, rfl⟩
  · have d1 : decide (y1 < x1) = false := by simp; omega
    by_cases c2 : x1 = y1
    · have d2 : (x1 == y1) = true := by simp [c2]
      by_cases c3 : y2 < x2
      · have d3 : decide (y2 < x2) = true := by simp [c3]
        have HT : Hid (B = true) := by unfold Hid; rw [← hB]; exact decide_eq_true (hk.1 (Or.inr ⟨c2, c3⟩))
        clear hB hk c1 c2 c3
        go_enter Tryz.func242, Tryz.ntmps242
        go_wp2
        go_ret
        exact ⟨by rw [HB.out, HT.out]; rfl, rfl⟩
      · have d3 : decide (y2 < x2) = false := by simp; omega
        have HT : Hid (B = false) := by unfold Hid; rw [← hB]; exact decide_eq_false (fun h => by have := hk.2 h; omega)
        clear hB hk c1 c2 c3
        go_enter Tryz.func242, Tryz.ntmps242
        go_wp2
        go_ret
        exact ⟨by rw [HB.out, HT.out]; rfl, rfl⟩
    · have d2 : (x1 == y1) = false := by simp [c2]
      have HT : Hid (B = false) := by unfold Hid; rw [← hB]; exact decide_eq_false (fun h => by have := hk.2 h; omega)
      clear hB hk c1 c2
      go_enter Tryz.func242, Tryz.ntmps242
      go_wp2
      go_ret
      exact ⟨by rw [HB.out, HT.out]; rfl, rfl⟩
theorem mulWW_any (x y : Int) (w : World) (hx : U64 x) (hy : U64 y) :
    Calls Tryz.prog 212 #[.int .u64 x, .int .u64 y] w (TwoWords (fun hi lo => U64 hi ∧ U64 lo ∧ hi * BB + lo = x * y) w) := by
  have HM := Lib.hid (Mul_any x y w hx hy)
  clear hx hy
  go_enter Tryz.func212, Tryz.ntmps212
  go_wp2_with fail
  refine HM.out.mono ?_
  rintro e w1 ⟨hi, lo, rfl, h, rfl⟩
  have H := Lib.hid h
  clear h
  go_wp2
  go_ret2
  exact ⟨hi, lo, rfl, H.out, rfl⟩
theorem chg_cell' (w : World) (b o : Nat) (v : Value) : Chg (zRow b o 1) w (w.setCell ⟨b, o, none⟩ v) := (Chg.refl _ _).setCell b o v (fun _ => ⟨rfl, by omega, by omega⟩)
set_option maxHeartbeats 4000000 in
theorem sqr_few (az ax : Option Addr) (zl zc n xc : Nat) (X : Nat → Int) (stk : Value) (w : World) (hz : ZOK w az zc) (hx : NatIn w ax n xc X) (hox : Own az zc ax n xc) (hn : 2 ≤ n) (hn12 : n < 12)
    (h5 : w.cell? ⟨5, 0, none⟩ = some (.int .i64 12)) (h6 : w.cell? ⟨6, 0, none⟩ = some (.int .i64 80)) :
    Calls Tryz.prog 163 #[.slice az zl zc, stk, .slice ax n xc] w (NatRes w az zc (val X n * val X n)) := by
  obtain ⟨bx, ox, rfl, hX⟩ := hx.words (by omega)
  have hbx : bx < w.heap.size := lt_of_cell (hX 0 (by omega))
  have HX := Lib.hid hX
  have Hx := Lib.hid hx
  have Hz := Lib.hid hz
  have Ho := Lib.hid hox
  have HK := Lib.hid (And.intro h5 h6)
  have d0 : ((n : Int) == 0) = false := beq_false_of_ne (by omega)
  have d1 : ((n : Int) == 1) = false := beq_false_of_ne (by omega)
  have hzc := hz.cap
  clear hz hx hox hX h5 h6
  obtain ⟨B, hB⟩ : ∃ B, aliasB az zc (some ⟨bx, ox, none⟩) xc = B := ⟨_, rfl⟩
  have HB := Lib.hid hB
  clear hB
  go_enter Tryz.func163, Tryz.ntmps163
  go_wp2_with fail
  refine (alias_any az (some ⟨bx, ox, none⟩) zl zc n xc _ Hz.out.aok Hx.out.aok).mono ?_
  rintro e w1 ⟨rfl, n1, rfl⟩
  rw [HB.out]
  go_upto_if 38 with fail
  go_cut [0] (MulCut w az zc (some ⟨bx, ox, none⟩) n (some ⟨bx, ox, none⟩) n)
  case first =>
    cases B with
    | true =>
      go_wp2
      go_meet
      exact ⟨none, 0, 0, rfl, ⟨n1, rfl⟩, Or.inr ⟨rfl, rfl⟩, disj_none, disj_none⟩
    | false =>
      go_wp2
      go_meet
      exact ⟨az, zl, zc, rfl, ⟨n1, rfl⟩, Or.inl ⟨rfl, rfl⟩, Ho.out.disj Hz.out HB.out, Ho.out.disj Hz.out HB.out⟩
  case rest =>
    obtain ⟨a', l', c', rfl, ⟨k, rfl⟩, HC⟩ := hcut
    have Hz' : Hid (ZOK (w.drewN k) a' c') := by
      rcases HC.out.1 with ⟨rfl, rfl⟩ | ⟨rfl, rfl⟩
      · exact Hz.out
      · exact Or.inl ⟨rfl, rfl⟩
    have s1 : IntKind.i64.wrap (2 * (n : Int)) = 2 * (n : Int) := IntWalk.i64_in _ (by omega)
    go_wp2_with fail
    rw [show (2 * (n : Int)) = ((n + n : Nat) : Int) from by omega]
    refine (make_any a' l' c' (n + n) _ Hz'.out (by omega)).mono ?_
    rintro e w1 ⟨a, c, rfl, h1, h2, h3, h4⟩
    obtain ⟨b, o, rfl, hb1, hroom⟩ := h2.room (by omega)
    have hcap := h2.cap
    have hK5 : w1.cell? ⟨5, 0, none⟩ = some (.int .i64 12) := h4.cell HK.out.1 (fun h => h)
    have hK6 : w1.cell? ⟨6, 0, none⟩ = some (.int .i64 80) := h4.cell HK.out.2 (fun h => h)
    have d2 : decide ((n : Int) < 12) = true := by simp; omega
    have d3 : decide ((n : Int) < 80) = true := by simp; omega
    have H := Lib.hid (And.intro h1 (And.intro h2 (And.intro h3 (And.intro h4 (And.intro hb1 hroom)))))
    have h1' : n + n ≤ c := h1
    clear h1 h2 h3 h4 hroom hb1
    go_wp2_with fail
    refine (basicMul_any bx ox bx ox b o n n xc xc (n + n) c X X w1 (by omega) (by omega) (by omega) (by omega) (HX.out.chg (w := w.drewN k) H.out.2.2.2.1 (fun _ _ h => h)) Hx.out.wf (HX.out.chg (w := w.drewN k) H.out.2.2.2.1 (fun _ _ h => h)) Hx.out.wf (H.out.2.2.2.2.2.le h1') rfl h1'
      (disj_home (w := w.drewN k) H.out.2.2.1 HC.out.2.1 hbx h1') (disj_home (w := w.drewN k) H.out.2.2.1 HC.out.2.2 hbx h1')).mono ?_
    rintro e w2 ⟨⟨v, rfl⟩, Z, q1, q2, q3, q4⟩
    have HQ := Lib.hid (And.intro q1 (And.intro q2 (And.intro q3 q4)))
    clear q1 q2 q3 q4
    go_wp2_with fail
    refine (norm_any (some ⟨b, o, none⟩) (n + n) c Z _ (Or.inr ⟨b, o, rfl, HQ.out.2.1⟩) h1' hcap).mono ?_
    rintro e w3 ⟨i, rfl, n1, n2, n3, rfl⟩
    have HN := Lib.hid (And.intro n1 (And.intro n2 n3))
    clear n1 n2 n3
    go_wp2
    go_ret
    have hnn := natres_close (w := w.drewN k) H.out HQ.out.1 HQ.out.2.1 HQ.out.2.2.1 HQ.out.2.2.2 HN.out.1 HN.out.2.1 HN.out.2.2
    exact natres_nil (n := k) HC.out.1 rfl hnn
set_option maxHeartbeats 4000000 in
theorem sqr_one (az ax : Option Addr) (zl zc xc : Nat) (X : Nat → Int) (stk : Value) (w : World) (hz : ZOK w az zc) (hx : NatIn w ax 1 xc X) :
    Calls Tryz.prog 163 #[.slice az zl zc, stk, .slice ax 1 xc] w (NatRes w az zc (val X 1 * val X 1)) := by
  obtain ⟨bx, ox, rfl, hX⟩ := hx.words (by omega)
  have hc := hX 0 (by omega)
  simp only [Nat.add_zero] at hc
  obtain ⟨x, hxe⟩ : ∃ x, X 0 = x := ⟨_, rfl⟩
  have hxw := hx.wf 0 (by omega)
  rw [hxe] at hc hxw
  have Hxe := Lib.hid hxe
  have HM := Lib.hid (make_any az zl zc 2 w hz (by omega))
  clear hz hx hX hxe
  go_enter Tryz.func163, Tryz.ntmps163
  go_wp2_with fail
  refine HM.out.mono ?_
  rintro e w1 ⟨a, c, rfl, h1, h2, h3, h4⟩
  obtain ⟨b, o, rfl, hb1, hroom⟩ := h2.room (by omega)
  have hcap := h2.cap
  have H := Lib.hid (And.intro h1 (And.intro h2 (And.intro h3 (And.intro h4 (And.intro hb1 hroom)))))
  obtain ⟨⟨y0, hy0⟩, hf0⟩ := hroom 0 (by omega)
  obtain ⟨⟨y1, hy1⟩, hf1⟩ := hroom 1 (by omega)
  simp only [Nat.add_zero] at hy0 hf0
  clear h2 h3 h4 hroom hb1
  have HW := Lib.hid (mulWW_any x x w1 hxw hxw)
  go_wp2_with fail
  refine HW.out.mono ?_
  rintro e w2 ⟨hi, lo, rfl, hm, rfl⟩
  have Hm := Lib.hid hm
  clear hm
  go_wp2_with fail
  have k1 := chg_cell' w1 b (o + 1) (.int .u64 hi)
  have k2 := chg_cell' (w1.setCell ⟨b, o + 1, none⟩ (.int .u64 hi)) b o (.int .u64 lo)
  have HZ : Hid (Words ((w1.setCell ⟨b, o + 1, none⟩ (.int .u64 hi)).setCell ⟨b, o, none⟩ (.int .u64 lo)) b o 2 (fun i => if i = 0 then lo else hi)) := fun i hi2 => by
    by_cases e : i = 0
    · subst e
      show World.cell? _ ⟨b, o, none⟩ = some (.int .u64 lo)
      exact cs_same (k1.cell hy0 (fun h => by have := h.2.1; omega))
    · obtain rfl : i = 1 := by omega
      show World.cell? _ ⟨b, o + 1, none⟩ = some (Value.int .u64 hi)
      exact k2.cell (cs_same hy1) (fun h => by have := h.2.2; omega)
  have HC := Lib.hid (show Chg (zRow b o 2) w1 ((w1.setCell ⟨b, o + 1, none⟩ (.int .u64 hi)).setCell ⟨b, o, none⟩ (.int .u64 lo)) from (k1.mono (fun b' o' _ h => ⟨h.1, by have := h.2.1; omega, by have := h.2.2; omega⟩)).trans k2 (fun b' o' _ h => ⟨h.1, h.2.1, by have := h.2.2; omega⟩))
  have HF : Hid (WF (fun i => if i = 0 then lo else hi) 2) := fun i hi2 => by
    by_cases e : i = 0
    · subst e; exact Hm.out.2.1
    · obtain rfl : i = 1 := by omega
      exact Hm.out.1
  have HV : Hid (val (fun i => if i = 0 then lo else hi) 2 = val X 1 * val X 1) := by
    unfold Hid
    rw [val_one, Hxe.out, ← Hm.out.2.2]
    simp [val, BB_succ]
    rw [Int.mul_comm]; omega
  clear k1 k2
  refine (norm_any (some ⟨b, o, none⟩) 2 c (fun i => if i = 0 then lo else hi) _ (Or.inr ⟨b, o, rfl, HZ.out⟩) h1 hcap).mono ?_
  rintro e w3 ⟨i, rfl, n1, n2, n3, rfl⟩
  have HN := Lib.hid (And.intro n1 (And.intro n2 n3))
  clear n1 n2 n3
  go_wp2
  go_ret
  exact natres_close (w := w) H.out HC.out HZ.out HF.out HV.out HN.out.1 HN.out.2.1 HN.out.2.2
theorem sqr_any (az ax : Option Addr) (zl zc n xc : Nat) (X : Nat → Int) (stk : Value) (w : World) (hz : ZOK w az zc) (hx : NatIn w ax n xc X) (hox : Own az zc ax n xc) (hn12 : n < 12)
    (h5 : w.cell? ⟨5, 0, none⟩ = some (.int .i64 12)) (h6 : w.cell? ⟨6, 0, none⟩ = some (.int .i64 80)) :
    Calls Tryz.prog 163 #[.slice az zl zc, stk, .slice ax n xc] w (NatRes w az zc (val X n * val X n)) := by
  rcases Nat.lt_trichotomy n 1 with h | h | h
  · obtain rfl : n = 0 := by omega
    have Hz := Lib.hid hz
    have hzc := hz.cap
    clear hz hx hox h5 h6
    go_enter Tryz.func163, Tryz.ntmps163
    go_wp2
    go_ret
    exact ⟨az, 0, zc, fun _ => 0, rfl, Nat.zero_le _, Hz.out, Or.inl rfl, fun i hi => by omega, Or.inl rfl, by simp [val], Or.inl ⟨rfl, rfl⟩, Chg.refl _ _⟩
  · subst h
    exact sqr_one az ax zl zc xc X stk w hz hx
  · exact sqr_few az ax zl zc n xc X stk w hz hx hox (by omega) hn12 h5 h6
theorem info122 : (Tryz.prog.info? 122).map (·.size) = some 2 := by kernel_rfl
theorem int_ptr_ne (w : World) {b o b' o' : Nat} (h : PB w b) (h' : PB w b') (hB : ¬ (b = b' ∧ o = o')) :
    (binOp .neq 130 (.pointer (some ⟨b, o, none⟩)) (.pointer (some ⟨b', o', none⟩))).run Tryz.prog w = .ok (.bool true) w := by
  cases hi : Tryz.prog.info? 122 with
  | none => have := info122; rw [hi] at this; cases this
  | some i =>
    have hs : i.size = 2 := by have := info122; rw [hi] at this; simpa using this
    obtain ⟨cs, t, h⟩ := h
    obtain ⟨cs', t', h'⟩ := h'
    have e := run_eql_ptr_other w Tryz.underlying130 hi (by omega) (fun (e : (⟨b, o, none⟩ : Addr) = ⟨b', o', none⟩) => hB (by injection e with e1 e2; exact ⟨e1, e2⟩)) h h'
    simp only [binOp] at e ⊢
    cases hh : (Op.equal 130 (.pointer (some ⟨b, o, none⟩)) (.pointer (some ⟨b', o', none⟩))).run Tryz.prog w with
    | ok v w1 => simp [hh, Result.andThen] at e ⊢; exact ⟨by rw [e.1], e.2⟩
    | _ => simp [hh, Result.andThen] at e
theorem no_zone {b o : Nat} : ¬ zAddr none 0 b o := by rintro ⟨p, e, _⟩; cases e
def SetNew (w : World) (zb zo : Nat) (neg : Bool) (xn : Nat) (X : Nat → Int) (e : Ending) (w' : World) : Prop :=
  ∃ a c, e = .returned (.pointer (some ⟨zb, zo, none⟩)) ∧ IntC w' zb zo neg a xn c ∧ xn ≤ c ∧ ZOK w' a c ∧ Fresh w a ∧ Rd w' a xn X ∧ Chg (zRow zb zo 2) w w'
theorem rd_far {w w' : World} {a : Option Addr} {n : Nat} {X : Nat → Int} {Z : Zone} (h : Rd w a n X) (k : Chg Z w w') (hz : ∀ b o i, a = some ⟨b, o, none⟩ → i < n → ¬ Z b (o + i)) : Rd w' a n X := by
  rcases h with h | ⟨b, o, e, hw⟩
  · exact Or.inl h
  · exact Or.inr ⟨b, o, e, hw.chg k (fun i hi => hz b o i e hi)⟩
theorem fresh_far {w0 : World} {a : Option Addr} {b zb : Nat} (h : Fresh w0 a) (hzb : zb < w0.heap.size) {o : Nat} (e : a = some ⟨b, o, none⟩) : b ≠ zb := by
  rcases h with h | ⟨b', o', h, hb⟩
  · rw [h] at e; cases e
  · rw [h] at e; injection e with e; injection e with e1 _; omega
def SetCut (w : World) (zb zo : Nat) (neg : Bool) (xn : Nat) (X : Nat → Int) (s17 : Value) (wc : World) : Prop :=
  ∃ a c, s17 = .slice a xn c ∧ Hid (IntC wc zb zo neg a xn c ∧ xn ≤ c ∧ ZOK wc a c ∧ Fresh w a ∧ Rd wc a xn X ∧ Chg (zRow zb zo 2) w wc)
theorem setcut_of {w w1 : World} {zb zo xn c : Nat} {zneg : Bool} {a : Option Addr} {X : Nat → Int} (hz : IntC w zb zo zneg none 0 0) (h1 : xn ≤ c) (h2 : ZOK w1 a c) (h3 : Rd w1 a xn X) (h4 : Home w.drew none 0 a c) (h50 : Chg (zAddr none 0) w.drew w1) :
    SetCut w zb zo zneg xn X (.slice a xn c) (w1.setCell ⟨zb, zo + 1, none⟩ (.slice a xn c)) := by
  have hlt := hz.lt
  have h5 : Chg (zAddr none 0) w w1 := ((Chg.refl (zAddr none 0) w).drew).trans h50 (fun _ _ _ h => h)
  have hz1 : IntC w1 zb zo zneg none 0 0 := hz.chg h5 (fun _ _ => no_zone)
  have hf : Fresh w a := by
    rcases h4 with ⟨h, _⟩ | h
    · exact Or.inl h
    · exact Or.inr h
  have k := chg_cell w1 zb (zo + 1) (.slice a xn c)
  refine ⟨a, c, rfl, hz1.abs, h1, h2.chg k ?_, hf, rd_far h3 k ?_, (h5.mono (fun _ _ _ h => (no_zone h).elim)).setCell _ _ _ (fun _ => ⟨rfl, by omega, by omega⟩)⟩
  · rintro b o ⟨p, e, _⟩ hh
    exact fresh_far hf hlt e hh.1
  · rintro b o i e _ hh
    exact fresh_far hf hlt e hh.1
set_option maxHeartbeats 2000000 in
theorem Set_new (zb zo xb xo : Nat) (zneg neg : Bool) (ax : Option Addr) (xn xc : Nat) (X : Nat → Int) (w : World) (hz : IntC w zb zo zneg none 0 0) (hx : IntC w xb xo neg ax xn xc) (hr : Rd w ax xn X) (hxc : xn ≤ xc) (hxn : xn < 1099511627776)
    (hpz : PB w zb) (hpx : PB w xb) (hne : ¬ (zb = xb ∧ zo = xo)) (hsep : ∀ o, o < 2 → ¬ zRow zb zo 2 xb (xo + o)) :
    Calls Tryz.prog 151 #[.pointer (some ⟨zb, zo, none⟩), .pointer (some ⟨xb, xo, none⟩)] w (SetNew w zb zo neg xn X) := by
  have hp := int_ptr_ne w hpz hpx hne
  have hlt := hz.lt
  have HC := Lib.hid (set_any none ax 0 0 xn xc X w.drew (Or.inl ⟨rfl, rfl⟩) hr hxc hxn)
  have HX := Lib.hid hx
  have HZ := Lib.hid hz
  have Hsep := Lib.hid hsep
  obtain ⟨z0, z1, z2, z3⟩ := hz
  obtain ⟨x0, x1, x2, x3⟩ := hx
  clear hr hpz hpx hne hsep
  go_enter Tryz.func151, Tryz.ntmps151
  go_wp2_with fail
  go_cut [17] (fun s17 wc => SetCut w zb zo zneg xn X s17 wc)
  case first =>
    go_region_with (go_at_call 77; go_loud (refine HC.out.mono ?_; rintro e w1 ⟨a, c, rfl, h1, h2, h3, h4, h5⟩; have z1' : w1.cell? ⟨zb, zo + 1, none⟩ = some (.slice none 0 0) := h5.cell z1 no_zone; have z3' : w1.frozen? ⟨zb, zo + 1, none⟩ = false := (h5.frozen z0 _).trans z3; have H := Lib.hid (setcut_of HZ.out h1 h2 h3 h4 h5); clear h1 h2 h3 h4 h5))
    all_goals go_wp2
    all_goals go_meet
    all_goals exact H.out
  case rest =>
    obtain ⟨a, c, rfl, H⟩ := hcut
    clear z0 z1 z2 z3 x0 x1 x2 x3
    have HX1 := Lib.hid (HX.out.chg H.out.2.2.2.2.2 Hsep.out)
    obtain ⟨x0, x1, x2, x3⟩ := HX1.out
    obtain ⟨z0, z1, z2, z3⟩ := H.out.1
    go_wp2
    go_ret
    obtain ⟨q1, q2, q3, q4, q5, q6⟩ := H.out
    have k := chg_cell w zb zo (.bool neg)
    refine ⟨a, c, rfl, q1.sign, q2, q3.chg (chg_cell _ _ _ _) ?_, q4, rd_far q5 (chg_cell _ _ _ _) ?_, q6.setCell _ _ _ (fun _ => ⟨rfl, by omega, by omega⟩)⟩
    · rintro b o ⟨p, e, _⟩ hh
      exact fresh_far q4 hlt e hh.1
    · rintro b o i e _ hh
      exact fresh_far q4 hlt e hh.1
theorem Denom_any (rb : Nat) (neg : Bool) (a : Option Addr) (n c : Nat) (w : World) (hz : IntC w rb 2 neg a n c) (hn : 0 < n) :
    Calls Tryz.prog 85 #[.pointer (some ⟨rb, 0, none⟩)] w fun e w' => e = .returned (.pointer (some ⟨rb, 2, none⟩)) ∧ w = w' := by
  obtain ⟨z0, z1, z2, z3⟩ := hz
  have h1 : ((n : Int) == 0) = false := beq_false_of_ne (by omega)
  go_enter Tryz.func85, Tryz.ntmps85
  go_wp2
  go_ret
  exact ⟨rfl, rfl⟩
end Go.Proofs.YtmgfajamanakcaaGreatDoor
