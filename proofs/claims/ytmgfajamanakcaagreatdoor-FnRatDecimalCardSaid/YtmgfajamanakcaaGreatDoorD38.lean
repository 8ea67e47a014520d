/- Part of the proof of FnParse: what the functions that it reaches do, as contracts. Conditions: those that each theorem names. -/
import Derived.Test.YtmgfajamanakcaaGreatDoorD37
import Derived.Test.YtmgfajamanakcaaGreatDoorD19
import Derived.Deep.DeepCutAuto
import Derived.Deep.CutBlock
import Derived.BigQuiet
import Derived.Test.YtmgfajamanakcaaGreatDoorD16
namespace Go.Proofs.YtmgfajamanakcaaGreatDoor
set_option linter.unusedVariables false
set_option linter.unusedSimpArgs false
open Go Go.RowKit
set_option maxRecDepth 100000
theorem or_low {a x : Int} {r : Nat} (hr : r < 4) (ha : 0 ≤ a ∧ a < 2 ^ (16 * r)) (hx : 0 ≤ x ∧ x < 65536) : bits BinOp.or IntKind.u64 a (IntKind.u64.wrap (x * 2 ^ (16 * r))) = a + x * 2 ^ (16 * r) ∧ a + x * 2 ^ (16 * r) < 2 ^ (16 * (r + 1)) := by
  obtain ⟨m, rfl⟩ : ∃ m : Nat, a = (m : Int) := ⟨a.toNat, by omega⟩
  obtain ⟨k, rfl⟩ : ∃ k : Nat, x = (k : Int) := ⟨x.toNat, by omega⟩
  have hk : k < 65536 := by omega
  obtain rfl | hr0 : r = 0 ∨ 0 < r := by omega
  · have hm : m = 0 := by have := ha.2; simp at this; omega
    subst hm
    have hw : IntKind.u64.wrap ((k : Int) * 2 ^ (16 * 0)) = k := by rw [IntKind.wrap_u64]; simp; omega
    rw [hw]
    refine ⟨?_, by simp; omega⟩
    have h1 : (BitVec.ofInt 64 ((0 : Nat) : Int)).toNat = 0 := by decide
    have h2 : (BitVec.ofInt 64 (k : Int)).toNat = k := by rw [BitVec.toNat_ofInt]; omega
    show IntKind.u64.wrap ((BitVec.ofInt 64 ((0 : Nat) : Int) ||| BitVec.ofInt 64 (k : Int)).toNat : Int) = _
    rw [BitVec.toNat_or, h1, h2, Nat.zero_or, IntKind.wrap_u64]
    simp; omega
  · have h16 : 16 * r = 64 - (64 - 16 * r) := by omega
    have hs : 64 - 16 * r < 64 := by omega
    have hb : k < 2 ^ (64 - 16 * r) := by
      obtain rfl | rfl | rfl : r = 1 ∨ r = 2 ∨ r = 3 := by omega
      all_goals (simp; omega)
    have ha' : m < 2 ^ (64 - (64 - 16 * r)) := by
      rw [← h16]
      have := ha.2
      have e : ((2 ^ (16 * r) : Nat) : Int) = 2 ^ (16 * r) := by push_cast; rfl
      omega
    have e := or_nat m k (64 - 16 * r) ha' hs hb
    have hw := wrap_shl k (64 - 16 * r) hs
    rw [← h16] at hw e
    rw [Nat.mod_eq_of_lt hb] at hw
    rw [hw, e]
    refine ⟨by push_cast; rfl, ?_⟩
    have e1 : (2 : Int) ^ (16 * (r + 1)) = 2 ^ (16 * r) * 65536 := by rw [show 16 * (r + 1) = 16 * r + 16 by omega, Int.pow_add]; rfl
    have hp : (0 : Int) < 2 ^ (16 * r) := Int.pow_pos (by decide)
    rw [e1]
    have := Int.mul_le_mul_of_nonneg_right (show (k : Int) ≤ 65535 by omega) (Int.le_of_lt hp)
    have := ha.2
    push_cast
    omega
theorem run_shl64 (x : Int) (s : Nat) (w : World) (hs : s < 64) : (Op.shift BinOp.shl IntKind.u64 x IntKind.i64 (s : Int)).run Tryz.prog w = .ok (.int .u64 (IntKind.u64.wrap (x * 2 ^ s))) w := by
  unfold Op.shift
  rw [if_neg (by omega)]
  have e : min (s : Int).toNat IntKind.u64.bits = s := by
    show min (s : Int).toNat 64 = s
    omega
  simp only [e]
  rfl
structure WIn (A : Nat → Int) (i m : Nat) (W : Nat → Int) : Prop where
  hm : m = (i + 3) / 4
  wf : WF W m
  vl : val W m = vs A i
theorem SB_four (k : Nat) : SB ^ (4 * k) = BB ^ k := by
  rw [Int.pow_mul]
  rfl
theorem WIn.top {A : Nat → Int} {i m : Nat} {W : Nat → Int} (h : WIn A i m W) (hA : DF A i) (hr : i % 4 ≠ 0) : m = i / 4 + 1 ∧ 0 ≤ W (i / 4) ∧ W (i / 4) < 2 ^ (16 * (i % 4)) := by
  obtain ⟨h1, h2, h3⟩ := h
  have hm : m = i / 4 + 1 := by omega
  subst hm
  refine ⟨rfl, (h2 (i / 4) (by omega)).1, ?_⟩
  have e : val W (i / 4 + 1) = val W (i / 4) + BB ^ (i / 4) * W (i / 4) := by rw [val_add, val_one]; rfl
  have hv := vs_lt hA
  have h0 := val_nonneg (h2.le (show i / 4 ≤ i / 4 + 1 by omega))
  have hb := BBn_pos (i / 4)
  have e2 : SB ^ i = BB ^ (i / 4) * 2 ^ (16 * (i % 4)) := by
    rw [← SB_four, ← Si.SB_pow, ← Int.pow_add]
    congr 1
    omega
  rcases Int.lt_or_le (W (i / 4)) (2 ^ (16 * (i % 4))) with g | g
  · exact g
  · exfalso
    have := Int.mul_le_mul_of_nonneg_left g (Int.le_of_lt hb)
    rw [← e2] at this
    omega
theorem WIn.zero {A : Nat → Int} {i m : Nat} {W : Nat → Int} (h : WIn A i m W) (hr : i % 4 = 0) : m = i / 4 ∧ WF (upd W m 0) (m + 1) ∧ val (upd W m 0) (m + 1) = vs A i := by
  obtain ⟨h1, h2, h3⟩ := h
  have hm : m = i / 4 := by omega
  refine ⟨hm, ?_, ?_⟩
  · intro j hj
    by_cases hjm : j = m
    · subst hjm; rw [upd_same]; exact ⟨by omega, by omega⟩
    · rw [upd_other _ _ hjm]; exact h2 j (by omega)
  · rw [val_add, val_one, val_congr (X := upd W m 0) (Y := W) (fun j hj => upd_other _ _ (by omega)), h3]
    show vs A i + BB ^ m * upd W m 0 m = _
    rw [upd_same]
    omega
theorem WIn.put {A : Nat → Int} {i : Nat} {W : Nat → Int} {y : Int} (hw : WF W (i / 4 + 1)) (hv : val W (i / 4 + 1) = vs A i) (hy : y = W (i / 4) + A i * 2 ^ (16 * (i % 4))) (hy1 : 0 ≤ y) (hy2 : y < 18446744073709551616) : WIn A (i + 1) (i / 4 + 1) (upd W (i / 4) y) := by
  refine ⟨by omega, ?_, ?_⟩
  · intro j hj
    by_cases hjm : j = i / 4
    · subst hjm; rw [upd_same]; exact ⟨hy1, hy2⟩
    · rw [upd_other _ _ hjm]; exact hw j hj
  · have e1 : val W (i / 4 + 1) = val W (i / 4) + BB ^ (i / 4) * W (i / 4) := by rw [val_add, val_one]; rfl
    have e2 : val (upd W (i / 4) y) (i / 4 + 1) = val W (i / 4) + BB ^ (i / 4) * y := by
      rw [val_add, val_one, val_congr (X := upd W (i / 4) y) (Y := W) (fun j hj => upd_other _ _ (by omega))]
      show val W (i / 4) + BB ^ (i / 4) * upd W (i / 4) y (i / 4) = _
      rw [upd_same]
    have e3 : SB ^ i = BB ^ (i / 4) * 2 ^ (16 * (i % 4)) := by
      rw [← SB_four, ← Si.SB_pow, ← Int.pow_add]
      congr 1
      omega
    rw [e2, hy, Int.mul_add]
    simp only [vs]
    rw [← hv, e1, e3]
    generalize BB ^ (i / 4) = b
    generalize (2 : Int) ^ (16 * (i % 4)) = t
    rw [← Int.mul_assoc, Int.mul_comm b (A i), Int.mul_assoc]
    omega
def WordsP (w : World) (V : Int) (e : Ending) (w' : World) : Prop :=
  ∃ b m d W, e = .returned (.slice b m d) ∧ m ≤ d ∧ Rd w' b m W ∧ WF W m ∧ Norm W m ∧ val W m = V ∧ m < 1048576 ∧ Chg zNone w w'
def SWRel (w : World) (A : Nat → Int) (n : Nat) (gk : Nat) (s3 s9 : Value) (wc : World) : Prop :=
  ∃ (i m : Nat) (a : Option Addr) (c : Nat) (W : Nat → Int), s3 = .slice a m c ∧ s9 = .int .i64 (i : Int) ∧ i + gk = n ∧ Hid (m ≤ c ∧ ZOK wc a c ∧ Fresh w a ∧ Rd wc a m W ∧ WIn A i m W ∧ Chg zNone w wc)
def SWMid (w : World) (A : Nat → Int) (i : Nat) (s3 : Value) (wc : World) : Prop :=
  ∃ (b o c : Nat) (W : Nat → Int), s3 = .slice (some ⟨b, o, none⟩) (i / 4 + 1) c ∧ Hid (i / 4 + 1 ≤ c ∧ ZOK wc (some ⟨b, o, none⟩) c ∧ w.heap.size ≤ b ∧ Words wc b o (i / 4 + 1) W ∧ WF W (i / 4 + 1) ∧ val W (i / 4 + 1) = vs A i ∧ W (i / 4) < 2 ^ (16 * (i % 4)) ∧ Chg zNone w wc)
theorem put_word {w wc : World} {A W2 : Nat → Int} {i j r s L b o c2 : Nat} {x y v : Int} (hL : i / 4 + 1 = L) (hj : i / 4 = j) (hr : i % 4 = r) (hx : A i = x) (hs : 16 * r = s) (hy : W2 (i / 4) = y) (hv : y + x * 2 ^ s = v) (hv0 : 0 ≤ v) (hv1 : v < 2 ^ (16 * (r + 1))) (hr4 : r < 4)
    (HM : i / 4 + 1 ≤ c2 ∧ ZOK wc (some ⟨b, o, none⟩) c2 ∧ w.heap.size ≤ b ∧ Words wc b o (i / 4 + 1) W2 ∧ WF W2 (i / 4 + 1) ∧ val W2 (i / 4 + 1) = vs A i ∧ W2 (i / 4) < 2 ^ (16 * (i % 4)) ∧ Chg zNone w wc) :
    Hid (L ≤ c2 ∧ ZOK (wc.drew.setCell ⟨b, o + j, none⟩ (.int .u64 v)) (some ⟨b, o, none⟩) c2 ∧ Fresh w (some ⟨b, o, none⟩) ∧ Rd (wc.drew.setCell ⟨b, o + j, none⟩ (.int .u64 v)) (some ⟨b, o, none⟩) L (upd W2 j v) ∧ WIn A (i + 1) L (upd W2 j v) ∧ Chg zNone w (wc.drew.setCell ⟨b, o + j, none⟩ (.int .u64 v))) := by
  subst hL; subst hj; subst hr; subst hx; subst hs; subst hy
  obtain ⟨g1, g2, g3, g4, g5, g6, g7, g8⟩ := HM
  have kd : Chg zNone wc wc.drew := (Chg.refl _ _).drew
  have hv2 : v < 18446744073709551616 := by
    have h1 : (2 : Int) ^ (16 * (i % 4 + 1)) ≤ 2 ^ 64 := ipow_le (by decide) (by omega)
    have h2 : (2 : Int) ^ 64 = 18446744073709551616 := by decide
    omega
  refine ⟨g1, ZOK.setInt (g2.chg kd (fun _ _ _ h => h)) _ _ _, Or.inr ⟨_, _, rfl, g3⟩, Or.inr ⟨b, o, rfl, fun q hq => ?_⟩, WIn.put g5 g6 hv.symm hv0 hv2, (g8.trans kd (fun _ _ _ h => h)).setCell b _ _ (fun hb => absurd hb (by omega))⟩
  by_cases hqj : q = i / 4
  · subst hqj
    rw [upd_same]
    exact cs_same (kd.cell (g4 (i / 4) (by omega)) (fun h => h))
  · rw [upd_other _ _ hqj, cs_other (by omega)]
    exact kd.cell (g4 q hq) (fun h => h)
set_option maxHeartbeats 4000000 in
theorem words_any (a : Option Addr) (n c : Nat) (V : Int) (w : World) (h : Si.NatV w a n c V) (hn : n < 1048576) :
    Calls Tryz.prog 94 #[.slice a n c] w (WordsP w V) := by
  obtain ⟨l1, z1, A, r1, f1, t1, rfl⟩ := h
  have HA := Lib.hid (And.intro r1 (And.intro f1 t1))
  clear r1 f1 t1 z1
  go_enter Tryz.func94, Tryz.ntmps94
  go_wp2_with fail
  go_loopg [3, 4, 5, 9] n (fun gk s3 s4 s5 s9 wc => SWRel w A n gk s3 s9 wc)
  case atStart =>
    have kal : Chg zNone w (w.alloc (.cells #[] 22)) := (Chg.refl _ _).alloc _
    refine ⟨0, 0, _, 0, fun _ => 0, rfl, rfl, by omega, Nat.le_refl _, Or.inr ⟨_, _, rfl, PB.new w _ _, fun i hi => by omega, by omega⟩, Or.inr ⟨_, _, rfl, Nat.le_refl _⟩, Or.inl rfl, ⟨rfl, fun i hi => by omega, by simp [val, vs]⟩, kal⟩
  case round =>
    obtain ⟨i, m, a', c', W, rfl, rfl, hk, H⟩ := hrel
    by_cases hi : i < n
    · have h1 : decide ((i : Int) < (n : Int)) = true := decide_eq_true (by omega)
      have h2 : (0 : Int) ≤ (i : Int) := by omega
      have h3 : (i : Int) < (n : Int) := by omega
      have e1 : (i : Int).tmod 4 = ((i % 4 : Nat) : Int) := by rw [Int.tmod_eq_emod_of_nonneg (by omega)]; omega
      have e2 : (i : Int).tdiv 4 = ((i / 4 : Nat) : Int) := by rw [Int.tdiv_eq_ediv_of_nonneg (by omega)]; omega
      obtain ⟨r, hr⟩ : ∃ r, i % 4 = r := ⟨_, rfl⟩
      obtain ⟨j, hj⟩ : ∃ j, i / 4 = j := ⟨_, rfl⟩
      rw [hr] at e1
      rw [hj] at e2
      have hr4 : r < 4 := by omega
      obtain ⟨bx, ox, rfl, hcell⟩ := (HA.out.1.chg H.out.2.2.2.2.2 (fun _ _ _ _ _ h => h)).at hi
      have hx := HA.out.2.1 i hi
      obtain ⟨x, hxx⟩ : ∃ x, A i = x := ⟨_, rfl⟩
      rw [hxx] at hcell hx
      obtain ⟨hx0, hx1⟩ := hx
      have HX := Lib.hid (And.intro hr (And.intro hj hxx))
      clear hr hj hxx
      go_upto_if 16 with fail
      go_cut [3] (fun s3 wc => SWMid w A i s3 wc)
      case first => as_aux_lemma =>
        by_cases h0 : r = 0
        · have d1 : (((r : Nat) : Int) == 0) = true := by simp [h0]
          have HZ := Lib.hid (H.out.2.2.2.2.1.zero (by rw [HX.out.1]; exact h0))
          have kal : Chg zNone wr (wr.alloc (.cells #[.int .u64 0] 22)) := (Chg.refl _ _).alloc _
          have HXX := Lib.hid (show ZOK (wr.alloc (.cells #[.int .u64 0] 22)) a' c' ∧ Rd (wr.alloc (.cells #[.int .u64 0] 22)) a' m W ∧ (wr.alloc (.cells #[.int .u64 0] 22)).cell? ⟨wr.heap.size, 0, none⟩ = some (.int .u64 0) from
            ⟨H.out.2.1.chg kal (fun _ _ _ h => h), rd_far H.out.2.2.2.1 kal (fun _ _ _ _ _ h => h), cell?_alloc_new wr #[.int .u64 0] 22 0 (.int .u64 0) rfl⟩)
          have HK := Lib.hid (H.out.2.2.2.2.2.trans kal (fun _ _ _ h => h))
          have x3 := H.out.1
          have x4 : m < 1099511627776 := by have := HZ.out.1; have := HX.out.2.1; omega
          have H0 := Lib.hid h0
          clear kal h0
          go_wp2_with (refine wpList_append_uint rfl (.tmp 17) (.tmp 18) rfl a' m c' W _ _ rfl rfl HXX.out.1 HXX.out.2.1 x3 x4 HXX.out.2.2 ?_; rintro a2 c2 w2 h2; have H2 := Lib.hid h2; clear h2)
          go_meet
          obtain ⟨g1, g2, g3, g4, g5⟩ := H2.out
          obtain ⟨q1, q2, q3⟩ := HZ.out
          subst q1
          rcases g3 with g3 | ⟨b2, o2, e, hw⟩
          · omega
          · subst e
            refine ⟨b2, o2, c2, _, rfl, g1, g2, ?_, hw, q2, q3, ?_, HK.out.trans g5 ?_⟩
            · rcases fresh_home H.out.2.2.1 g4 HK.out.size with e | ⟨b3, o3, e, hb⟩
              · cases e
              · injection e with e; injection e with e3 _; omega
            · rw [upd_same, HX.out.1, H0.out]; decide
            · rintro b' o' hb ⟨p, e, _⟩
              exact (fresh_far H.out.2.2.1 hb e rfl).elim
        · have d1 : (((r : Nat) : Int) == 0) = false := by simp; omega
          have HT := Lib.hid (H.out.2.2.2.2.1.top (fun q hq => HA.out.2.1 q (by omega)) (by rw [HX.out.1]; exact h0))
          clear h0
          go_wp2
          go_meet
          obtain ⟨q1, q2, q3⟩ := HT.out
          subst q1
          obtain ⟨g1, g2, g3, g4, g5, g6⟩ := H.out
          rcases g4 with g4 | ⟨b2, o2, e, hw⟩
          · omega
          · subst e
            refine ⟨b2, o2, c', W, rfl, g1, g2, ?_, hw, g5.wf, g5.vl, q3, g6⟩
            rcases g3 with e | ⟨b3, o3, e, hb⟩
            · cases e
            · injection e with e; injection e with e3 _; omega
      case rest => as_aux_lemma =>
        obtain ⟨b, o, c2, W2, rfl, HM⟩ := hcut
        have hwf := HM.out.2.2.2.2.1 (i / 4) (by omega)
        have hlt := HM.out.2.2.2.2.2.2.1
        have hcl := HM.out.2.2.2.1 (i / 4) (by omega)
        obtain ⟨y, hy⟩ : ∃ y, W2 (i / 4) = y := ⟨_, rfl⟩
        rw [hy] at hwf hlt hcl
        rw [HX.out.1] at hlt
        have hor := or_low hr4 ⟨hwf.1, hlt⟩ ⟨hx0, hx1⟩
        rw [HX.out.2.1] at hcl
        have hfr : wc.frozen? ⟨b, o + j, none⟩ = false := by
          obtain ⟨_, hz, _⟩ := HM.out
          rcases hz with ⟨e, _⟩ | ⟨b3, o3, e, _, hroom, _⟩
          · cases e
          · injection e with e; injection e with e3 e4; subst e3; subst e4
            exact (hroom j (by have := HX.out.2.1; omega)).2
        obtain ⟨s, hs⟩ : ∃ s, 16 * r = s := ⟨_, rfl⟩
        have e3 : 16 * ((r : Nat) : Int) = (s : Int) := by omega
        have hs64 : s < 64 := by omega
        have s0 : ¬ ((s : Int) < 0) := by omega
        rw [hs] at hor
        obtain ⟨v, hv⟩ : ∃ v, y + x * 2 ^ s = v := ⟨_, rfl⟩
        rw [hv] at hor
        have HV := Lib.hid (And.intro hor.2 (And.intro hv (And.intro hs (And.intro hy hwf))))
        have hv0 : 0 ≤ v := by
          rw [← hv]
          have : (0 : Int) < 2 ^ s := Int.pow_pos (by decide)
          have := Int.mul_nonneg hx0 (Int.le_of_lt this)
          have := hwf.1
          omega
        have ej := hor.1
        have j0 : (0 : Int) ≤ (j : Int) := by omega
        have j1 : (j : Int) < ((i / 4 + 1 : Nat) : Int) := by have := HX.out.2.1; omega
        have wj : IntKind.i64.wrap (j : Int) = j := IntWalk.i64_in _ (by have := HX.out.2.1; omega)
        have wx : IntKind.u64.wrap x = x := by rw [IntKind.wrap_u64]; omega
        have ws : IntKind.i64.wrap (s : Int) = s := IntWalk.i64_in _ (by omega)
        have hsh : ∀ w9 : World, (Op.shift BinOp.shl IntKind.u64 x IntKind.i64 (s : Int)).run Tryz.prog w9 = .ok (.int .u64 (IntKind.u64.wrap (x * 2 ^ s))) w9 := fun w9 => run_shl64 x s w9 hs64
        obtain ⟨L, hL⟩ : ∃ L, i / 4 + 1 = L := ⟨_, rfl⟩
        have HLL := Lib.hid hL
        rw [hL] at j1 ⊢
        have wv : 0 ≤ v := hv0
        clear hor hv hs hy hlt hL hv0
        go_wp2_with fail
        refine wp_region_noPanic ?_
        refine wp_region_any (by kernel_rfl) ?_
        change wpAny _ _ _ _ _ _ _ (World.drew _)
        refine wpAny_take (i := 0) (v := ?_) rfl (by kernel_rfl) (by kernel_rfl) (by kernel_rfl) (fun _ _ _ h => False.elim h) (Or.inl ⟨by rfl, ?_⟩) ?_
        rotate_left 1
        · intro w9
          go_simp
          try with_reducible rfl
        try simp only [Act.put, List.getElem_toArray, List.getElem_cons_zero, List.getElem_cons_succ, List.setIfInBounds_toArray, List.set_cons_zero, List.set_cons_succ]
        refine wpAny_take (i := 1) (v := ?_) rfl (by kernel_rfl) (by kernel_rfl) (by kernel_rfl) (fun _ _ _ h => False.elim h) (Or.inl ⟨by rfl, ?_⟩) ?_
        rotate_left 1
        · intro w9
          go_simp
          try with_reducible rfl
        try simp only [Act.put, List.getElem_toArray, List.getElem_cons_zero, List.getElem_cons_succ, List.setIfInBounds_toArray, List.set_cons_zero, List.set_cons_succ]
        refine wpAny_take (i := 2) (v := ?_) rfl (by kernel_rfl) (by kernel_rfl) (by kernel_rfl) (fun _ _ _ h => False.elim h) (Or.inl ⟨by rfl, ?_⟩) ?_
        rotate_left 1
        · intro w9
          go_simp
          try with_reducible rfl
        try simp only [Act.put, List.getElem_toArray, List.getElem_cons_zero, List.getElem_cons_succ, List.setIfInBounds_toArray, List.set_cons_zero, List.set_cons_succ]
        refine wpAny_take (i := 3) (v := ?_) rfl (by kernel_rfl) (by kernel_rfl) (by kernel_rfl) (fun _ _ _ h => False.elim h) (Or.inl ⟨by rfl, ?_⟩) ?_
        rotate_left 1
        · intro w9
          go_simp
          try with_reducible rfl
        try simp only [Act.put, List.getElem_toArray, List.getElem_cons_zero, List.getElem_cons_succ, List.setIfInBounds_toArray, List.set_cons_zero, List.set_cons_succ]
        refine wpAny_take (i := 5) (v := ?_) rfl (by kernel_rfl) (by kernel_rfl) (by kernel_rfl) (fun _ _ _ h => False.elim h) (Or.inl ⟨by rfl, ?_⟩) ?_
        rotate_left 1
        · intro w9
          go_simp
          try with_reducible rfl
        try simp only [Act.put, List.getElem_toArray, List.getElem_cons_zero, List.getElem_cons_succ, List.setIfInBounds_toArray, List.set_cons_zero, List.set_cons_succ]
        refine wpAny_take (i := 6) (v := ?_) rfl (by kernel_rfl) (by kernel_rfl) (by kernel_rfl) (fun _ _ _ h => False.elim h) (Or.inl ⟨by rfl, ?_⟩) ?_
        rotate_left 1
        · intro w9
          go_simp
          try with_reducible rfl
        try simp only [Act.put, List.getElem_toArray, List.getElem_cons_zero, List.getElem_cons_succ, List.setIfInBounds_toArray, List.set_cons_zero, List.set_cons_succ]
        refine wpAny_take (i := 7) (v := ?_) rfl (by kernel_rfl) (by kernel_rfl) (by kernel_rfl) (fun _ _ _ h => False.elim h) (Or.inl ⟨by rfl, ?_⟩) ?_
        rotate_left 1
        · intro w9
          go_simp
          try with_reducible rfl
        try simp only [Act.put, List.getElem_toArray, List.getElem_cons_zero, List.getElem_cons_succ, List.setIfInBounds_toArray, List.set_cons_zero, List.set_cons_succ]
        refine wpAny_take (i := 8) (v := ?_) rfl (by kernel_rfl) (by kernel_rfl) (by kernel_rfl) (fun _ _ _ h => False.elim h) (Or.inl ⟨by rfl, ?_⟩) ?_
        rotate_left 1
        · intro w9
          go_simp
          try with_reducible rfl
        try simp only [Act.put, List.getElem_toArray, List.getElem_cons_zero, List.getElem_cons_succ, List.setIfInBounds_toArray, List.set_cons_zero, List.set_cons_succ]
        refine wpAny_take (i := 9) (v := ?_) rfl (by kernel_rfl) (by kernel_rfl) (by kernel_rfl) (fun _ _ _ h => False.elim h) (Or.inl ⟨by rfl, ?_⟩) ?_
        rotate_left 1
        · intro w9
          go_simp
          try with_reducible rfl
        try simp only [Act.put, List.getElem_toArray, List.getElem_cons_zero, List.getElem_cons_succ, List.setIfInBounds_toArray, List.set_cons_zero, List.set_cons_succ]
        refine wpAny_take (i := 10) (v := ?_) rfl (by kernel_rfl) (by kernel_rfl) (by kernel_rfl) (fun _ _ _ h => False.elim h) (Or.inl ⟨by rfl, ?_⟩) ?_
        rotate_left 1
        · intro w9
          go_simp
          try with_reducible rfl
        try simp only [Act.put, List.getElem_toArray, List.getElem_cons_zero, List.getElem_cons_succ, List.setIfInBounds_toArray, List.set_cons_zero, List.set_cons_succ]
        refine wpAny_ready (rs := [4]) (by kernel_rfl) (by simp) ?_
        refine AllReady.cons rfl (fun K hK => ?_) AllReady.nil
        go_simp
        refine hK _ _ ?_
        clear hK K
        try simp only [Act.put, List.getElem_toArray, List.getElem_cons_zero, List.getElem_cons_succ, List.setIfInBounds_toArray, List.set_cons_zero, List.set_cons_succ]
        refine wpAny_take (i := 11) (v := ?_) rfl (by kernel_rfl) (by kernel_rfl) (by kernel_rfl) (fun _ _ _ h => False.elim h) (Or.inl ⟨by rfl, ?_⟩) ?_
        rotate_left 1
        · intro w9
          go_simp
          try with_reducible rfl
        try simp only [Act.put, List.getElem_toArray, List.getElem_cons_zero, List.getElem_cons_succ, List.setIfInBounds_toArray, List.set_cons_zero, List.set_cons_succ]
        refine wpAny_take (i := 12) (v := ?_) rfl (by kernel_rfl) (by kernel_rfl) (by kernel_rfl) (fun _ _ _ h => False.elim h) (Or.inl ⟨by rfl, ?_⟩) ?_
        rotate_left 1
        · intro w9
          go_simp
          try with_reducible rfl
        try simp only [Act.put, List.getElem_toArray, List.getElem_cons_zero, List.getElem_cons_succ, List.setIfInBounds_toArray, List.set_cons_zero, List.set_cons_succ]
        refine wpAny_ready (rs := [13]) (by kernel_rfl) (by simp) ?_
        refine AllReady.cons rfl (fun K hK => ?_) AllReady.nil
        go_simp
        refine hK _ _ ?_
        clear hK K
        try simp only [Act.put, List.getElem_toArray, List.getElem_cons_zero, List.getElem_cons_succ, List.setIfInBounds_toArray, List.set_cons_zero, List.set_cons_succ]
        refine wpAny_done (by kernel_rfl) ?_ _
        refine NoPanic.normal ?_
        go_wp2
        go_roundg (gk - 1)
        case measure => omega
        case rel => exact ⟨i + 1, _, _, c2, _, rfl, by go_num, by omega, put_word HLL.out HX.out.2.1 HX.out.1 HX.out.2.2 HV.out.2.2.1 HV.out.2.2.2.1 HV.out.2.1 wv HV.out.1 hr4 HM.out⟩
    · have h1 : decide ((i : Int) < (n : Int)) = false := decide_eq_false (by omega)
      obtain rfl : i = n := by omega
      go_wp2
      go_ret
      obtain ⟨g1, g2, g3, g4, g5, g6⟩ := H.out
      refine ⟨a', m, c', W, rfl, g1, g4, g5.wf, ?_, g5.vl, by have := g5.hm; omega, g6⟩
      rcases Nat.eq_zero_or_pos m with h0 | h0
      · exact Or.inl h0
      · right
        intro hz
        have hi0 : 0 < i := by have := g5.hm; omega
        have e : val W m = val W (m - 1) := by
          obtain ⟨k, rfl⟩ : ∃ k, m = k + 1 := ⟨m - 1, by omega⟩
          rw [val_add, val_one]
          show val W k + BB ^ k * W k = _
          rw [Nat.add_sub_cancel] at hz ⊢
          rw [hz, Int.mul_zero, Int.add_zero]
        have h1 := val_lt (g5.wf.le (show m - 1 ≤ m by omega))
        have h2 := vs_ge HA.out.2.1 HA.out.2.2 hi0
        rw [← e, g5.vl, ← SB_four] at h1
        have h3 := SB_mono (show 4 * (m - 1) ≤ i - 1 by have := g5.hm; omega)
        omega
theorem val_inj {X Y : Nat → Int} {n : Nat} (hX : WF X n) (hY : WF Y n) (h : val X n = val Y n) : ∀ i, i < n → X i = Y i := by
  induction n with
  | zero => intro i hi; omega
  | succ n ih =>
    have a := val_lt (hX.le (show n ≤ n + 1 by omega))
    have b := val_lt (hY.le (show n ≤ n + 1 by omega))
    have a0 := val_nonneg (hX.le (show n ≤ n + 1 by omega))
    have b0 := val_nonneg (hY.le (show n ≤ n + 1 by omega))
    have hp := BBn_pos n
    have e1 : val X (n + 1) = val X n + BB ^ n * X n := by rw [val_add, val_one]; rfl
    have e2 : val Y (n + 1) = val Y n + BB ^ n * Y n := by rw [val_add, val_one]; rfl
    rw [e1, e2] at h
    have hq : X n = Y n := by
      have q1 : (val X n + BB ^ n * X n) / BB ^ n = X n := by rw [Int.add_mul_ediv_left _ _ (by omega), Int.ediv_eq_zero_of_lt a0 a, Int.zero_add]
      have q2 : (val Y n + BB ^ n * Y n) / BB ^ n = Y n := by rw [Int.add_mul_ediv_left _ _ (by omega), Int.ediv_eq_zero_of_lt b0 b, Int.zero_add]
      rw [← q1, ← q2, h]
    rw [hq] at h
    intro i hi
    by_cases hin : i = n
    · subst hin; exact hq
    · exact ih (hX.le (by omega)) (hY.le (by omega)) (by omega) i (by omega)
theorem val_same {X Y : Nat → Int} {n m : Nat} (hX : WF X n) (hY : WF Y m) (nX : Norm X n) (nY : Norm Y m) (h : val X n = val Y m) : n = m ∧ ∀ i, i < n → X i = Y i := by
  have e : n = m := by
    rcases Nat.lt_trichotomy n m with g | g | g
    · have := val_lt_of_len hX hY nY g; omega
    · exact g
    · have := val_lt_of_len hY hX nX g; omega
  subst e
  exact ⟨rfl, val_inj hX hY h⟩
theorem rd_at {w : World} {a : Option Addr} {n i : Nat} {X : Nat → Int} (h : Rd w a n X) (hi : i < n) : ∃ b o, a = some ⟨b, o, none⟩ ∧ w.cell? ⟨b, o + i, none⟩ = some (.int .u64 (X i)) := by
  rcases h with h | ⟨b, o, e, hw⟩
  · omega
  · exact ⟨b, o, e, hw i hi⟩
def HWP (w : World) (U : Nat → Int) (un : Nat) (V : Int) (e : Ending) (w' : World) : Prop := ∃ r, e = .returned (.bool r) ∧ (r = true ↔ (Norm U un ∧ val U un = V)) ∧ Chg zNone w w'
set_option maxHeartbeats 2000000 in
theorem haswords_any (ua : Option Addr) (un uc : Nat) (U : Nat → Int) (a : Option Addr) (n c : Nat) (V : Int) (w : World) (hu : Rd w ua un U) (hU : WF U un) (hun : un < 1048576) (h : Si.NatV w a n c V) (hn : n < 1048576) :
    Calls Tryz.prog 49 #[.slice ua un uc, .slice a n c] w (HWP w U un V) := by
  have HWd := Lib.hid (words_any a n c V w h hn)
  have HU := Lib.hid (And.intro hu hU)
  clear hu hU h
  go_enter Tryz.func49, Tryz.ntmps49
  go_wp2_with fail
  refine HWd.out.mono ?_
  rintro e w1 ⟨b, m, d, W, rfl, g1, g2, g3, g4, g5, g6, g7⟩
  have HR : Hid (Rd w1 ua un U) := rd_far HU.out.1 g7 (fun _ _ _ _ _ h => h)
  have HB := Lib.hid (And.intro g2 (And.intro g3 (And.intro g4 (And.intro g5 g7))))
  clear g1 g2 g3 g4 g5 g7
  by_cases hl : un = m
  · subst hl
    have d1 : ((un : Int) != (un : Int)) = false := by simp
    have d1' : (un != un) = false := by simp
    go_wp2_with fail
    go_loopg [6, 16] un (fun gk s6 s16 wc => ∃ i : Nat, s16 = .int .i64 (i : Int) ∧ i + gk = un ∧ Hid ((∀ j, j < i → U j = W j) ∧ ∃ N, wc = w1.drewN N))
    case atStart => exact ⟨0, rfl, by omega, fun j hj => by omega, 0, rfl⟩
    case round =>
      obtain ⟨i, rfl, hk, H⟩ := hrel
      obtain ⟨N, hN⟩ := H.out.2
      subst hN
      by_cases hi : i < un
      · have h1 : decide ((i : Int) < (un : Int)) = true := decide_eq_true (by omega)
        have h2 : (0 : Int) ≤ (i : Int) := by omega
        have h3 : (i : Int) < (un : Int) := by omega
        obtain ⟨ba, oa, rfl, hca⟩ := rd_at HR.out hi
        obtain ⟨bb, ob, rfl, hcb⟩ := rd_at HB.out.1 hi
        obtain ⟨x, hx⟩ : ∃ x, U i = x := ⟨_, rfl⟩
        obtain ⟨y, hy⟩ : ∃ x, W i = x := ⟨_, rfl⟩
        rw [hx] at hca
        rw [hy] at hcb
        have HXY := Lib.hid (And.intro hx hy)
        clear hx hy
        by_cases hxy : x = y
        · have d2 : (x != y) = false := by simp [hxy]
          have HE := Lib.hid hxy
          clear hxy
          go_wp2_with fail
          go_quiet (fail)
          go_wp2
          go_roundg (gk - 1)
          case measure => omega
          case rel =>
            refine ⟨i + 1, by go_num, by omega, fun j hj => ?_, by (try simp only [World.drewN_drewN]); exact ⟨_, rfl⟩⟩
            by_cases e : j = i
            · rw [e, HXY.out.1, HXY.out.2, HE.out]
            · exact H.out.1 j (by omega)
        · have d2 : (x != y) = true := by simp [hxy]
          have HE := Lib.hid hxy
          clear hxy
          go_wp2_with fail
          go_quiet (fail)
          go_wp2
          go_ret
          refine ⟨false, rfl, ⟨(fun h => by cases h), fun hh => ?_⟩, ?_⟩
          · exfalso
            have := (val_same HU.out.2 HB.out.2.1 hh.1 HB.out.2.2.1 (by rw [hh.2, HB.out.2.2.2.1])).2 i hi
            rw [HXY.out.1, HXY.out.2] at this
            exact HE.out this
          · simp only [World.drewN_drewN]
            exact HB.out.2.2.2.2.drewN _
      · have h1 : decide ((i : Int) < (un : Int)) = false := decide_eq_false (by omega)
        obtain rfl : i = un := by omega
        go_wp2
        go_ret
        refine ⟨true, rfl, ⟨fun _ => ⟨?_, ?_⟩, fun _ => rfl⟩, HB.out.2.2.2.2.drewN _⟩
        · rcases HB.out.2.2.1 with h0 | h0
          · exact Or.inl h0
          · rcases Nat.eq_zero_or_pos i with hz | hz
            · exact Or.inl hz
            · right; rw [H.out.1 (i - 1) (by omega)]; exact h0
        · rw [val_congr (X := U) (Y := W) (fun j hj => H.out.1 j hj)]
          exact HB.out.2.2.2.1
  · have d1 : ((un : Int) != (m : Int)) = true := by simp; omega
    have d1' : (un != m) = true := by simp; omega
    have HL := Lib.hid hl
    clear hl
    go_wp2
    go_ret
    refine ⟨false, rfl, ⟨(fun h => by cases h), fun hh => ?_⟩, HB.out.2.2.2.2⟩
    exact absurd (val_same HU.out.2 HB.out.2.1 hh.1 HB.out.2.2.1 (by rw [hh.2, HB.out.2.2.2.1])).1 HL.out
end Go.Proofs.YtmgfajamanakcaaGreatDoor
namespace Go.Proofs.YtmgfajamanakcaaGreatDoor.Si
set_option linter.unusedVariables false
set_option linter.unusedSimpArgs false
open Go Go.RowKit
set_option maxRecDepth 100000
end Go.Proofs.YtmgfajamanakcaaGreatDoor.Si
