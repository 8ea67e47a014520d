/- Part of the proof of FnParse: what the functions that it reaches do, as contracts. Conditions: those that each theorem names. -/
import Derived.Test.YtmgfajamanakcaaGreatDoorD15
import Derived.Outline
namespace Go.Proofs.YtmgfajamanakcaaGreatDoor
set_option linter.unusedVariables false
set_option linter.unusedSimpArgs false
open Go.RowKit
set_option maxRecDepth 100000
def WVPost (w : World) (bz oz n : Nat) (X : Nat → Int) (y r : Int) (w' : World) : Prop :=
  ∃ Z, Chg (zRow bz oz n) w w' ∧ Words w' bz oz n Z ∧ WF Z n ∧ (0 ≤ r ∧ r < y) ∧ val X n = val Z n * y + r
theorem val_cons (X : Nat → Int) (k m : Nat) : val (fun i => X (k + i)) (m + 1) = X k + BB * val (fun i => X (k + 1 + i)) m := by
  rw [Nat.add_comm m 1, val_add, val_one]
  simp only [Nat.add_zero, Int.pow_succ, Int.pow_zero]
  rw [val_congr (X := fun i => X (k + (1 + i))) (Y := fun i => X (k + 1 + i)) (fun i hi => by rw [Nat.add_assoc])]
  grind
theorem divww_fit {r x y : Int} (hr0 : 0 ≤ r) (hr : r < y) (hx : U64 x) : U64 ((r * BB + x) / y) ∧ 0 ≤ (r * BB + x) % y ∧ (r * BB + x) % y < y ∧ r * BB + x = (r * BB + x) / y * y + (r * BB + x) % y := by
  have hy : 0 < y := by omega
  have h1 := Int.emod_add_mul_ediv (r * BB + x) y
  have hn : 0 ≤ r * BB + x := by have := hx.1; unfold BB; omega
  refine ⟨⟨Int.ediv_nonneg hn (by omega), ?_⟩, Int.emod_nonneg _ (by omega), Int.emod_lt_of_pos _ hy, by rw [Int.mul_comm y] at h1; omega⟩
  rw [Int.ediv_lt_iff_lt_mul hy]
  have := hx.2
  unfold BB; omega
set_option maxHeartbeats 4000000 in
theorem divWVW_any (bx ox bz oz n cx cz : Nat) (X : Nat → Int) (y : Int) (w : World) (hn0 : 0 < n) (hn : n < 1099511627776) (hX : Words w bx ox n X) (hXw : WF X n) (hz : Room w bz oz n) (hf : Bwd bx ox bz oz n) (hy0 : 0 < y) (hy1 : y < 18446744073709551616) :
    Calls Tryz.prog 204 #[.slice (some ⟨bz, oz, none⟩) n cz, .int .u64 0, .slice (some ⟨bx, ox, none⟩) n cx, .int .u64 y] w (OneWord (WVPost w bz oz n X y)) := by
  have HX := Lib.hid (And.intro hX hXw)
  have Hz := Lib.hid hz
  have Hf := Lib.hid hf
  clear hX hXw hz hf
  by_cases h1 : n = 1
  · subst h1
    obtain ⟨x, hx⟩ : ∃ x, X 0 = x := ⟨_, rfl⟩
    have hc := HX.out.1 0 (by omega)
    obtain ⟨⟨z0, hz0⟩, hf0⟩ := Hz.out 0 (by omega)
    rw [hx] at hc
    simp only [Nat.add_zero] at hc hz0 hf0
    have Hxw : Hid (U64 x) := by rw [← hx]; exact HX.out.2 0 (by omega)
    have Hx := Lib.hid hx
    clear hx
    go_enter Tryz.func204, Tryz.ntmps204
    go_wp2_with fail
    refine (bitsDiv_any 0 x y _ ⟨by omega, by omega⟩ Hxw.out ⟨by omega, hy1⟩ hy0).mono ?_
    rintro e w1 ⟨rfl, n, rfl⟩
    go_wp2
    go_ret
    have hft := divww_fit (r := 0) (x := x) (y := y) (by omega) hy0 Hxw.out
    simp only [Int.zero_mul, Int.zero_add] at hft
    refine ⟨_, rfl, fun _ => x / y, ((Chg.refl _ w).drewN n).setCell bz oz _ (fun _ => ⟨rfl, by omega, by omega⟩), ?_, fun i hi => hft.1, ⟨hft.2.1, hft.2.2.1⟩, ?_⟩
    · intro i hi; obtain rfl : i = 0 := by omega
      show ((w.drewN n).setCell ⟨bz, oz, none⟩ _).cell? ⟨bz, oz, none⟩ = _
      exact World.cell?_setCell_same' _ _ _ (by show (w.cell? ⟨bz, oz, none⟩).isSome = true; rw [hz0]; rfl)
    · rw [val_one, val_one, Hx.out]; exact hft.2.2.2
  · have h1b : ((n : Int) == 1) = false := by simp; omega
    go_enter Tryz.func204, Tryz.ntmps204
    go_wp2_with fail
    refine (reciprocalWord_any y _ hy0 hy1).mono ?_
    rintro e w1 ⟨m, rfl, hm, nd, rfl⟩
    have Hm := Lib.hid hm
    clear hm
    go_wp2_with fail
    go_loopw [8, 12] (fun sr si wr => ∃ (k : Nat) (r : Int) (Z : Nat → Int), si = .int .i64 ((k : Int) - 1) ∧ sr = .int .u64 r ∧ k ≤ n ∧ 0 ≤ r ∧ r < y ∧ Hid (Chg (zRow bz (oz + k) (n - k)) w wr ∧ (∀ j, k ≤ j → j < n → wr.cell? ⟨bz, oz + j, none⟩ = some (.int .u64 (Z j))) ∧ (∀ j, k ≤ j → j < n → U64 (Z j)) ∧
      val (fun i => X (k + i)) (n - k) = val (fun i => Z (k + i)) (n - k) * y + r)) (fun sr si _ => (intOf si + 1).toNat)
    case atStart => exact ⟨n, 0, fun _ => 0, rfl, rfl, Nat.le_refl _, by omega, hy0, (Chg.refl _ w).drewN nd, fun j h1 h2 => by omega, fun j h1 h2 => by omega, by rw [Nat.sub_self]; simp [val]⟩
    case round =>
      obtain ⟨k, r, Z, rfl, rfl, hk, hr0, hry, H⟩ := hrel
      by_cases hk0 : k = 0
      · subst hk0
        have hb : decide ((0 : Int) ≤ ((0 : Nat) : Int) - 1) = false := by decide
        go_wp2
        go_ret
        refine ⟨_, rfl, Z, H.out.1, fun j hj => H.out.2.1 j (by omega) hj, fun j hj => H.out.2.2.1 j (by omega) hj, ⟨hr0, hry⟩, ?_⟩
        have := H.out.2.2.2
        simpa using this
      · obtain ⟨j, rfl⟩ : ∃ j, k = j + 1 := ⟨k - 1, by omega⟩
        have e1 : (((j + 1 : Nat) : Int) - 1) = (j : Int) := by omega
        rw [e1]
        obtain ⟨x, hx⟩ : ∃ x, X j = x := ⟨_, rfl⟩
        have hc := H.out.1.cell (HX.out.1 j (by omega)) (by rintro ⟨a1, a2, a3⟩; rcases Hf.out with h | h | h <;> omega)
        rw [hx] at hc
        have Hxw : Hid (U64 x) := by rw [← hx]; exact HX.out.2 j (by omega)
        have Hx := Lib.hid hx
        obtain ⟨⟨z0, hz0⟩, hf0⟩ := Hz.out j (by omega)
        have hzj := H.out.1.cell hz0 (fun ⟨_, h2, _⟩ => by omega)
        have hfj := (H.out.1.frozen hz0 (oz + j)).trans hf0
        have hjn : j < n := by omega
        clear hx hz0 hf0 e1
        go_wp2_with fail
        refine (divWW_any r x y m _ ⟨hr0, by omega⟩ Hxw.out ⟨by omega, hy1⟩ hry Hm.out).mono ?_
        rintro e w2 ⟨rfl, rfl⟩
        have hft := divww_fit hr0 hry Hxw.out
        have HF := Lib.hid hft
        clear hft
        go_wp2
        go_roundw
        case rel =>
          refine ⟨j, _, upd Z j ((r * BB + x) / y), by go_num, rfl, by omega, HF.out.2.1, HF.out.2.2.1, ?_, ?_, ?_, ?_⟩
          · exact (H.out.1.mono (Z' := zRow bz (oz + j) (n - j)) (fun _ _ _ ⟨a1, a2, a3⟩ => ⟨a1, by omega, by omega⟩)).setCell bz (oz + j) _ (fun _ => ⟨rfl, by omega, by omega⟩)
          · intro i h1 h2
            by_cases e : i = j
            · subst e; rw [upd_same]; exact World.cell?_setCell_same' _ _ _ (by rw [hzj]; rfl)
            · rw [upd_other _ _ e, World.cell?_setCell_other _ _ _ _ (by intro h; injection h with _ h2 _; omega)]
              exact H.out.2.1 i (by omega) h2
          · intro i h1 h2
            by_cases e : i = j
            · rw [e, upd_same]; exact HF.out.1
            · rw [upd_other _ _ e]; exact H.out.2.2.1 i (by omega) h2
          · have h4 := H.out.2.2.2
            have h5 := HF.out.2.2.2
            rw [show n - j = (n - (j + 1)) + 1 by omega, val_cons, val_cons, upd_same, Hx.out, val_congr (X := fun i => upd Z j ((r * BB + x) / y) (j + 1 + i)) (Y := fun i => Z (j + 1 + i)) (fun i hi => upd_other _ _ (by omega)), h4]
            grind
        case measure => simp [intOf]
def DivWRes (w : World) (az : Option Addr) (zc : Nat) (v y : Int) (e : Ending) (w' : World) : Prop :=
  ∃ a n c X, e = .returned (.tuple #[.slice a n c, .int .u64 (v % y)]) ∧ n ≤ c ∧ ZOK w' a c ∧ Rd w' a n X ∧ WF X n ∧ Norm X n ∧ val X n = v / y ∧ Home w az zc a c ∧ Chg (zAddr az zc) w w'
theorem divw_split {X Z r y : Int} (h0 : 0 ≤ r) (h1 : r < y) (h : X = Z * y + r) : Z = X / y ∧ r = X % y := by
  have hy : 0 < y := by omega
  have e : X = r + y * Z := by rw [Int.mul_comm]; omega
  constructor
  · rw [e, Int.add_mul_ediv_left _ _ (by omega), Int.ediv_eq_zero_of_lt h0 h1]; omega
  · rw [e, Int.add_mul_emod_self_left, Int.emod_eq_of_lt h0 h1]
set_option maxHeartbeats 4000000 in
theorem divW_any (az ax : Option Addr) (zl zc xn xc : Nat) (X : Nat → Int) (y : Int) (w : World) (hz : ZOK w az zc) (hx : NatIn w ax xn xc X) (hnx : Norm X xn) (hap : Apart az zc ax xn) (hy0 : 0 < y) (hy1 : y < 18446744073709551616) :
    Calls Tryz.prog 155 #[.slice az zl zc, .slice ax xn xc, .int .u64 y] w (DivWRes w az zc (val X xn) y) := by
  have Hz := Lib.hid hz
  have Hx := Lib.hid hx
  have Hnx := Lib.hid hnx
  have Ha := Lib.hid hap
  have hxn := hx.small
  have hyb : (y == 0) = false := by simp; omega
  clear hz hx hnx hap
  by_cases hy : y = 1
  · subst hy
    go_enter Tryz.func155, Tryz.ntmps155
    go_wp2_with fail
    refine (set_any az ax zl zc xn xc X _ Hz.out Hx.out.rd Hx.out.le (by omega)).mono ?_
    rintro e w1 k
    obtain ⟨a, n, c, Z, rfl, k3⟩ := set_natres (v := val X xn / 1) k Hx.out.wf Hnx.out (by simp)
    have HK3 := Lib.hid k3
    clear k k3
    go_wp2
    go_ret2
    exact ⟨a, n, c, Z, by simp, HK3.out⟩
  · have hyb1 : (y == 1) = false := by simp [hy]
    by_cases hx0 : xn = 0
    · subst hx0
      go_enter Tryz.func155, Tryz.ntmps155
      go_wp2
      go_ret2
      exact ⟨az, 0, zc, fun _ => 0, by simp [val], Nat.zero_le _, Hz.out, Or.inl rfl, fun i hi => by omega, Or.inl rfl, by simp [val], Or.inl ⟨rfl, rfl⟩, Chg.refl _ _⟩
    · have hxb : ((xn : Int) == 0) = false := by simp [hx0]
      obtain ⟨bx, ox, rfl, hX⟩ := Hx.out.words (by omega)
      have Hb := Lib.hid (lt_of_cell (hX 0 (by omega)))
      have HX := Lib.hid hX
      clear hX
      go_enter Tryz.func155, Tryz.ntmps155
      go_wp2_with fail
      refine (make_any az zl zc xn _ Hz.out (by omega)).mono ?_
      rintro e w1 ⟨a, c, rfl, h1, h2, h3, h4⟩
      obtain ⟨b, o, rfl, hb1, hroom⟩ := h2.room (by omega)
      have hcap := h2.cap
      have H := Lib.hid (And.intro h1 (And.intro h2 (And.intro h3 (And.intro h4 (And.intro hb1 hroom)))))
      have h1' : xn ≤ c := h1
      have HPx := Lib.hid (place_of h3 Ha.out Hb.out (by omega) (by omega))
      clear h1 h2 h3 h4 hroom hb1
      have hbw : Hid (Bwd bx ox b o xn) := by have := HPx.out.bwd (q := 0) (m := xn) rfl (by omega); unfold Hid; simpa using this
      go_wp2_with fail
      refine (divWVW_any bx ox b o xn xc c X y _ (by omega) (by omega) (HX.out.chg H.out.2.2.2.1 (fun _ _ h => h)) Hx.out.wf (H.out.2.2.2.2.2.le h1') hbw.out hy0 hy1).mono ?_
      rintro e w2 ⟨r, rfl, Z, q1, q2, q3, q4, q5⟩
      have HQ := Lib.hid (And.intro q1 (And.intro q2 (And.intro q3 (divw_split q4.1 q4.2 q5))))
      clear q1 q2 q3 q4 q5
      go_wp2_with fail
      refine (norm_any (some ⟨b, o, none⟩) xn c Z _ (Or.inr ⟨b, o, rfl, HQ.out.2.1⟩) h1' hcap).mono ?_
      rintro e w3 ⟨i, rfl, n1, n2, n3, rfl⟩
      have HN := Lib.hid (And.intro n1 (And.intro n2 n3))
      clear n1 n2 n3
      go_wp2
      go_ret2
      obtain ⟨a', n', c', X', k0, k1⟩ := natres_close H.out HQ.out.1 HQ.out.2.1 HQ.out.2.2.1 HQ.out.2.2.2.1 HN.out.1 HN.out.2.1 HN.out.2.2
      injection k0 with k0
      injection k0 with e1 e2 e3
      subst e1; subst e2; subst e3
      exact ⟨_, _, _, X', by rw [← HQ.out.2.2.2.2]; first | done | rfl, k1⟩
def DivRes (w : World) (az : Option Addr) (zc : Nat) (a2 : Option Addr) (c2 : Nat) (u v : Int) (Z : Zone) (e : Ending) (w' : World) : Prop :=
  ∃ qa qn qc Q ra rn rc R, e = .returned (.tuple #[.slice qa qn qc, .slice ra rn rc]) ∧ (qn ≤ qc ∧ ZOK w' qa qc ∧ Rd w' qa qn Q ∧ WF Q qn ∧ Norm Q qn ∧ val Q qn = u / v ∧ Home w az zc qa qc) ∧ (rn ≤ rc ∧ ZOK w' ra rc ∧ Rd w' ra rn R ∧ WF R rn ∧ Norm R rn ∧ val R rn = u % v ∧ Home w a2 c2 ra rc) ∧ Chg Z w w' ∧ ∀ b o b' o', qa = some ⟨b, o, none⟩ → ra = some ⟨b', o', none⟩ → b ≠ b'
theorem ZOK.lt {w : World} {a : Option Addr} {c b o : Nat} (hz : ZOK w a c) (e : a = some ⟨b, o, none⟩) : b < w.heap.size := by
  rcases hz with ⟨e2, _⟩ | ⟨b2, o2, e2, hp, _⟩
  · rw [e2] at e; cases e
  · rw [e2] at e; injection e with e; injection e with e3 _; rw [← e3]; exact hp.lt
theorem homes_apart {w w1 : World} {az qa a2 ra : Option Addr} {zc qc c2 rc : Nat} (zz : ∀ b o b' o', az = some ⟨b, o, none⟩ → a2 = some ⟨b', o', none⟩ → b ≠ b') (hq : Home w az zc qa qc) (hr : Home w1 a2 c2 ra rc) (hz : ZOK w1 qa qc) (h2 : ZOK w a2 c2) :
    ∀ b o b' o', qa = some ⟨b, o, none⟩ → ra = some ⟨b', o', none⟩ → b ≠ b' := by
  intro b o b' o' e e'
  have l1 := hz.lt e
  rcases hr with ⟨h, _⟩ | ⟨b2, o2, h, hb⟩
  · have e3 : a2 = some ⟨b', o', none⟩ := h.symm.trans e'
    rcases hq with ⟨g, _⟩ | ⟨b3, o3, g, hb3⟩
    · exact zz b o b' o' (g.symm.trans e) e3
    · have := h2.lt e3
      rw [g] at e; injection e with e; injection e with e4 _; omega
  · rw [h] at e'; injection e' with e'; injection e' with e4 _; omega
def zTwo (az : Option Addr) (zc : Nat) (a2 : Option Addr) (c2 : Nat) : Zone := fun b o => zAddr az zc b o ∨ zAddr a2 c2 b o
set_option maxHeartbeats 2000000 in
theorem div_word (az a2 ax av : Option Addr) (zl zc l2 c2 xn xc cv : Nat) (stk : Value) (X V : Nat → Int) (w : World) (hz : ZOK w az zc) (h2 : ZOK w a2 c2) (hx : NatIn w ax xn xc X) (hnx : Norm X xn) (hap : Apart az zc ax xn) (hv : NatIn w av 1 cv V) (hv0 : V 0 ≠ 0)
    (zz : ∀ b o b' o', az = some ⟨b, o, none⟩ → a2 = some ⟨b', o', none⟩ → b ≠ b') :
    Calls Tryz.prog 102 #[.slice az zl zc, stk, .slice a2 l2 c2, .slice ax xn xc, .slice av 1 cv] w (DivRes w az zc a2 c2 (val X xn) (val V 1) (zTwo az zc a2 c2)) := by
  have hd : ∀ b o, zAddr az zc b o → ¬ zAddr a2 c2 b o := by
    rintro b o ⟨po, e, _⟩ ⟨po2, e2, _⟩
    exact zz _ _ _ _ e e2 rfl
  obtain ⟨bv, ov, rfl, hV⟩ := hv.words (by omega)
  have hc := hV 0 (by omega)
  simp only [Nat.add_zero] at hc
  have hvw := hv.wf 0 (by omega)
  have Hval := Lib.hid (show val V 1 = V 0 from val_one V)
  obtain ⟨y, hy⟩ : ∃ y, V 0 = y := ⟨_, rfl⟩
  rw [hy] at hc hvw hv0 Hval
  have hypos : 0 < y := by have := hvw.1; omega
  have HW := Lib.hid (divW_any az ax zl zc xn xc X y w hz hx hnx hap hypos hvw.2)
  have H := Lib.hid (And.intro h2 (And.intro hd hz))
  have Hzz := Lib.hid zz
  clear zz
  have h2c := h2.cap
  clear hz h2 hx hnx hap hv hV hd hy
  go_enter Tryz.func102, Tryz.ntmps102
  go_wp2_with fail
  refine HW.out.mono ?_
  rintro e w1 ⟨qa, qn, qc, Q, rfl, g1, g2, g3, g4, g5, g6, g7, g8⟩
  have HG := Lib.hid (And.intro g1 (And.intro g2 (And.intro g3 (And.intro g4 (And.intro g5 (And.intro g6 (And.intro g7 g8)))))))
  have hr0 : 0 ≤ val X xn % y := Int.emod_nonneg _ (by omega)
  have hr1 : val X xn % y < y := Int.emod_lt_of_pos _ hypos
  have HS := Lib.hid (setWord_any a2 l2 c2 (val X xn % y) w1 (H.out.1.chg g8 (fun b o h h' => H.out.2.1 b o h' h)) ⟨hr0, by have := hvw.2; omega⟩)
  obtain ⟨r, hr⟩ : ∃ r, val X xn % y = r := ⟨_, rfl⟩
  rw [hr] at HS ⊢
  have Hr := Lib.hid hr
  clear g1 g2 g3 g4 g5 g6 g7 g8 hr0 hr1 hr
  go_wp2_with fail
  refine HS.out.mono ?_
  rintro e w2 ⟨ra, rn, rc, R, rfl, j1, j2, j3, j4, j5, j6, j7, j8⟩
  have HJ := Lib.hid (And.intro j1 (And.intro j2 (And.intro j3 (And.intro j4 (And.intro j5 (And.intro j6 (And.intro j7 j8)))))))
  clear j1 j2 j3 j4 j5 j6 j7 j8
  go_wp2
  go_ret2
  obtain ⟨g1, g2, g3, g4, g5, g6, g7, g8⟩ := HG.out
  obtain ⟨j1, j2, j3, j4, j5, j6, j7, j8⟩ := HJ.out
  have sep : ∀ b o, zAddr qa qc b o → b < w1.heap.size → ¬ zAddr a2 c2 b o := by
    intro b o hq hb h
    rcases g7 with ⟨rfl, rfl⟩ | ⟨b2, o2, e, hb2⟩
    · exact H.out.2.1 b o hq h
    · obtain ⟨p1, e1, _⟩ := hq
      obtain ⟨p2, e2, _, hlt⟩ := h
      rw [e] at e1; injection e1 with e1; injection e1 with e3 _
      rcases H.out.1 with ⟨h9, _⟩ | ⟨b4, o4, e4, hp4, _⟩
      · rw [h9] at e2; cases e2
      · rw [e4] at e2; injection e2 with e2; injection e2 with e5 _
        have := hp4.lt; omega
  have inb : ∀ b o, zAddr qa qc b o → b < w1.heap.size := by
    rintro b o ⟨p1, e1, h3, h4⟩
    rcases g2 with ⟨h9, h10⟩ | ⟨b4, o4, e4, hp4, _⟩
    · omega
    · rw [e4] at e1; injection e1 with e1; injection e1 with e5 _
      rw [← e5]; exact hp4.lt
  refine ⟨qa, qn, qc, Q, ra, rn, rc, R, rfl, ⟨g1, g2.chg j8 (fun b o h => sep b o h (inb b o h)), ?_, g4, g5, by rw [Hval.out]; exact g6, g7⟩, ⟨j1, j2, j3, j4, j5, by rw [Hval.out, Hr.out]; exact j6, ?_⟩, (g8.mono (fun _ _ _ h => Or.inl h)).trans j8 (fun _ _ _ h => Or.inr h), homes_apart Hzz.out g7 j7 g2 H.out.1⟩
  · rcases g3 with h | ⟨b, o, e, hw⟩
    · exact Or.inl h
    · exact Or.inr ⟨b, o, e, hw.chg j8 (fun i hi => sep b (o + i) ⟨o, e, by omega, by omega⟩ (inb b (o + i) ⟨o, e, by omega, by omega⟩))⟩
  · rcases j7 with h | ⟨b, o, e, hb⟩
    · exact Or.inl h
    · exact Or.inr ⟨b, o, e, by have := g8.size; omega⟩
set_option maxHeartbeats 2000000 in
theorem div_less (az a2 ax av : Option Addr) (zl zc l2 c2 xn xc n cv : Nat) (stk : Value) (X V : Nat → Int) (w : World) (hz : ZOK w az zc) (h2 : ZOK w a2 c2) (hx : NatIn w ax xn xc X) (hnx : Norm X xn) (hv : NatIn w av n cv V) (hnv : Norm V n) (hn : 2 ≤ n) (hlt : val X xn < val V n)
    (zz : ∀ b o b' o', az = some ⟨b, o, none⟩ → a2 = some ⟨b', o', none⟩ → b ≠ b') :
    Calls Tryz.prog 102 #[.slice az zl zc, stk, .slice a2 l2 c2, .slice ax xn xc, .slice av n cv] w (DivRes w az zc a2 c2 (val X xn) (val V n) (zTwo az zc a2 c2)) := by
  have hd : ∀ b o, zAddr az zc b o → ¬ zAddr a2 c2 b o := by
    rintro b o ⟨po, e, _⟩ ⟨po2, e2, _⟩
    exact zz _ _ _ _ e e2 rfl
  have Hzz := Lib.hid zz
  clear zz
  have d0 : ((n : Int) == 0) = false := beq_false_of_ne (by omega)
  have d1 : ((n : Int) == 1) = false := beq_false_of_ne (by omega)
  have HC := Lib.hid (cmp_any ax av xn xc n cv X V w hx hv hnx hnv)
  have Hcv := Lib.hid (cmpV_lt hlt)
  have H := Lib.hid (And.intro hz (And.intro h2 (And.intro hx (And.intro hnx (And.intro hd hlt)))))
  have h2c := h2.cap
  have hzc := hz.cap
  have hxs := hx.small
  have hxw := Lib.hid (val_nonneg hx.wf)
  clear hz h2 hx hnx hv hnv hd hlt
  go_enter Tryz.func102, Tryz.ntmps102
  go_wp2_with fail
  refine HC.out.mono ?_
  rintro e w1 ⟨rfl, k, rfl⟩
  rw [Hcv.out]
  have kD : Chg zNone w (w.drewN k) := (Chg.refl _ _).drewN k
  have HS := Lib.hid (set_any a2 ax l2 c2 xn xc X (w.drewN k) (H.out.2.1.chg kD (fun _ _ _ h => h)) (rd_of_chg H.out.2.2.1.rd kD) H.out.2.2.1.le (by omega))
  have HK := Lib.hid kD
  clear kD
  go_wp2_with fail
  refine HS.out.mono ?_
  rintro e w2 ⟨ra, rc, rfl, j1, j2, j3, j4, j5⟩
  have HJ := Lib.hid (And.intro j1 (And.intro j2 (And.intro j3 (And.intro j4 j5))))
  clear j1 j2 j3 j4 j5
  go_wp2
  go_ret2
  obtain ⟨j1, j2, j3, j4, j5⟩ := HJ.out
  obtain ⟨hz, h2, hx, hnx, hd, hlt⟩ := H.out
  have kT : Chg (zAddr a2 c2) w w2 := (HK.out.mono (fun _ _ _ h => h.elim)).trans j5 (fun _ _ _ h => h)
  refine ⟨az, 0, zc, fun _ => 0, ra, xn, rc, X, rfl, ⟨Nat.zero_le _, hz.chg kT (fun b o h h' => hd b o h h'), Or.inl rfl, fun i hi => by omega, Or.inl rfl, ?_, Or.inl ⟨rfl, rfl⟩⟩, ⟨j1, j2, j3, hx.wf, hnx, ?_, ?_⟩, kT.mono (fun _ _ _ h => Or.inr h), homes_apart Hzz.out (Or.inl ⟨rfl, rfl⟩) j4 (hz.chg HK.out (fun _ _ _ h => h)) h2⟩
  · rw [Int.ediv_eq_zero_of_lt hxw.out hlt]; rfl
  · rw [Int.emod_eq_of_lt hxw.out hlt]
  · rcases j4 with h | ⟨b, o, e, hb⟩
    · exact Or.inl h
    · exact Or.inr ⟨b, o, e, hb⟩
end Go.Proofs.YtmgfajamanakcaaGreatDoor
