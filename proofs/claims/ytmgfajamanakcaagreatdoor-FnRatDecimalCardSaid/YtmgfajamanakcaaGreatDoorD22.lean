/- Part of the proof of FnParse: what the functions that it reaches do, as contracts. Conditions: those that each theorem names. -/
import Derived.Test.YtmgfajamanakcaaGreatDoorD20
import Derived.Test.YtmgfajamanakcaaGreatDoorD21
import Derived.Test.YtmgfajamanakcaaGreatDoorD18
import Derived.Test.YtmgfajamanakcaaGreatDoorD19
import Derived.Deep.DeepCutAuto
import Derived.Deep.CutBlock
import Derived.Deep.LoopGhost
import Derived.Outline
namespace Go.Proofs.YtmgfajamanakcaaGreatDoor
set_option linter.unusedVariables false
set_option linter.unusedSimpArgs false
open Go Go.RowKit
set_option maxRecDepth 100000
structure ZQ (w0 wc : World) (za : Option Addr) (zn zc : Nat) (Z : Nat → Int) (qa : Option Addr) (qc : Nat) (V : Int) : Prop where
  le : zn ≤ zc
  z : ZOK wc za zc
  rd : Rd wc za zn Z
  wf : WF Z zn
  nm : Norm Z zn
  v : val Z zn = V
  q : ZOK wc qa qc
  ne : ∀ b o b' o', za = some ⟨b, o, none⟩ → qa = some ⟨b', o', none⟩ → b ≠ b'
  fz : Fresh w0 za
  fq : Fresh w0 qa
  k : Chg zNone w0 wc
theorem ZQ.lt {w0 wc : World} {za : Option Addr} {zn zc : Nat} {Z : Nat → Int} {qa : Option Addr} {qc : Nat} {V : Int} (h : ZQ w0 wc za zn zc Z qa qc V) {b o : Nat} (e : za = some ⟨b, o, none⟩) : b < wc.heap.size := by
  rcases h.z with ⟨h, _⟩ | ⟨b', o', e', hp, _⟩
  · rw [h] at e; cases e
  · rw [e'] at e; injection e with e; injection e with e1 _; have := hp.lt; omega
theorem ZQ.turn {w0 wc w' : World} {za : Option Addr} {zn zc : Nat} {Z : Nat → Int} {qa : Option Addr} {qc : Nat} {V V' : Int} (h : ZQ w0 wc za zn zc Z qa qc V) {a : Option Addr} {n c : Nat} {X : Nat → Int}
    (h1 : n ≤ c) (h2 : ZOK w' a c) (h3 : Rd w' a n X) (h4 : WF X n) (h5 : Norm X n) (h6 : val X n = V') (h7 : Home wc qa qc a c) (h8 : Chg (zAddr qa qc) wc w') : ZQ w0 w' a n c X za zc V' := by
  refine ⟨h1, h2, h3, h4, h5, h6, h.z.chg h8 ?_, ?_, fresh_home h.fq h7 h.k.size, h.fz, h.k.trans h8 ?_⟩
  · rintro b o ⟨p, e, _⟩ ⟨p', e', _⟩
    exact h.ne b p b p' e e' rfl
  · rintro b o b' o' e e' rfl
    rcases h7 with ⟨e1, _⟩ | ⟨b2, o2, e2, hb⟩
    · exact h.ne b o' b o e' (e1 ▸ e) rfl
    · rw [e2] at e; injection e with e; injection e with e3 _; have := h.lt e'; omega
  · rintro b o hb ⟨p, e, _⟩
    rcases h.fq with h0 | ⟨b2, o2, e2, hb2⟩
    · rw [h0] at e; cases e
    · rw [e2] at e; injection e with e; injection e with e3 _; omega
theorem ZQ.own {w0 wc : World} {za : Option Addr} {zn zc : Nat} {Z : Nat → Int} {qa : Option Addr} {qc : Nat} {V : Int} (h : ZQ w0 wc za zn zc Z qa qc V) : Own qa qc za zn zc := by
  refine Or.inr (fun b o i e _ => ?_)
  rintro ⟨p, e', _⟩
  exact h.ne b o b p e e' rfl
theorem ZQ.far {w0 wc : World} {za : Option Addr} {zn zc : Nat} {Z : Nat → Int} {qa : Option Addr} {qc : Nat} {V : Int} (h : ZQ w0 wc za zn zc Z qa qc V) {xb xo xn xc : Nat} (hb : xb < w0.heap.size) : Own qa qc (some ⟨xb, xo, none⟩) xn xc := by
  refine Or.inr (fun b o i e _ => ?_)
  rintro ⟨p, e', _⟩
  injection e with e
  injection e with e1 _
  rcases h.fq with h0 | ⟨b2, o2, e2, hb2⟩
  · rw [h0] at e'; cases e'
  · rw [e2] at e'; injection e' with e'; injection e' with e3 _; omega
theorem ZQ.nat {w0 wc : World} {za : Option Addr} {zn zc : Nat} {Z : Nat → Int} {qa : Option Addr} {qc : Nat} {V : Int} (h : ZQ w0 wc za zn zc Z qa qc V) (hn : zn < 549755813888) : NatIn wc za zn zc Z := ⟨h.rd, h.wf, h.le, hn, h.z.aok⟩
def ExpRel (w : World) (x : Int) (y m : Nat) (k : Nat) (s0 s15 s19 s21 : Value) (wc : World) : Prop :=
  ∃ za zn zc Z qa ql qc, s0 = .slice za zn zc ∧ s15 = .int .u64 (expV y k : Nat) ∧ s19 = .slice qa ql qc ∧ s21 = .int .i64 ((m : Int) - k) ∧ k ≤ m ∧ Hid (ZQ w wc za zn zc Z qa qc (x ^ (y / 2 ^ k)))
set_option maxHeartbeats 4000000 in
theorem expNN_word (xa ya : Option Addr) (xc yc p : Nat) (x : Int) (y : Nat) (w : World) (hx : NatIn w xa 1 xc (fun _ => x)) (hy : NatIn w ya 1 yc (fun _ => (y : Int))) (hx1 : 1 < x) (hy1 : 1 < y) (hs : x ^ y < BB ^ 22)
    (h1 : w.cell? ⟨1, 0, none⟩ = some (.int .i64 40)) (h5 : w.cell? ⟨5, 0, none⟩ = some (.int .i64 12)) (h6 : w.cell? ⟨6, 0, none⟩ = some (.int .i64 80)) :
    Calls Tryz.prog 104 #[.slice none 0 0, .pointer (some ⟨p, 0, none⟩), .slice xa 1 xc, .slice ya 1 yc, .slice none 0 0, .bool false] w (NatRes w none 0 (x ^ y)) := by
  have HG := Lib.hid (And.intro h1 (And.intro h5 h6))
  have HSm := Lib.hid hs
  have hxw := hx.wf 0 (by omega)
  have hyw := hy.wf 0 (by omega)
  obtain ⟨xb, xo, rfl, hxW⟩ := hx.words (by omega)
  obtain ⟨yb, yo, rfl, hyW⟩ := hy.words (by omega)
  have cx : w.cell? ⟨xb, xo, none⟩ = some (.int .u64 x) := hxW 0 (by omega)
  have cy : w.cell? ⟨yb, yo, none⟩ = some (.int .u64 (y : Int)) := hyW 0 (by omega)
  have A1 : Hid (∀ W, Chg zNone w W → Calls Tryz.prog 138 #[.slice none 0 0, .slice (some ⟨xb, xo, none⟩) 1 xc] W (fun e w' => e = .returned (.bool false) ∧ Chg zNone w w')) := fun W k => by
    refine (alias_any none (some ⟨xb, xo, none⟩) 0 0 1 xc W (Or.inl ⟨rfl, rfl⟩) (hx.aok.chg k)).mono ?_
    rintro e w' ⟨rfl, n, rfl⟩
    exact ⟨rfl, k.drewN n⟩
  have A2 : Hid (∀ W, Chg zNone w W → Calls Tryz.prog 138 #[.slice none 0 0, .slice (some ⟨yb, yo, none⟩) 1 yc] W (fun e w' => e = .returned (.bool false) ∧ Chg zNone w w')) := fun W k => by
    refine (alias_any none (some ⟨yb, yo, none⟩) 0 0 1 yc W (Or.inl ⟨rfl, rfl⟩) (hy.aok.chg k)).mono ?_
    rintro e w' ⟨rfl, n, rfl⟩
    exact ⟨rfl, k.drewN n⟩
  have HX := Lib.hid hx
  have HY := Lib.hid hy
  have d1 : (x == 1) = false := beq_false_of_ne (by omega)
  have d2 : ((y : Int) == 1) = false := beq_false_of_ne (by omega)
  clear hx hy hxW hyW h1 h5 h6 hs
  go_enter Tryz.func104, Tryz.ntmps104
  go_wp2_with fail
  refine (A1.out w (Chg.refl _ _)).mono ?_
  rintro e w1 ⟨rfl, k1⟩
  have K1 := Lib.hid k1
  have cx1 := k1.cell cx (fun h => h)
  have cy1 := k1.cell cy (fun h => h)
  clear k1
  go_wp2_with fail
  refine (A2.out w1 K1.out).mono ?_
  rintro e w2 ⟨rfl, k2⟩
  have K2 := Lib.hid k2
  have cx2 := k2.cell cx (fun h => h)
  have cy2 := k2.cell cy (fun h => h)
  have HS := Lib.hid (fun (a : Unit) => set_any none (some ⟨xb, xo, none⟩) 0 0 1 xc (fun _ => x) w2 (Or.inl ⟨rfl, rfl⟩) (rd_far HX.out.rd k2 (fun _ _ _ _ _ h => h)) HX.out.le (by omega))
  clear k2 cx1 cy1
  go_wp2_with fail
  refine (HS.out ()).mono ?_
  rintro e w3 ⟨za, zc, rfl, h1, h2, h3, h4, h5⟩
  have k3 := K2.out.trans h5 (fun b o _ h => (no_zone h).elim)
  have K3 := Lib.hid k3
  have cx3 := k3.cell cx (fun h => h)
  have cy3 := k3.cell cy (fun h => h)
  have H := Lib.hid (And.intro h1 (And.intro h2 (And.intro h3 (And.intro h4 h5))))
  clear k3 h1 h2 h3 h4 h5
  have HZ := Lib.hid (fun (a : Unit) => nlz_any (y : Int) w3 hyw)
  go_wp2_with fail
  refine (HZ.out ()).mono ?_
  rintro e w4 ⟨rfl, rfl⟩
  go_wp2_with fail
  obtain ⟨m, hm0, hm1, hmy, hmn⟩ : ∃ m, 0 < m ∧ m < 64 ∧ y / 2 ^ m = 1 ∧ nlzOf (y : Int) + 1 = 64 - m := by
    obtain ⟨i1, i2, i3, i4⟩ := bitLen_spec y (by omega) (by have := hyw.2; omega)
    have hL : Lib.bitLen y ≠ 1 := fun h => by rw [h] at i4; omega
    refine ⟨Lib.bitLen y - 1, by omega, by omega, ?_, ?_⟩
    · have hp : 0 < 2 ^ (Lib.bitLen y - 1) := Nat.pow_pos (by omega)
      have e : 2 ^ Lib.bitLen y = 2 ^ (Lib.bitLen y - 1) * 2 := by rw [← Nat.pow_succ]; congr 1; omega
      rw [e] at i4
      exact (Nat.div_eq_iff hp).2 (by omega)
    · unfold nlzOf; rw [Int.toNat_natCast]; omega
  have hw1 : IntKind.u64.wrap ((nlzOf (y : Int) : Int) + 1) = ((64 - m : Nat) : Int) := by rw [IntKind.wrap_u64]; omega
  have hw2 : wrap64 (64 - wrap64 ((64 - m : Nat) : Int)) = (m : Int) := by
    unfold wrap64; omega
  have hw3 : IntKind.u64.wrap ((y : Int) * 2 ^ min ((64 - m : Nat) : Int).toNat 64) = (expV y m : Nat) := by
    rw [IntKind.wrap_u64, Int.toNat_natCast, Nat.min_eq_left (by omega), ← expV_start y m (by omega)]
    simp
  rw [hw1, hw2, hw3]
  have HB := Lib.hid (And.intro hw1 (And.intro hw2 hw3))
  have hlx := lt_of_cell cx
  have HR0 : Hid (ZQ w w3 za 1 zc (fun _ => x) none 0 (x ^ (y / 2 ^ m))) := by
    obtain ⟨h1, h2, h3, h4, h5⟩ := H.out
    refine ⟨h1, h2, h3, HX.out.wf, Or.inr (show x ≠ 0 by omega), by rw [hmy]; simp [val, Int.pow_succ], Or.inl ⟨rfl, rfl⟩, (by rintro b o b' o' _ e; cases e), ?_, Or.inl rfl, K3.out⟩
    rcases h4 with ⟨e, _⟩ | ⟨b, o, e, hb⟩
    · exact Or.inl e
    · exact Or.inr ⟨b, o, e, Nat.le_trans K2.out.size hb⟩
  have HWW := Lib.hid (And.intro hxw (And.intro hyw hlx))
  have HN := Lib.hid (And.intro hmy hmn)
  have HXW := Lib.hid hx1
  clear hw1 hw2 hw3 hxw hyw hlx hmy hmn cx3 cy3 cx2 cy2 d1 d2 K1 K2 hx1
  go_loopg [0, 15, 19, 21] m (fun k s0 s15 s19 s21 wc => ExpRel w x y m k s0 s15 s19 s21 wc)
  case atStart => exact ⟨za, 1, zc, _, none, 0, 0, rfl, rfl, rfl, by show Value.int .i64 0 = _; rw [show ((m : Int) - (m : Nat)) = 0 by omega], Nat.le_refl _, HR0.out⟩
  case round => as_aux_lemma =>
    obtain ⟨za, zn, zc, Z, qa, ql, qc, rfl, rfl, rfl, rfl, hkm, HQ⟩ := hrel
    by_cases hk : 0 < gk
    · obtain ⟨k, rfl⟩ : ∃ k, gk = k + 1 := ⟨gk - 1, by omega⟩
      have h1 : decide ((m : Int) - ((k + 1 : Nat) : Int) < (m : Int)) = true := by simp; omega
      obtain ⟨e1, e2, e3, e4⟩ := expV_step y k (by omega)
      have hbit := expV_bit y k (by omega)
      obtain ⟨p1, p2⟩ := pow_step x y k (by omega)
      have hsh : IntKind.u64.wrap (((expV y (k + 1) : Nat) : Int) * 2) = ((expV y k : Nat) : Int) := by rw [IntKind.wrap_u64]; omega
      have hhalf := half_small (m := k) (Int.le_of_lt HXW.out) HSm.out
      have hzn : zn ≤ 11 := norm_le HQ.out.wf HQ.out.nm (by rw [HQ.out.v]; exact hhalf)
      have HP := Lib.hid (And.intro p1 p2)
      have HSq := Lib.hid (fun (a : Unit) => sqr_any qa za ql qc zn zc Z (.pointer (some ⟨p, 0, none⟩)) wr HQ.out.q (HQ.out.nat (by omega)) HQ.out.own (by omega) (HQ.out.k.cell HG.out.2.1 (fun h => h)) (HQ.out.k.cell HG.out.2.2 (fun h => h)))
      clear e1 e2 e3 e4 p1 p2 hhalf
      go_wp2_with fail
      refine (HSq.out ()).mono ?_
      rintro e w5 ⟨a, n, c, X, rfl, g1, g2, g3, g4, g5, g6, g7, g8⟩
      have HT := Lib.hid (HQ.out.turn g1 g2 g3 g4 g5 (g6.trans (by rw [HQ.out.v])) g7 g8)
      clear g1 g2 g3 g4 g5 g6 g7 g8
      by_cases hb : y / 2 ^ k % 2 = 1
      · rw [hb] at hbit
        have hbit : (bits BinOp.and IntKind.u64 ((expV y (k + 1) : Nat) : Int) 9223372036854775808 != 0) = true := hbit
        have hpw := HP.out.1 hb
        have HPw := Lib.hid hpw
        have hn40 : n < 40 := by
          have hlt : x ^ (y / 2 ^ (k + 1)) * x ^ (y / 2 ^ (k + 1)) < BB ^ 22 := by
            have h11 := half_small (m := k) (Int.le_of_lt HXW.out) HSm.out
            have h0 : 0 ≤ x ^ (y / 2 ^ (k + 1)) := Int.le_of_lt (Int.pow_pos (by have := HXW.out; omega))
            have := Int.mul_lt_mul h11 (Int.le_of_lt h11) (Int.lt_of_lt_of_le (Int.pow_pos (by have := HXW.out; omega)) (Int.le_refl _)) (Int.le_of_lt (Int.pow_pos (show (0 : Int) < BB by decide)))
            rw [← Int.pow_add BB] at this
            exact this
          have := norm_le HT.out.wf HT.out.nm (by rw [HT.out.v]; exact hlt)
          omega
        have HMu := Lib.hid (fun (a' : Unit) => mul_any za a (some ⟨xb, xo, none⟩) zn zc n c 1 xc X (fun _ => x) (.pointer (some ⟨p, 0, none⟩)) w5 HT.out.q (HT.out.nat (by omega)) ⟨rd_far HX.out.rd HT.out.k (fun _ _ _ _ _ h => h), HX.out.wf, HX.out.le, by omega, HX.out.aok.chg HT.out.k⟩ HT.out.own (HT.out.far HWW.out.2.2) (Or.inl hn40) (HT.out.k.cell HG.out.1 (fun h => h)))
        clear hpw hn40
        go_wp2_with fail
        refine (HMu.out ()).mono ?_
        rintro e w6 ⟨a2, n2, c2, X2, rfl, g1, g2, g3, g4, g5, g6, g7, g8⟩
        have HT2 := Lib.hid (HT.out.turn g1 g2 g3 g4 g5 (g6.trans (show val X n * val (fun _ => x) 1 = x ^ (y / 2 ^ k) by rw [HT.out.v, ← HPw.out]; simp [val])) g7 g8)
        clear g1 g2 g3 g4 g5 g6 g7 g8
        go_wp2_with fail
        go_roundg k
        case measure => omega
        case rel => exact ⟨a2, n2, c2, X2, a, n, c, rfl, rfl, rfl, by go_num, by omega, HT2.out⟩
      · have hbit : (bits BinOp.and IntKind.u64 ((expV y (k + 1) : Nat) : Int) 9223372036854775808 != 0) = false := by rw [hbit]; exact beq_false_of_ne hb
        have hpw := HP.out.2 hb
        have HT2 : Hid (ZQ w w5 a n c X za zc (x ^ (y / 2 ^ k))) := by rw [← hpw]; exact HT.out
        clear hpw
        go_wp2_with fail
        go_roundg k
        case measure => omega
        case rel => exact ⟨a, n, c, X, za, zn, zc, rfl, rfl, rfl, by go_num, by omega, HT2.out⟩
    · obtain rfl : gk = 0 := by omega
      have h1 : decide ((m : Int) - ((0 : Nat) : Int) < (m : Int)) = false := by simp
      have hzs : zc < 9223372036854775808 := HQ.out.z.cap
      have HNm := Lib.hid (fun (a : Unit) => norm_any za zn zc Z wr HQ.out.rd HQ.out.le hzs)
      clear hzs
      go_wp2_with fail
      have HQ2 := Lib.hid HQ.out
      go_loopg [0, 22] 0 (fun k s0 s22 wc => s0 = .slice za zn zc ∧ s22 = .int .i64 (-1) ∧ wc = wr)
      case atStart => exact ⟨rfl, rfl, rfl⟩
      case round =>
        obtain ⟨rfl, rfl, rfl⟩ := hrel
        go_wp2_with fail
        refine (HNm.out ()).mono ?_
        rintro e w7 ⟨i, rfl, n1, n2, n3, rfl⟩
        have HNN := Lib.hid (And.intro n1 (And.intro n2 n3))
        clear n1 n2 n3
        go_wp2_with fail
        go_ret
        obtain ⟨n1, n2, n3⟩ := HNN.out
        have hq := HQ2.out
        refine ⟨za, i, zc, Z, rfl, Nat.le_trans n1 hq.le, hq.z, ?_, fun j hj => hq.wf j (by omega), n3, ?_, ?_, hq.k.mono (fun _ _ _ h => h.elim)⟩
        · rcases hq.rd with h | ⟨b, o, e, hw⟩
          · exact Or.inl (by omega)
          · exact Or.inr ⟨b, o, e, hw.le n1⟩
        · rw [← val_trim n1 n2, hq.v, Nat.pow_zero, Nat.div_one]
        · rcases hq.fz with h | h
          · rcases hq.z with ⟨_, h2⟩ | ⟨b, o, e, _⟩
            · exact Or.inl ⟨h, h2⟩
            · rw [h] at e; cases e
          · exact Or.inr h
theorem expNN_any (xa ya : Option Addr) (xc yc p : Nat) (x : Int) (y : Nat) (w : World) (hx : NatIn w xa 1 xc (fun _ => x)) (hy : NatIn w ya 1 yc (fun _ => (y : Int))) (hx1 : 1 < x) (hy1 : 0 < y) (hs : x ^ y < BB ^ 22)
    (h1 : w.cell? ⟨1, 0, none⟩ = some (.int .i64 40)) (h5 : w.cell? ⟨5, 0, none⟩ = some (.int .i64 12)) (h6 : w.cell? ⟨6, 0, none⟩ = some (.int .i64 80)) :
    Calls Tryz.prog 104 #[.slice none 0 0, .pointer (some ⟨p, 0, none⟩), .slice xa 1 xc, .slice ya 1 yc, .slice none 0 0, .bool false] w (NatRes w none 0 (x ^ y)) := by
  by_cases hy2 : 1 < y
  · exact expNN_word xa ya xc yc p x y w hx hy hx1 hy2 hs h1 h5 h6
  obtain rfl : y = 1 := by omega
  obtain ⟨xb, xo, rfl, hxW⟩ := hx.words (by omega)
  obtain ⟨yb, yo, rfl, hyW⟩ := hy.words (by omega)
  have cx : w.cell? ⟨xb, xo, none⟩ = some (.int .u64 x) := hxW 0 (by omega)
  have cy : w.cell? ⟨yb, yo, none⟩ = some (.int .u64 1) := hyW 0 (by omega)
  have A1 : Hid (∀ W, Chg zNone w W → Calls Tryz.prog 138 #[.slice none 0 0, .slice (some ⟨xb, xo, none⟩) 1 xc] W (fun e w' => e = .returned (.bool false) ∧ Chg zNone w w')) := fun W k => by
    refine (alias_any none (some ⟨xb, xo, none⟩) 0 0 1 xc W (Or.inl ⟨rfl, rfl⟩) (hx.aok.chg k)).mono ?_
    rintro e w' ⟨rfl, n, rfl⟩
    exact ⟨rfl, k.drewN n⟩
  have A2 : Hid (∀ W, Chg zNone w W → Calls Tryz.prog 138 #[.slice none 0 0, .slice (some ⟨yb, yo, none⟩) 1 yc] W (fun e w' => e = .returned (.bool false) ∧ Chg zNone w w')) := fun W k => by
    refine (alias_any none (some ⟨yb, yo, none⟩) 0 0 1 yc W (Or.inl ⟨rfl, rfl⟩) (hy.aok.chg k)).mono ?_
    rintro e w' ⟨rfl, n, rfl⟩
    exact ⟨rfl, k.drewN n⟩
  have HX := Lib.hid hx
  have d1 : (x == 1) = false := beq_false_of_ne (by omega)
  have Hx1 := Lib.hid hx1
  clear hx hy hxW hyW h1 h5 h6 hs hy1 hy2 hx1
  go_enter Tryz.func104, Tryz.ntmps104
  go_wp2_with fail
  refine (A1.out w (Chg.refl _ _)).mono ?_
  rintro e w1 ⟨rfl, k1⟩
  have K1 := Lib.hid k1
  have cx1 := k1.cell cx (fun h => h)
  have cy1 := k1.cell cy (fun h => h)
  clear k1
  go_wp2_with fail
  refine (A2.out w1 K1.out).mono ?_
  rintro e w2 ⟨rfl, k2⟩
  have K2 := Lib.hid k2
  have cx2 := k2.cell cx (fun h => h)
  have cy2 := k2.cell cy (fun h => h)
  have HS := Lib.hid (fun (a : Unit) => set_any none (some ⟨xb, xo, none⟩) 0 0 1 xc (fun _ => x) w2 (Or.inl ⟨rfl, rfl⟩) (rd_far HX.out.rd k2 (fun _ _ _ _ _ h => h)) HX.out.le (by omega))
  clear k2 cx1 cy1
  go_wp2_with fail
  refine (HS.out ()).mono ?_
  rintro e w3 ⟨za, zc, rfl, h1, h2, h3, h4, h5⟩
  have H := Lib.hid (And.intro h1 (And.intro h2 (And.intro h3 (And.intro h4 h5))))
  clear h1 h2 h3 h4 h5
  go_wp2_with fail
  go_ret
  obtain ⟨h1, h2, h3, h4, h5⟩ := H.out
  have hx1 := Hx1.out
  refine ⟨za, 1, zc, fun _ => x, rfl, h1, h2, h3, HX.out.wf, Or.inr (show x ≠ 0 by omega), by simp [val, Int.pow_succ], ?_, (K2.out.mono (fun _ _ _ h => h.elim)).trans h5 (fun _ _ _ h => h)⟩
  rcases h4 with h | ⟨b, o, e, hb⟩
  · exact Or.inl h
  · exact Or.inr ⟨b, o, e, Nat.le_trans K2.out.size hb⟩
theorem expWW_any (p : Nat) (x : Int) (y : Nat) (w : World) (hxw : U64 x) (hyw : U64 (y : Int)) (hx1 : 1 < x) (hy1 : 0 < y) (hs : x ^ y < BB ^ 22)
    (h1 : w.cell? ⟨1, 0, none⟩ = some (.int .i64 40)) (h5 : w.cell? ⟨5, 0, none⟩ = some (.int .i64 12)) (h6 : w.cell? ⟨6, 0, none⟩ = some (.int .i64 80)) :
    Calls Tryz.prog 238 #[.slice none 0 0, .pointer (some ⟨p, 0, none⟩), .int .u64 x, .int .u64 (y : Int)] w (NatRes w none 0 (x ^ y)) := by
  have HA := Lib.hid (setWord_any none 0 0 x w (Or.inl ⟨rfl, rfl⟩) hxw)
  have HB := Lib.hid (fun W => setWord_any none 0 0 (y : Int) W (Or.inl ⟨rfl, rfl⟩) hyw)
  have HH := Lib.hid (And.intro hx1 (And.intro hy1 (And.intro hs (And.intro h1 (And.intro h5 h6)))))
  have HW := Lib.hid (And.intro hxw hyw)
  clear hxw hyw hx1 hy1 hs h1 h5 h6
  go_enter Tryz.func238, Tryz.ntmps238
  go_wp2_with fail
  refine HA.out.mono ?_
  rintro e w1 ⟨a, n, c, X, rfl, g1, g2, g3, g4, g5, g6, g7, g8⟩
  obtain ⟨x1, x2, x3, x4, x5, x6⟩ := HH.out
  obtain rfl : n = 1 := by
    have := norm_le (N := 1) g4 g5 (by rw [g6, show BB ^ 1 = 18446744073709551616 by decide]; exact HW.out.1.2)
    have h2 : n ≠ 0 := fun h => by subst h; simp [val] at g6; omega
    omega
  have HN1 : Hid (NatIn w1 a 1 c (fun _ => x) ∧ Chg zNone w w1) := by
    have e0 : X 0 = x := by simpa [val] using g6
    refine ⟨⟨?_, fun i hi => HW.out.1, g1, by omega, g2.aok⟩, g8.mono (fun _ _ _ h => (no_zone h).elim)⟩
    rcases g3 with h | ⟨b, o, e, hw⟩
    · omega
    · exact Or.inr ⟨b, o, e, hw.congr (fun i hi => by obtain rfl : i = 0 := by omega
                                                      exact e0)⟩
  clear g1 g2 g3 g4 g5 g6 g7 g8 x1 x2 x3 x4 x5 x6
  go_wp2_with fail
  refine (HB.out w1).mono ?_
  rintro e w2 ⟨b, n, d, Y, rfl, g1, g2, g3, g4, g5, g6, g7, g8⟩
  obtain ⟨x1, x2, x3, x4, x5, x6⟩ := HH.out
  obtain rfl : n = 1 := by
    have := norm_le (N := 1) g4 g5 (by rw [g6, show BB ^ 1 = 18446744073709551616 by decide]; exact HW.out.2.2)
    have h2 : n ≠ 0 := fun h => by subst h; simp [val] at g6; omega
    omega
  have k12 : Chg zNone w1 w2 := g8.mono (fun _ _ _ h => (no_zone h).elim)
  have k02 : Chg zNone w w2 := HN1.out.2.trans k12 (fun _ _ _ h => h)
  have HN2 : Hid (NatIn w2 b 1 d (fun _ => (y : Int))) := by
    have e0 : Y 0 = (y : Int) := by simpa [val] using g6
    refine ⟨?_, fun i hi => HW.out.2, g1, by omega, g2.aok⟩
    rcases g3 with h | ⟨b, o, e, hw⟩
    · omega
    · exact Or.inr ⟨b, o, e, hw.congr (fun i hi => by obtain rfl : i = 0 := by omega
                                                      exact e0)⟩
  have hN1 := HN1.out.1
  have HE := Lib.hid (expNN_any a b c d p x y w2 ⟨rd_far hN1.rd k12 (fun _ _ _ _ _ h => h), hN1.wf, hN1.le, hN1.small, hN1.aok.chg k12⟩ HN2.out x1 x2 x3 (k02.cell x4 (fun h => h)) (k02.cell x5 (fun h => h)) (k02.cell x6 (fun h => h)))
  have HK := Lib.hid k02
  clear g1 g2 g3 g4 g5 g6 g7 g8 x1 x2 x3 x4 x5 x6 hN1 k12 k02
  go_wp2_with fail
  refine HE.out.mono ?_
  rintro e w3 ⟨z, n, f, Z, rfl, g1, g2, g3, g4, g5, g6, g7, g8⟩
  have H := Lib.hid (And.intro g1 (And.intro g2 (And.intro g3 (And.intro g4 (And.intro g5 (And.intro g6 (And.intro g7 g8)))))))
  clear g1 g2 g3 g4 g5 g6 g7 g8
  go_wp2_with fail
  go_ret
  obtain ⟨g1, g2, g3, g4, g5, g6, g7, g8⟩ := H.out
  refine ⟨z, n, f, Z, rfl, g1, g2, g3, g4, g5, g6, ?_, (HK.out.mono (fun _ _ _ h => h.elim)).trans g8 (fun _ _ _ h => h)⟩
  rcases g7 with h | ⟨b, o, e, hb⟩
  · exact Or.inl h
  · exact Or.inr ⟨b, o, e, Nat.le_trans HK.out.size hb⟩
end Go.Proofs.YtmgfajamanakcaaGreatDoor
