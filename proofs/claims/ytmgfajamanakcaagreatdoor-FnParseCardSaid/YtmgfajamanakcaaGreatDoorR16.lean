/- Part of the proof of FnParse: what the functions that it reaches do, as contracts. Conditions: those that each theorem names. -/
import Derived.Test.YtmgfajamanakcaaGreatDoorR15
import Derived.Test.YtmgfajamanakcaaGreatDoorR13
import Derived.Test.YtmgfajamanakcaaGreatDoorR12
import Derived.Outline
import Derived.Test.YtmgfajamanakcaaGreatDoorR08
import Derived.Deep.CutBlock
import Derived.Deep.DeepCutAuto
import Derived.Test.YtmgfajamanakcaaGreatDoorR06
import Derived.Test.YtmgfajamanakcaaGreatDoorR09
import Derived.Defers
import Derived.Laws.Pointers
import Derived.Test.YtmgfajamanakcaaGreatDoorR03
import Derived.ArgAppend
namespace Go.Proofs.YtmgfajamanakcaaGreatDoor
set_option linter.unusedVariables false
set_option linter.unusedSimpArgs false
open Go.RowKit
set_option maxRecDepth 100000
def FMant (w : World) (v : FV) (X : Nat → Int) : Prop := 0 < v.n ∧ v.n ≤ v.c ∧ v.n < 65536 ∧ Rd w v.a v.n X ∧ WF X v.n ∧ 9223372036854775808 ≤ X (v.n - 1)
theorem FMant.chg {Z : Zone} {w w' : World} {v : FV} {X : Nat → Int} (h : FMant w v X) (k : Chg Z w w') (hz : ∀ b' o, zAddr v.a v.c b' o → ¬ Z b' o) : FMant w' v X := by
  obtain ⟨h1, h2, h3, h4, h5, h6⟩ := h
  refine ⟨h1, h2, h3, ?_, h5, h6⟩
  rcases h4 with hh | ⟨b', o, e', hw⟩
  · exact Or.inl hh
  · exact Or.inr ⟨b', o, e', hw.chg k (fun i hi => hz b' (o + i) ⟨o, e', by omega, by omega⟩)⟩
theorem RoundPost.base {w W w' : World} {b : Nat} {v : FV} {X : Nat → Int} {sb : Bool} {p : Nat} (h : RoundPost W b v X sb p w') (k : Chg (zRow b 0 7) w W) : RoundPost w b v X sb p w' := by
  refine ⟨fun hh => ?_, fun hh => ?_⟩
  · obtain ⟨h1, h2⟩ := h.1 hh
    exact ⟨h1, k.trans h2 (fun _ _ _ h => h)⟩
  · obtain ⟨v', Y, h1, h2, h3, h4, h5⟩ := h.2 hh
    exact ⟨v', Y, h1, h2, h3, h4, (k.mono (fun _ _ _ h => Or.inl h)).trans h5 (fun _ _ _ h => h)⟩
def SERPost (w : World) (b : Nat) (v : FV) (X : Nat → Int) (ex : Int) (sb : Bool) (p : Nat) (w' : World) : Prop :=
  (ex < -2147483648 → FNum w' b { v with ac := (if v.ng = true then 1 else -1), fm := 0 } X ∧ Chg (zRow b 0 7) w w') ∧
  (2147483647 < ex → FNum w' b { v with ac := (if (!v.ng) = true then 1 else -1), fm := 2 } X ∧ Chg (zRow b 0 7) w w') ∧
  (-2147483648 ≤ ex → ex ≤ 2147483647 → RoundPost w b { v with fm := 1, e := ex } X sb p w')
theorem FNum.zset {w : World} {b : Nat} {v : FV} {X : Nat → Int} (h : FNum w b v X) (o : Nat) (u : Value) : ZOK (w.setCell ⟨b, o, none⟩ u) v.a v.c :=
  h.z.chg (chg_cell _ _ _ _) (by rintro b' o' ⟨po, e, _⟩ hh; exact h.ap b' po e hh.1)
set_option maxHeartbeats 2000000 in
theorem setExpAndRound_any (b p : Nat) (v : FV) (X : Nat → Int) (ex sv : Int) (sb : Bool) (w : World) (h : FNum w b v X) (hm : FMant w v X) (hp : v.p = (p : Int)) (hsv : sv = 0 ∨ sv = 1) (hsb : sb = true ↔ sv = 1) :
    Calls Tryz.prog 134 #[.pointer (some ⟨b, 0, none⟩), .int .i64 ex, .int .u64 sv] w fun e w' => e = .returned (.tuple #[]) ∧ SERPost w b v X ex sb p w' := by
  have H := Lib.hid h
  have HM := Lib.hid hm
  obtain ⟨P, md, ac, fm, ng, a, n, c, e0⟩ := v
  obtain ⟨c0, c1, c2, c3, c4, c5, c6, cb⟩ := h.c
  have f2 := cb.fz 2
  have f3 := cb.fz 3
  have f6 := cb.fz 6
  simp only at hp c0 c1 c2 c3 c4 c5 c6
  have lb := cb.lt
  by_cases h1 : ex < -2147483648
  · have d1 : decide (ex < -2147483648) = true := by simp; omega
    have HA := Lib.hid (makeAcc_any ng w)
    obtain ⟨av, hav⟩ : ∃ x : Int, (if ng = true then 1 else -1) = x := ⟨_, rfl⟩
    rw [hav] at HA
    have Hav := Lib.hid hav
    have H1 := Lib.hid h1
    clear h hm cb hav h1
    go_enter Tryz.func134, Tryz.ntmps134
    go_wp2_with fail
    refine HA.out.mono ?_
    rintro e w2 ⟨rfl, rfl⟩
    go_wp2_with fail
    refine bodyPost_ret (results_none rfl _ _ _) rfl ?_
    have h1 := H1.out
    refine ⟨rfl, fun _ => ⟨?_, ((Chg.refl _ _).setCell _ _ _ (fun _ => ⟨rfl, by omega, by omega⟩)).setCell _ _ _ (fun _ => ⟨rfl, by omega, by omega⟩)⟩, fun hh => by omega, fun hh _ => by omega⟩
    have h2 := H.out.acc av
    simp only [Hav.out]
    exact ⟨h2.c.setFm 0, h2.zset 3 _, h2.ap, h2.p, h2.md, Or.inl rfl, h2.ex, fun e => by cases e⟩
  · have d1 : decide (ex < -2147483648) = false := by simp; omega
    by_cases h2 : 2147483647 < ex
    · have d2 : decide (2147483647 < ex) = true := by simp; omega
      have HA := Lib.hid (makeAcc_any (!ng) w)
      obtain ⟨av, hav⟩ : ∃ x : Int, (if (!ng) = true then 1 else -1) = x := ⟨_, rfl⟩
      rw [hav] at HA
      have Hav := Lib.hid hav
      have H1 := Lib.hid (And.intro h1 h2)
      clear h hm cb hav h1 h2
      go_enter Tryz.func134, Tryz.ntmps134
      go_wp2_with fail
      refine HA.out.mono ?_
      rintro e w2 ⟨rfl, rfl⟩
      go_wp2_with fail
      refine bodyPost_ret (results_none rfl _ _ _) rfl ?_
      obtain ⟨h1, h2⟩ := H1.out
      refine ⟨rfl, fun hh => by omega, fun _ => ⟨?_, ((Chg.refl _ _).setCell _ _ _ (fun _ => ⟨rfl, by omega, by omega⟩)).setCell _ _ _ (fun _ => ⟨rfl, by omega, by omega⟩)⟩, fun _ hh => by omega⟩
      have h2 := H.out.acc av
      simp only [Hav.out]
      exact ⟨h2.c.setFm 2, h2.zset 3 _, h2.ap, h2.p, h2.md, Or.inr (Or.inr rfl), h2.ex, fun e => by cases e⟩
    · have d2 : decide (2147483647 < ex) = false := by simp; omega
      have wr : IntKind.i32.wrap ex = ex := IntWalk.i32_in _ (by omega)
      obtain ⟨W, hW⟩ : ∃ W, W = (w.setCell ⟨b, 3, none⟩ (.int .u8 1)).setCell ⟨b, 6, none⟩ (.int .i32 ex) := ⟨_, rfl⟩
      have kW : Chg (zRow b 0 7) w W := by rw [hW]; exact ((Chg.refl _ _).setCell _ _ _ (fun _ => ⟨rfl, by omega, by omega⟩)).setCell _ _ _ (fun _ => ⟨rfl, by omega, by omega⟩)
      have hN : FNum W b ⟨P, md, ac, 1, ng, a, n, c, ex⟩ X := by
        have hap : ∀ b' o, zAddr a c b' o → ¬ zRow b 0 7 b' o := by
          rintro b' o ⟨po, e, _⟩ hh
          exact H.out.ap b' po e hh.1
        refine ⟨by rw [hW]; exact (h.c.setFm 1).setEx ex, h.z.chg kW hap, h.ap, h.p, h.md, Or.inr (Or.inl rfl), ?_, fun _ => hm.chg kW hap⟩
        simp only; omega
      have HR := Lib.hid (round_any b p ⟨P, md, ac, 1, ng, a, n, c, ex⟩ X sv sb W hN rfl hp hsv hsb)
      rw [hW] at HR
      have H1 := Lib.hid (And.intro h1 (And.intro h2 kW))
      have HW := Lib.hid hW
      clear h hm cb h1 h2 hN kW hW
      go_enter Tryz.func134, Tryz.ntmps134
      go_wp2_with fail
      refine HR.out.mono ?_
      rintro e w2 ⟨rfl, hr⟩
      have Hr := Lib.hid hr
      clear hr
      go_wp2_with fail
      go_end0
      obtain ⟨h1, h2, kW⟩ := H1.out
      have hr := Hr.out
      rw [← HW.out] at hr
      exact ⟨rfl, fun hh => by omega, fun hh => by omega, fun _ _ => hr.base kW⟩
end Go.Proofs.YtmgfajamanakcaaGreatDoor
namespace Go.Proofs.YtmgfajamanakcaaGreatDoor
set_option linter.unusedVariables false
set_option linter.unusedSimpArgs false
theorem Rnd.scale {N D c : Int} {p : Nat} {q t l : Int} (hc : 0 < c) (h : Rnd N D p q t l) : Rnd (c * N) (c * D) p q t l := by
  obtain ⟨a, b, h1, h2, h3, h4⟩ := h
  refine ⟨a, b, h1, ?_, h3, h4⟩
  have := (Cls.scale (c := c) hc).2 h2
  rwa [← Int.mul_assoc, ← Int.mul_assoc] at this
theorem Rounded.scale {neg : Bool} {N D c md m t acc : Int} {p : Nat} (hc : 0 < c) (h : Rounded neg N D p md m t acc) : Rounded neg (c * N) (c * D) p md m t acc := by
  obtain ⟨q, l, h1, h2, h3⟩ := h
  exact ⟨q, l, h1.scale hc, h2, h3⟩
theorem Rounded.shift {neg : Bool} {N D md m t acc : Int} {p c d : Nat} (h : Rounded neg N D p md m t acc) : Rounded neg (N * 2 ^ c) (D * 2 ^ d) p md m (t + c - d) acc := by
  obtain ⟨q, l, ⟨a, b, h1, h2, h3, h4⟩, h5, h6⟩ := h
  refine ⟨q, l, ⟨a + d, b + c, by push_cast; omega, ?_, h3, h4⟩, h5, h6⟩
  have := (Cls.scale (c := 2 ^ (c + d)) (two_pos (c + d))).2 h2
  rw [show (2 : Int) ^ (c + d) * (N * 2 ^ a) = N * 2 ^ c * 2 ^ (a + d) by rw [Int.pow_add, Int.pow_add]; grind, show (2 : Int) ^ (c + d) * (D * 2 ^ b) = D * 2 ^ d * 2 ^ (b + c) by rw [Int.pow_add, Int.pow_add]; grind] at this
  exact this
theorem Rounded.unscale {neg : Bool} {N D c md m t acc : Int} {p : Nat} (hc : 0 < c) (h : Rounded neg (c * N) (c * D) p md m t acc) : Rounded neg N D p md m t acc := by
  obtain ⟨q, l, ⟨a, b, h1, h2, h3, h4⟩, h5, h6⟩ := h
  refine ⟨q, l, ⟨a, b, h1, ?_, h3, h4⟩, h5, h6⟩
  refine (Cls.scale (c := c) hc).1 ?_
  rwa [← Int.mul_assoc, ← Int.mul_assoc]
theorem Rounded.unshift {neg : Bool} {N D md m t acc : Int} {p c d : Nat} (h : Rounded neg (N * 2 ^ c) (D * 2 ^ d) p md m t acc) : Rounded neg N D p md m (t + d - c) acc := by
  have h1 := h.shift (c := d) (d := c)
  rw [show N * 2 ^ c * 2 ^ d = 2 ^ (c + d) * N by rw [Int.pow_add]; grind, show D * 2 ^ d * 2 ^ c = 2 ^ (c + d) * D by rw [Int.pow_add]; grind] at h1
  exact h1.unscale (two_pos (c + d))
def DyEq (M e M' e' : Int) : Prop := ∃ a b : Nat, (a : Int) - b = e - e' ∧ M * 2 ^ a = M' * 2 ^ b
theorem DyEq.refl {M e : Int} : DyEq M e M e := ⟨0, 0, by simp, rfl⟩
theorem DyEq.symm {M e M' e' : Int} (h : DyEq M e M' e') : DyEq M' e' M e := by
  obtain ⟨a, b, h1, h2⟩ := h
  exact ⟨b, a, by omega, h2.symm⟩
theorem DyEq.trans {M e M' e' M2 e2 : Int} (h : DyEq M e M' e') (k : DyEq M' e' M2 e2) : DyEq M e M2 e2 := by
  obtain ⟨a, b, h1, h2⟩ := h
  obtain ⟨c, d, h3, h4⟩ := k
  refine ⟨a + c, b + d, by push_cast; omega, ?_⟩
  rw [Int.pow_add, Int.pow_add, ← Int.mul_assoc, h2, Int.mul_assoc, Int.mul_comm ((2 : Int) ^ b), ← Int.mul_assoc, h4]
  grind
theorem dy_digits {m v ex e5 : Int} {p n' L : Nat} (hp : p ≤ 64 * n') (hn : 1 ≤ n') (hL : p ≤ L) (h : (e5 = ex ∧ v = m * 2 ^ (64 * n' - p)) ∨ (m = 2 ^ p ∧ e5 = ex + 1 ∧ v = 2 ^ (64 * n' - 1))) :
    DyEq v (e5 - 64 * n') m (((L - p : Nat) : Int) + (ex - L)) := by
  rcases h with ⟨h1, h2⟩ | ⟨h1, h2, h3⟩
  · exact ⟨0, 64 * n' - p, by omega, by rw [h2]; simp⟩
  · refine ⟨1, 64 * n' - p, by omega, ?_⟩
    rw [h1, h3, ← Int.pow_add, ← Int.pow_add]
    congr 1; omega
theorem lftS_scale {r H c : Int} {sb : Bool} (hc : 0 < c) : lftS (r * c) (H * c) sb = lftS r H sb := by
  unfold lftS
  have e1 : (r * c = 0) ↔ r = 0 := by rw [Int.mul_eq_zero]; omega
  have e2 : (r * c < H * c) ↔ r < H := Int.mul_lt_mul_right hc
  have e3 : (r * c = H * c) ↔ r = H := ⟨fun h => Int.eq_of_mul_eq_mul_right (by omega) h, fun h => by rw [h]⟩
  simp only [e1, e2, e3]
theorem rm_scale {neg sb : Bool} {q md : Int} {L p s : Nat} (h : p + s < L) : rm neg (q * 2 ^ s) L p md sb = rm neg q (L - s) p md sb ∧ racc neg (q * 2 ^ s) L p md sb = racc neg q (L - s) p md sb := by
  have hp : (0 : Int) < 2 ^ s := Int.pow_pos (by decide)
  have e1 : L - p = (L - s - p) + s := by omega
  have e2 : L - p - 1 = (L - s - p - 1) + s := by omega
  have hq : rq (q * 2 ^ s) L p = rq q (L - s) p := by
    unfold rq
    rw [e1, Int.pow_add]
    exact Int.mul_ediv_mul_of_pos_left _ _ hp
  have hl : rl (q * 2 ^ s) L p sb = rl q (L - s) p sb := by
    unfold rl
    rw [e2, e1, Int.pow_add, Int.pow_add]
    have := Int.mul_emod_mul_of_pos (a := 2 ^ s) q (2 ^ (L - s - p)) hp
    rw [Int.mul_comm (2 ^ s) q, Int.mul_comm (2 ^ s) (2 ^ (L - s - p)), Int.mul_comm (2 ^ s) (q % 2 ^ (L - s - p))] at this
    rw [this]
    exact lftS_scale hp
  have hi : rinc neg (q * 2 ^ s) L p md sb = rinc neg q (L - s) p md sb := by
    unfold rinc; rw [hq, hl]
  exact ⟨by unfold rm; rw [hq, hi], by unfold racc; rw [hi, hl]⟩
end Go.Proofs.YtmgfajamanakcaaGreatDoor
namespace Go.Proofs.YtmgfajamanakcaaGreatDoor
set_option linter.unusedVariables false
set_option linter.unusedSimpArgs false
open Go.RowKit
set_option maxRecDepth 100000
structure FVal (v : FV) (Y : Nat → Int) (neg : Bool) (N D E : Int) (p : Nat) (md : Int) : Prop where
  fm : v.fm = 1
  ex : ∃ m t, Rounded neg N D p md m t v.ac ∧ DyEq (val Y v.n) (v.e - 64 * v.n) m (t + E)
structure FNew (w : World) (b : Nat) (v : FV) (w' : World) (v' : FV) (Y : Nat → Int) : Prop where
  num : FNum w' b v' Y
  p : v'.p = v.p
  md : v'.md = v.md
  home : Home w v.a v.c v'.a v'.c
  chg : Chg (zF b v) w w'
theorem FNew.base {w w1 w' : World} {b : Nat} {v v1 v' : FV} {Y : Nat → Int} (h : FNew w1 b v1 w' v' Y) (hp : v1.p = v.p) (hm : v1.md = v.md) (hh : Home w v.a v.c v1.a v1.c) (k : Chg (zF b v) w w1) : FNew w b v w' v' Y := by
  refine ⟨h.num, h.p.trans hp, h.md.trans hm, ?_, k.trans h.chg ?_⟩
  · rcases h.home with ⟨e1, e2⟩ | ⟨b2, o2, e, hb⟩
    · rw [e1, e2]; exact hh
    · exact Or.inr ⟨b2, o2, e, by have := k.size; omega⟩
  · rintro b' o hb (hz | hz)
    · exact Or.inl hz
    · exact Or.inr (hh.zone b' o hb hz)
structure SAll (w : World) (b p : Nat) (v : FV) (X : Nat → Int) (ex : Int) (sb : Bool) (w' : World) (v' : FV) (Y : Nat → Int) : Prop where
  new : FNew w b v w' v' Y
  ng : v'.ng = v.ng
  len : v'.fm = 1 → 64 * v'.n ≤ p + 63
  fms : -2147483648 ≤ ex → v'.fm = 2 ∨ (v'.fm = 1 ∧ ex ≤ v'.e ∧ v'.e ≤ ex + 1)
  vl : -1073741824 ≤ ex → ex ≤ 1073741824 → ∀ N D : Int, 0 < D → val X v.n = N / D → (sb = true ↔ N % D ≠ 0) → (64 * v.n ≤ p → N % D = 0) → FVal v' Y v.ng N D (ex - 64 * v.n) p v.md
  valq : -1073741824 ≤ ex → ex ≤ 1073741824 → ∀ (N D q : Int) (s : Nat), 0 < D → val X v.n = q * 2 ^ s → q = N / D → (sb = true ↔ N % D ≠ 0) → p + s < 64 * v.n → FVal v' Y v.ng N D (ex - 64 * v.n + s) p v.md
theorem ser_all {w w' : World} {b p : Nat} {v : FV} {X : Nat → Int} {ex : Int} {sb : Bool} (h : SERPost w b v X ex sb p w') (hm : FMant w v X) (hp1 : 1 ≤ p) : ∃ v' Y, SAll w b p v X ex sb w' v' Y := by
  obtain ⟨h1, h2, h3, h4, h5, h6⟩ := hm
  obtain ⟨t1, t2⟩ := val_ge_top h5 h1 h6
  by_cases c1 : ex < -2147483648
  · obtain ⟨g1, g2⟩ := h.1 c1
    exact ⟨_, X, ⟨⟨g1, rfl, rfl, Or.inl ⟨rfl, rfl⟩, g2.mono (fun _ _ _ h => Or.inl h)⟩, rfl, (fun e => by cases e), (fun hh => by omega), (fun hh => by omega), (fun hh => by omega)⟩⟩
  · by_cases c2 : 2147483647 < ex
    · obtain ⟨g1, g2⟩ := h.2.1 c2
      exact ⟨_, X, ⟨⟨g1, rfl, rfl, Or.inl ⟨rfl, rfl⟩, g2.mono (fun _ _ _ h => Or.inl h)⟩, rfl, (fun e => by cases e), (fun _ => Or.inl rfl), (fun _ hh => by omega), (fun _ hh => by omega)⟩⟩
    · have hR := h.2.2 (by omega) (by omega)
      by_cases hle : 64 * v.n ≤ p
      · obtain ⟨g1, g2⟩ := hR.1 hle
        refine ⟨_, X, ⟨⟨g1, rfl, rfl, Or.inl ⟨rfl, rfl⟩, g2.mono (fun _ _ _ h => Or.inl h)⟩, rfl, fun _ => by simp only; omega, fun _ => Or.inr ⟨rfl, by simp only; omega, by simp only; omega⟩, fun hx1 hx2 N D hD hM hsb hfit => ⟨rfl, ?_⟩, fun _ _ N D q s _ _ _ _ hh => by omega⟩⟩
        have hz := hfit hle
        have e0 := Int.emod_add_mul_ediv N D
        rw [hz, Int.zero_add, ← hM] at e0
        have hr := (rounded_exact (neg := v.ng) (M := val X v.n) (md := v.md) (p := p) (L := 64 * v.n) hp1 hle t1 t2 (by omega)).scale hD
        rw [e0, Int.mul_one] at hr
        exact ⟨_, _, hr, ⟨p - 64 * v.n, 0, by simp only; omega, by simp⟩⟩
      · obtain ⟨v', Y, g1, g2, g3, g4, g5⟩ := hR.2 (by simp only; omega)
        have hnp : (p + 63) / 64 * 64 ≥ p ∧ 1 ≤ (p + 63) / 64 := by omega
        have hac := g1.ac
        have hvl := g1.vl
        simp only at hac hvl
        refine ⟨v', Y, ⟨⟨g2, g1.pr, g1.md, Or.inl ⟨g3, g4⟩, g5⟩, g1.ng, fun hf => ?_, fun _ => ?_, fun hx1 hx2 N D hD hM hsb hfit => ?_, fun hx1 hx2 N D q s hD hM hq hsb hps => ?_⟩⟩
        · rcases hvl with ⟨k1, k2, k3, k4, k5⟩ | ⟨k1, k2, k3, k4, k5, k6⟩ | ⟨k1, k2, k3⟩
          · omega
          · omega
          · omega
        · rcases hvl with ⟨k1, k2, k3, k4, k5⟩ | ⟨k1, k2, k3, k4, k5, k6⟩ | ⟨k1, k2, k3⟩
          · exact Or.inr ⟨k2, by omega, by omega⟩
          · exact Or.inr ⟨k3, by omega, by omega⟩
          · exact Or.inl k3
        · have hq := rounded_of (neg := v.ng) (md := v.md) hD hM hsb hp1 (show p < 64 * v.n by omega) t1 t2
          rcases hvl with ⟨k1, k2, k3, k4, k5⟩ | ⟨k1, k2, k3, k4, k5, k6⟩ | ⟨k1, k2, k3⟩
          · refine ⟨k2, ⟨_, _, by rw [hac]; exact hq, ?_⟩⟩
            have := dy_digits (m := rm v.ng (val X v.n) (64 * v.n) p v.md sb) (v := val Y v'.n) (ex := ex) (e5 := v'.e) (p := p) (n' := v'.n) (L := 64 * v.n) (by omega) (by omega) (by omega) (Or.inl ⟨k4, k5⟩)
            simpa using this
          · refine ⟨k3, ⟨_, _, by rw [hac]; exact hq, ?_⟩⟩
            have := dy_digits (m := rm v.ng (val X v.n) (64 * v.n) p v.md sb) (v := val Y v'.n) (ex := ex) (e5 := v'.e) (p := p) (n' := v'.n) (L := 64 * v.n) (by omega) (by omega) (by omega) (Or.inr ⟨k1, k5, k6⟩)
            simpa using this
          · omega
        · have hs2 : (0 : Int) < 2 ^ s := Int.pow_pos (by decide)
          obtain ⟨z1, z2⟩ := rm_scale (neg := v.ng) (sb := sb) (q := q) (md := v.md) (L := 64 * v.n) (p := p) (s := s) hps
          rw [← hM] at z1 z2
          have tq1 : 2 ^ (64 * v.n - s - 1) ≤ q := by
            rw [hM, show 64 * v.n - 1 = 64 * v.n - s - 1 + s by omega, Int.pow_add] at t1
            exact Int.le_of_mul_le_mul_right t1 hs2
          have tq2 : q < 2 ^ (64 * v.n - s) := by
            rw [hM, show 64 * v.n = 64 * v.n - s + s by omega, Int.pow_add] at t2
            exact Int.lt_of_mul_lt_mul_right t2 (Int.le_of_lt hs2)
          have hr := rounded_of (neg := v.ng) (md := v.md) hD hq hsb hp1 (show p < 64 * v.n - s by omega) tq1 tq2
          rw [← z1, ← z2] at hr
          rcases hvl with ⟨k1, k2, k3, k4, k5⟩ | ⟨k1, k2, k3, k4, k5, k6⟩ | ⟨k1, k2, k3⟩
          · refine ⟨k2, ⟨_, _, by rw [hac]; exact hr, ?_⟩⟩
            have := dy_digits (m := rm v.ng (val X v.n) (64 * v.n) p v.md sb) (v := val Y v'.n) (ex := ex) (e5 := v'.e) (p := p) (n' := v'.n) (L := 64 * v.n) (by omega) (by omega) (by omega) (Or.inl ⟨k4, k5⟩)
            rw [show ((64 * v.n - s - p : Nat) : Int) + (ex - 64 * v.n + s) = ((64 * v.n - p : Nat) : Int) + (ex - ((64 * v.n : Nat) : Int)) by omega]
            exact this
          · refine ⟨k3, ⟨_, _, by rw [hac]; exact hr, ?_⟩⟩
            have := dy_digits (m := rm v.ng (val X v.n) (64 * v.n) p v.md sb) (v := val Y v'.n) (ex := ex) (e5 := v'.e) (p := p) (n' := v'.n) (L := 64 * v.n) (by omega) (by omega) (by omega) (Or.inr ⟨k1, k5, k6⟩)
            rw [show ((64 * v.n - s - p : Nat) : Int) + (ex - 64 * v.n + s) = ((64 * v.n - p : Nat) : Int) + (ex - ((64 * v.n : Nat) : Int)) by omega]
            exact this
          · omega
theorem FVal.conv {v : FV} {Y : Nat → Int} {neg : Bool} {N D E md : Int} {p c d : Nat} (h : FVal v Y neg (N * 2 ^ c) (D * 2 ^ d) E p md) : FVal v Y neg N D (E + c - d) p md := by
  obtain ⟨h1, m, t, h2, h3⟩ := h
  refine ⟨h1, m, _, h2.unshift, ?_⟩
  rw [show t + (d : Int) - c + (E + c - d) = t + E by omega]
  exact h3
theorem gt_words {x1 x2 y1 y2 : Int} (h1 : U64 x1) (h2 : U64 x2) (h3 : U64 y1) (h4 : U64 y2) : (y1 < x1 ∨ (x1 = y1 ∧ y2 < x2)) ↔ y1 * BB + y2 < x1 * BB + x2 := by
  unfold U64 at *
  unfold BB
  constructor
  · rintro (h | ⟨h, h'⟩) <;> omega
  · intro h; omega
theorem greaterThan_any (x1 x2 y1 y2 : Int) (w : World) (h1 : U64 x1) (h2 : U64 x2) (h3 : U64 y1) (h4 : U64 y2) :
    Calls Tryz.prog 242 #[.int .u64 x1, .int .u64 x2, .int .u64 y1, .int .u64 y2] w fun e w' => e = .returned (.bool (decide (y1 * BB + y2 < x1 * BB + x2))) ∧ w' = w := by
  have hk := gt_words h1 h2 h3 h4
  obtain ⟨B, hB⟩ : ∃ B, decide (y1 * BB + y2 < x1 * BB + x2) = B := ⟨_, rfl⟩
  have HB := Lib.hid hB
  by_cases c1 : y1 < x1
  · have d1 : decide (y1 < x1) = true := by simp [c1]
    have HT : Hid (B = true) := by unfold Hid; rw [← hB]; exact decide_eq_true (hk.1 (Or.inl c1))
    clear hB hk c1
    go_enter Tryz.func242, Tryz.ntmps242
    go_wp2
    go_ret
    exact ⟨by rw [HB.out, HT.out]; rfl, rfl⟩
  · have d1 : decide (y1 < x1) = false := by simp; omega
    by_cases c2 : x1 = y1
    · have d2 : (x1 == y1) = true := by simp [c2]
      by_cases c3 : y2 < x2
      · have d3 : decide (y2 < x2) = true := by simp [c3]
        have HT : Hid (B = true) := by unfold Hid; rw [← hB]; exact decide_eq_true (hk.1 (Or.inr ⟨c2, c3⟩))
        clear hB hk c1 c2 c3
        go_enter Tryz.func242, Tryz.ntmps242
        go_wp2
        go_ret
        exact ⟨by rw [HB.out, HT.out]; rfl, rfl⟩
      · have d3 : decide (y2 < x2) = false := by simp; omega
        have HT : Hid (B = false) := by unfold Hid; rw [← hB]; exact decide_eq_false (fun h => by have := hk.2 h; omega)
        clear hB hk c1 c2 c3
        go_enter Tryz.func242, Tryz.ntmps242
        go_wp2
        go_ret
        exact ⟨by rw [HB.out, HT.out]; rfl, rfl⟩
    · have d2 : (x1 == y1) = false := by simp [c2]
      have HT : Hid (B = false) := by unfold Hid; rw [← hB]; exact decide_eq_false (fun h => by have := hk.2 h; omega)
      clear hB hk c1 c2
      go_enter Tryz.func242, Tryz.ntmps242
      go_wp2
      go_ret
      exact ⟨by rw [HB.out, HT.out]; rfl, rfl⟩
theorem mulWW_any (x y : Int) (w : World) (hx : U64 x) (hy : U64 y) :
    Calls Tryz.prog 212 #[.int .u64 x, .int .u64 y] w (TwoWords (fun hi lo => U64 hi ∧ U64 lo ∧ hi * BB + lo = x * y) w) := by
  have HM := Lib.hid (Mul_any x y w hx hy)
  clear hx hy
  go_enter Tryz.func212, Tryz.ntmps212
  go_wp2_with fail
  refine HM.out.mono ?_
  rintro e w1 ⟨hi, lo, rfl, h, rfl⟩
  have H := Lib.hid h
  clear h
  go_wp2
  go_ret2
  exact ⟨hi, lo, rfl, H.out, rfl⟩
theorem chg_cell' (w : World) (b o : Nat) (v : Value) : Chg (zRow b o 1) w (w.setCell ⟨b, o, none⟩ v) := (Chg.refl _ _).setCell b o v (fun _ => ⟨rfl, by omega, by omega⟩)
set_option maxHeartbeats 4000000 in
theorem sqr_few (az ax : Option Addr) (zl zc n xc : Nat) (X : Nat → Int) (stk : Value) (w : World) (hz : ZOK w az zc) (hx : NatIn w ax n xc X) (hox : Own az zc ax n xc) (hn : 2 ≤ n) (hn12 : n < 12)
    (h5 : w.cell? ⟨5, 0, none⟩ = some (.int .i64 12)) (h6 : w.cell? ⟨6, 0, none⟩ = some (.int .i64 80)) :
    Calls Tryz.prog 163 #[.slice az zl zc, stk, .slice ax n xc] w (NatRes w az zc (val X n * val X n)) := by
  obtain ⟨bx, ox, rfl, hX⟩ := hx.words (by omega)
  have hbx : bx < w.heap.size := lt_of_cell (hX 0 (by omega))
  have HX := Lib.hid hX
  have Hx := Lib.hid hx
  have Hz := Lib.hid hz
  have Ho := Lib.hid hox
  have HK := Lib.hid (And.intro h5 h6)
  have d0 : ((n : Int) == 0) = false := beq_false_of_ne (by omega)
  have d1 : ((n : Int) == 1) = false := beq_false_of_ne (by omega)
  have hzc := hz.cap
  clear hz hx hox hX h5 h6
  obtain ⟨B, hB⟩ : ∃ B, aliasB az zc (some ⟨bx, ox, none⟩) xc = B := ⟨_, rfl⟩
  have HB := Lib.hid hB
  clear hB
  go_enter Tryz.func163, Tryz.ntmps163
  go_wp2_with fail
  refine (alias_any az (some ⟨bx, ox, none⟩) zl zc n xc _ Hz.out.aok Hx.out.aok).mono ?_
  rintro e w1 ⟨rfl, n1, rfl⟩
  rw [HB.out]
  go_upto_if 38 with fail
  go_cut [0] (MulCut w az zc (some ⟨bx, ox, none⟩) n (some ⟨bx, ox, none⟩) n)
  case first =>
    cases B with
    | true =>
      go_wp2
      go_meet
      exact ⟨none, 0, 0, rfl, ⟨n1, rfl⟩, Or.inr ⟨rfl, rfl⟩, disj_none, disj_none⟩
    | false =>
      go_wp2
      go_meet
      exact ⟨az, zl, zc, rfl, ⟨n1, rfl⟩, Or.inl ⟨rfl, rfl⟩, Ho.out.disj Hz.out HB.out, Ho.out.disj Hz.out HB.out⟩
  case rest =>
    obtain ⟨a', l', c', rfl, ⟨k, rfl⟩, HC⟩ := hcut
    have Hz' : Hid (ZOK (w.drewN k) a' c') := by
      rcases HC.out.1 with ⟨rfl, rfl⟩ | ⟨rfl, rfl⟩
      · exact Hz.out
      · exact Or.inl ⟨rfl, rfl⟩
    have s1 : IntKind.i64.wrap (2 * (n : Int)) = 2 * (n : Int) := IntWalk.i64_in _ (by omega)
    go_wp2_with fail
    rw [show (2 * (n : Int)) = ((n + n : Nat) : Int) from by omega]
    refine (make_any a' l' c' (n + n) _ Hz'.out (by omega)).mono ?_
    rintro e w1 ⟨a, c, rfl, h1, h2, h3, h4⟩
    obtain ⟨b, o, rfl, hb1, hroom⟩ := h2.room (by omega)
    have hcap := h2.cap
    have hK5 : w1.cell? ⟨5, 0, none⟩ = some (.int .i64 12) := h4.cell HK.out.1 (fun h => h)
    have hK6 : w1.cell? ⟨6, 0, none⟩ = some (.int .i64 80) := h4.cell HK.out.2 (fun h => h)
    have d2 : decide ((n : Int) < 12) = true := by simp; omega
    have d3 : decide ((n : Int) < 80) = true := by simp; omega
    have H := Lib.hid (And.intro h1 (And.intro h2 (And.intro h3 (And.intro h4 (And.intro hb1 hroom)))))
    have h1' : n + n ≤ c := h1
    clear h1 h2 h3 h4 hroom hb1
    go_wp2_with fail
    refine (basicMul_any bx ox bx ox b o n n xc xc (n + n) c X X w1 (by omega) (by omega) (by omega) (by omega) (HX.out.chg (w := w.drewN k) H.out.2.2.2.1 (fun _ _ h => h)) Hx.out.wf (HX.out.chg (w := w.drewN k) H.out.2.2.2.1 (fun _ _ h => h)) Hx.out.wf (H.out.2.2.2.2.2.le h1') rfl h1'
      (disj_home (w := w.drewN k) H.out.2.2.1 HC.out.2.1 hbx h1') (disj_home (w := w.drewN k) H.out.2.2.1 HC.out.2.2 hbx h1')).mono ?_
    rintro e w2 ⟨⟨v, rfl⟩, Z, q1, q2, q3, q4⟩
    have HQ := Lib.hid (And.intro q1 (And.intro q2 (And.intro q3 q4)))
    clear q1 q2 q3 q4
    go_wp2_with fail
    refine (norm_any (some ⟨b, o, none⟩) (n + n) c Z _ (Or.inr ⟨b, o, rfl, HQ.out.2.1⟩) h1' hcap).mono ?_
    rintro e w3 ⟨i, rfl, n1, n2, n3, rfl⟩
    have HN := Lib.hid (And.intro n1 (And.intro n2 n3))
    clear n1 n2 n3
    go_wp2
    go_ret
    have hnn := natres_close (w := w.drewN k) H.out HQ.out.1 HQ.out.2.1 HQ.out.2.2.1 HQ.out.2.2.2 HN.out.1 HN.out.2.1 HN.out.2.2
    exact natres_nil (n := k) HC.out.1 rfl hnn
set_option maxHeartbeats 4000000 in
theorem sqr_one (az ax : Option Addr) (zl zc xc : Nat) (X : Nat → Int) (stk : Value) (w : World) (hz : ZOK w az zc) (hx : NatIn w ax 1 xc X) :
    Calls Tryz.prog 163 #[.slice az zl zc, stk, .slice ax 1 xc] w (NatRes w az zc (val X 1 * val X 1)) := by
  obtain ⟨bx, ox, rfl, hX⟩ := hx.words (by omega)
  have hc := hX 0 (by omega)
  simp only [Nat.add_zero] at hc
  obtain ⟨x, hxe⟩ : ∃ x, X 0 = x := ⟨_, rfl⟩
  have hxw := hx.wf 0 (by omega)
  rw [hxe] at hc hxw
  have Hxe := Lib.hid hxe
  have HM := Lib.hid (make_any az zl zc 2 w hz (by omega))
  clear hz hx hX hxe
  go_enter Tryz.func163, Tryz.ntmps163
  go_wp2_with fail
  refine HM.out.mono ?_
  rintro e w1 ⟨a, c, rfl, h1, h2, h3, h4⟩
  obtain ⟨b, o, rfl, hb1, hroom⟩ := h2.room (by omega)
  have hcap := h2.cap
  have H := Lib.hid (And.intro h1 (And.intro h2 (And.intro h3 (And.intro h4 (And.intro hb1 hroom)))))
  obtain ⟨⟨y0, hy0⟩, hf0⟩ := hroom 0 (by omega)
  obtain ⟨⟨y1, hy1⟩, hf1⟩ := hroom 1 (by omega)
  simp only [Nat.add_zero] at hy0 hf0
  clear h2 h3 h4 hroom hb1
  have HW := Lib.hid (mulWW_any x x w1 hxw hxw)
  go_wp2_with fail
  refine HW.out.mono ?_
  rintro e w2 ⟨hi, lo, rfl, hm, rfl⟩
  have Hm := Lib.hid hm
  clear hm
  go_wp2_with fail
  have k1 := chg_cell' w1 b (o + 1) (.int .u64 hi)
  have k2 := chg_cell' (w1.setCell ⟨b, o + 1, none⟩ (.int .u64 hi)) b o (.int .u64 lo)
  have HZ : Hid (Words ((w1.setCell ⟨b, o + 1, none⟩ (.int .u64 hi)).setCell ⟨b, o, none⟩ (.int .u64 lo)) b o 2 (fun i => if i = 0 then lo else hi)) := fun i hi2 => by
    by_cases e : i = 0
    · subst e
      show World.cell? _ ⟨b, o, none⟩ = some (.int .u64 lo)
      exact cs_same (k1.cell hy0 (fun h => by have := h.2.1; omega))
    · obtain rfl : i = 1 := by omega
      show World.cell? _ ⟨b, o + 1, none⟩ = some (Value.int .u64 hi)
      exact k2.cell (cs_same hy1) (fun h => by have := h.2.2; omega)
  have HC := Lib.hid (show Chg (zRow b o 2) w1 ((w1.setCell ⟨b, o + 1, none⟩ (.int .u64 hi)).setCell ⟨b, o, none⟩ (.int .u64 lo)) from (k1.mono (fun b' o' _ h => ⟨h.1, by have := h.2.1; omega, by have := h.2.2; omega⟩)).trans k2 (fun b' o' _ h => ⟨h.1, h.2.1, by have := h.2.2; omega⟩))
  have HF : Hid (WF (fun i => if i = 0 then lo else hi) 2) := fun i hi2 => by
    by_cases e : i = 0
    · subst e; exact Hm.out.2.1
    · obtain rfl : i = 1 := by omega
      exact Hm.out.1
  have HV : Hid (val (fun i => if i = 0 then lo else hi) 2 = val X 1 * val X 1) := by
    unfold Hid
    rw [val_one, Hxe.out, ← Hm.out.2.2]
    simp [val, BB_succ]
    rw [Int.mul_comm]; omega
  clear k1 k2
  refine (norm_any (some ⟨b, o, none⟩) 2 c (fun i => if i = 0 then lo else hi) _ (Or.inr ⟨b, o, rfl, HZ.out⟩) h1 hcap).mono ?_
  rintro e w3 ⟨i, rfl, n1, n2, n3, rfl⟩
  have HN := Lib.hid (And.intro n1 (And.intro n2 n3))
  clear n1 n2 n3
  go_wp2
  go_ret
  exact natres_close (w := w) H.out HC.out HZ.out HF.out HV.out HN.out.1 HN.out.2.1 HN.out.2.2
theorem sqr_any (az ax : Option Addr) (zl zc n xc : Nat) (X : Nat → Int) (stk : Value) (w : World) (hz : ZOK w az zc) (hx : NatIn w ax n xc X) (hox : Own az zc ax n xc) (hn12 : n < 12)
    (h5 : w.cell? ⟨5, 0, none⟩ = some (.int .i64 12)) (h6 : w.cell? ⟨6, 0, none⟩ = some (.int .i64 80)) :
    Calls Tryz.prog 163 #[.slice az zl zc, stk, .slice ax n xc] w (NatRes w az zc (val X n * val X n)) := by
  rcases Nat.lt_trichotomy n 1 with h | h | h
  · obtain rfl : n = 0 := by omega
    have Hz := Lib.hid hz
    have hzc := hz.cap
    clear hz hx hox h5 h6
    go_enter Tryz.func163, Tryz.ntmps163
    go_wp2
    go_ret
    exact ⟨az, 0, zc, fun _ => 0, rfl, Nat.zero_le _, Hz.out, Or.inl rfl, fun i hi => by omega, Or.inl rfl, by simp [val], Or.inl ⟨rfl, rfl⟩, Chg.refl _ _⟩
  · subst h
    exact sqr_one az ax zl zc xc X stk w hz hx
  · exact sqr_few az ax zl zc n xc X stk w hz hx hox (by omega) hn12 h5 h6
theorem rd_far {w w' : World} {a : Option Addr} {n : Nat} {X : Nat → Int} {Z : Zone} (h : Rd w a n X) (k : Chg Z w w') (hz : ∀ b o i, a = some ⟨b, o, none⟩ → i < n → ¬ Z b (o + i)) : Rd w' a n X := by
  rcases h with h | ⟨b, o, e, hw⟩
  · exact Or.inl h
  · exact Or.inr ⟨b, o, e, hw.chg k (fun i hi => hz b o i e hi)⟩
theorem fresh_far {w0 : World} {a : Option Addr} {b zb : Nat} (h : Fresh w0 a) (hzb : zb < w0.heap.size) {o : Nat} (e : a = some ⟨b, o, none⟩) : b ≠ zb := by
  rcases h with h | ⟨b', o', h, hb⟩
  · rw [h] at e; cases e
  · rw [h] at e; injection e with e; injection e with e1 _; omega
theorem Bits_any (zb zo : Nat) (neg : Bool) (a : Option Addr) (n c : Nat) (w : World) (hz : IntC w zb zo neg a n c) :
    Calls Tryz.prog 148 #[.pointer (some ⟨zb, zo, none⟩)] w fun e w' => e = .returned (.slice a n c) ∧ w = w' := by
  obtain ⟨z0, z1, z2, z3⟩ := hz
  go_enter Tryz.func148, Tryz.ntmps148
  go_wp2
  go_ret
  exact ⟨rfl, rfl⟩
theorem info22 : (Tryz.prog.info? 22).map (fun i => (i.zero, i.size, i.bytes)) = some (some (.int .u64 0), 1, 8) := by kernel_rfl
theorem new_uints (w : World) (X : Nat → Int) (n k : Nat) :
    Words (w.alloc (.cells ((wordVals X n).toArray ++ Array.replicate k (.int .u64 0)) 22)) w.heap.size 0 n X ∧ Room (w.alloc (.cells ((wordVals X n).toArray ++ Array.replicate k (.int .u64 0)) 22)) w.heap.size 0 (n + k) := by
  have hget : ∀ i, i < n → ((wordVals X n).toArray ++ Array.replicate k (Value.int .u64 0))[i]? = some (.int .u64 (X i)) := fun i hi => by
    rw [Array.getElem?_append_left (by simpa [wordVals] using hi)]
    simp [wordVals, hi]
  have hget2 : ∀ i, n ≤ i → i < n + k → ((wordVals X n).toArray ++ Array.replicate k (Value.int .u64 0))[i]? = some (.int .u64 0) := fun i h1 h2 => by
    rw [Array.getElem?_append_right (by simpa [wordVals] using h1)]
    simp only [List.size_toArray, wordVals_length]
    rw [Array.getElem?_replicate, if_pos (by omega)]
  refine ⟨fun i hi => ?_, fun i hi => ⟨?_, frozen?_alloc_new w _ _ _⟩⟩
  · rw [Nat.zero_add]; exact cell?_alloc_new w _ _ _ _ (hget i hi)
  · rw [Nat.zero_add]
    by_cases h : i < n
    · exact ⟨_, cell?_alloc_new w _ _ _ _ (hget i h)⟩
    · exact ⟨_, cell?_alloc_new w _ _ _ _ (hget2 i (by omega) hi)⟩
theorem run_append_uint (a : Option Addr) (n c : Nat) (X : Nat → Int) (x : Int) (W : World) (hz : ZOK W a c) (hr : Rd W a n X) (hnc : n ≤ c) (hn : n < 1099511627776) (ad : Addr) (hx : W.cell? ad = some (.int .u64 x)) (ty : TypeId) :
    ∃ a' c' W', (Builtin.append_ #[23, 23] ty #[.slice a n c, .slice (some ad) 1 1]).run Tryz.prog W = .ok (.slice a' (n + 1) c') W' ∧ AppRes W a n c X x a' c' W' := by
  obtain ⟨i0, hi, hz0, hz1, hz2⟩ := info_parts info22
  have hnews : ∀ j v, [Value.int .u64 x][j]? = some v → W.cell? (ad.add j) = some v := fun j v h => by
    cases j with
    | zero => simp at h; subst h; simpa [Addr.add] using hx
    | succ j => simp at h
  have hupd : ∀ i, i < n → X i = upd X n x i := fun i hi => (upd_other X x (by omega)).symm
  rcases hz with ⟨rfl, rfl⟩ | ⟨b, o, rfl, hb, hroom, hcap⟩
  · obtain rfl : n = 0 := by omega
    have hrun := run_append_nil (P := Tryz.prog) W 23 ty 22 i0 (.int .u64 0) Tryz.underlying23 hi hz0 ad 1 1 [.int .u64 x] (by rw [hz1]; rfl) hnews (by omega) (by omega) (by rw [hz2]; omega)
    have hg := grownCap_ge W 1 0 22 (by omega)
    have hw := new_uints W.drew (fun _ => x) 1 (grownCap W 1 0 22 - 1)
    rw [show ((Value.int .u64 0).cells) = #[Value.int .u64 0] from rfl, zeroCells_word] at hrun
    refine ⟨_, _, _, hrun, by omega, Or.inr ⟨_, _, rfl, PB.new W.drew _ _, ?_, hg.2⟩, Or.inr ⟨_, _, rfl, ?_⟩, Or.inr ⟨_, _, rfl, Nat.le_refl _⟩, chg_drew_alloc _ _ _⟩
    · have := hw.2
      rwa [show 1 + (grownCap W 1 0 22 - 1) = grownCap W 1 0 22 by omega] at this
    · exact hw.1.congr (fun i hi => by obtain rfl : i = 0 := by omega
                                       exact (upd_same X 0 x).symm)
  · have hX : n = 0 ∨ Words W b o n X := by
      rcases hr with h | ⟨b', o', e, hw⟩
      · exact Or.inl h
      · injection e with e; injection e with e1 e2; subst e1; subst e2; exact Or.inr hw
    have hX' : Words W b o n X := by
      rcases hX with h | h
      · intro i hi; omega
      · exact h
    by_cases hfit : n + 1 ≤ c
    · have hrun := run_append_room_cells (P := Tryz.prog) W 23 ty 22 i0 Tryz.underlying23 hi b o n c ad 1 1 [.int .u64 x] (by rw [hz1]; rfl) hnews (fun u hu => by simp at hu; subst hu; rfl) hfit
        (fun j hj => by
          obtain rfl : j = 0 := by simp at hj; exact hj
          rw [hz1, Nat.mul_one, Nat.add_zero]
          obtain ⟨⟨y, hy⟩, _⟩ := hroom n (by omega)
          rw [hy]; rfl)
        (fun j hj => by
          obtain rfl : j = 0 := by simp at hj; exact hj
          rw [hz1, Nat.mul_one, Nat.add_zero]
          exact (hroom n (by omega)).2)
      rw [hz1, Nat.mul_one] at hrun
      have hwd : W.setCells b (o + n) [.int .u64 x] = W.setCell ⟨b, o + n, none⟩ (.int .u64 x) := rfl
      rw [hwd] at hrun
      refine ⟨_, _, _, hrun, hfit, ?_, Or.inr ⟨b, o, rfl, hX'.snoc ?_⟩, Or.inl ⟨rfl, rfl⟩, (Chg.refl _ _).setCell b (o + n) _ (fun _ => ⟨o, rfl, by omega, by omega⟩)⟩
      · exact ZOK.setInt (Or.inr ⟨b, o, rfl, hb, hroom, hcap⟩) b (o + n) x
      · obtain ⟨⟨y, hy⟩, _⟩ := hroom n (by omega)
        rw [hy]; rfl
    · have holds : ∀ j v, (wordVals X n)[j]? = some v → W.cell? ((⟨b, o, none⟩ : Addr).add j) = some v := fun j v h => by
        obtain ⟨hj, rfl⟩ := wordVals_get X n j v h
        have := hX' j hj
        by_cases h0 : j = 0
        · subst h0; simpa [Addr.add] using this
        · simpa [Addr.add, h0] using this
      have hrun := run_append_grow (P := Tryz.prog) W 23 ty 22 i0 (.int .u64 0) Tryz.underlying23 hi hz0 ⟨b, o, none⟩ n c (wordVals X n) (by rw [wordVals_length, hz1, Nat.mul_one]) holds ad 1 1 [.int .u64 x] (by rw [hz1]; rfl) hnews (by omega) (by omega)
        (by rw [hz2]; exact growslice_fits (by omega) (by omega))
      have hg := grownCap_ge W (n + 1) c 22 (by omega)
      have hcat : (wordVals X n).toArray ++ [Value.int .u64 x].toArray = (wordVals (upd X n x) (n + 1)).toArray := by
        unfold wordVals
        rw [List.range_succ, List.map_append]
        simp only [List.map_cons, List.map_nil, upd_same]
        rw [← List.append_toArray]
        congr 2
        apply List.map_congr_left
        intro i hi'
        rw [upd_other X x (by have := List.mem_range.1 hi'; omega)]
      rw [show ((Value.int .u64 0).cells) = #[Value.int .u64 0] from rfl, zeroCells_word, hcat] at hrun
      have hw := new_uints W.drew (upd X n x) (n + 1) (grownCap W (n + 1) c 22 - (n + 1))
      refine ⟨_, _, _, hrun, by omega, Or.inr ⟨_, _, rfl, PB.new W.drew _ _, ?_, hg.2⟩, Or.inr ⟨_, _, rfl, hw.1⟩, Or.inr ⟨_, _, rfl, Nat.le_refl _⟩, chg_drew_alloc _ _ _⟩
      have := hw.2
      rwa [show n + 1 + (grownCap W (n + 1) c 22 - (n + 1)) = grownCap W (n + 1) c 22 by omega] at this
theorem wpList_append_uint {ops : Array Oper} {rest : List Oper} {o : Oper} {act : Act} {w : World} {Q : Exit → Act → World → Prop} (hgd : o.guard = none) (s x : Operand)
    (ho : o.op = .call { callee := .builtin .append, args := #[s, x], argTypes := #[23, 23] })
    (a : Option Addr) (n c : Nat) (X : Nat → Int) (y : Int) (ad : Addr) (hs : act.eval s = .slice a n c) (hx : act.eval x = .slice (some ad) 1 1)
    (hz : ZOK w a c) (hr : Rd w a n X) (hnc : n ≤ c) (hn : n < 1099511627776) (hy : w.cell? ad = some (.int .u64 y))
    (h : ∀ a' c' w', AppRes w a n c X y a' c' w' → wpList Tryz.prog ops Q rest (act.put o.dst (.slice a' (n + 1) c')) w') : wpList Tryz.prog ops Q (o :: rest) act w :=
  wpList_plain hgd fun K hK => by
    obtain ⟨a', c', w', hrun, h2⟩ := run_append_uint a n c X y w hz hr hnc hn ad hy o.type
    unfold Oper.wp execOp
    simp only [ho, resolve, invoke, builtin, Sem.run_bind, Sem.run_pure, Result.andThen_ok, List.map_toArray, List.map_cons, List.map_nil, hs, hx, hrun]
    exact hK _ _ (h a' c' w' h2)
end Go.Proofs.YtmgfajamanakcaaGreatDoor
