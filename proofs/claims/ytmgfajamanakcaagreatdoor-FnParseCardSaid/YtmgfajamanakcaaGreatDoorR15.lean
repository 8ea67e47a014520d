/- Part of the proof of FnParse: what the functions that it reaches do, as contracts. Conditions: those that each theorem names. -/
import Derived.Test.YtmgfajamanakcaaGreatDoorR13
import Derived.Test.YtmgfajamanakcaaGreatDoorR14
import Derived.Test.YtmgfajamanakcaaGreatDoorR09
import Derived.Deep.DeepCutAuto
import Derived.Deep.CutBlock
import Derived.Deep.RegionHeld3
import Derived.StillTailTactics
import Derived.Outline
namespace Go.Proofs.YtmgfajamanakcaaGreatDoor
set_option linter.unusedVariables false
set_option linter.unusedSimpArgs false
open Go.RowKit
set_option maxRecDepth 100000
structure RndV (v : FV) (M : Int) (sb : Bool) (p : Nat) (v' : FV) (Y : Nat → Int) : Prop where
  pr : v'.p = v.p
  md : v'.md = v.md
  ng : v'.ng = v.ng
  ac : v'.ac = racc v.ng M (64 * v.n) p v.md sb
  vl : (rm v.ng M (64 * v.n) p v.md sb < 2 ^ p ∧ v'.fm = 1 ∧ v'.n = (p + 63) / 64 ∧ v'.e = v.e ∧ val Y v'.n = rm v.ng M (64 * v.n) p v.md sb * 2 ^ (64 * v'.n - p)) ∨
    (rm v.ng M (64 * v.n) p v.md sb = 2 ^ p ∧ v.e < 2147483647 ∧ v'.fm = 1 ∧ v'.n = (p + 63) / 64 ∧ v'.e = v.e + 1 ∧ val Y v'.n = 2 ^ (64 * v'.n - 1)) ∨
    (rm v.ng M (64 * v.n) p v.md sb = 2 ^ p ∧ v.e = 2147483647 ∧ v'.fm = 2)
def RoundPost (w : World) (b : Nat) (v : FV) (X : Nat → Int) (sb : Bool) (p : Nat) (w' : World) : Prop :=
  (64 * v.n ≤ p → FNum w' b { v with ac := 0 } X ∧ Chg (zRow b 0 7) w w') ∧
  (p < 64 * v.n → ∃ v' Y, RndV v (val X v.n) sb p v' Y ∧ FNum w' b v' Y ∧ v'.a = v.a ∧ v'.c = v.c ∧ Chg (zF b v) w w')
theorem FNum.acc {w : World} {b : Nat} {v : FV} {X : Nat → Int} (h : FNum w b v X) (x : Int) : FNum (w.setCell ⟨b, 2, none⟩ (.int .i8 x)) b { v with ac := x } X := by
  refine ⟨h.c.setAc x, (h.z.chg (chg_cell _ _ _ _) ?_), h.ap, h.p, h.md, h.fm, h.ex, ?_⟩
  · rintro b' o ⟨po, e, _⟩ hh
    exact h.ap b' po e hh.1
  · intro hf
    obtain ⟨g1, g2, g3, g4, g5, g6⟩ := h.fin hf; refine ⟨g1, g2, g3, ?_, g5, g6⟩
    rcases g4 with hh | ⟨b', o, e', hw⟩
    · exact Or.inl hh
    · exact Or.inr ⟨b', o, e', hw.chg (chg_cell _ _ _ _) (fun i hi hh => h.ap b' o e' hh.1)⟩
theorem ZOK.room0 {w : World} {b o c : Nat} (h : ZOK w (some ⟨b, o, none⟩) c) : Room w b o c := by
  rcases h with ⟨e, _⟩ | ⟨b2, o2, e, _, hr, _⟩
  · cases e
  · injection e with e; injection e with e1 e2; subst e1; subst e2; exact hr
theorem ZOK.pb0 {w : World} {b o c : Nat} (h : ZOK w (some ⟨b, o, none⟩) c) : PB w b := by
  rcases h with ⟨e, _⟩ | ⟨b2, o2, e, hp, hr, _⟩
  · cases e
  · injection e with e; injection e with e1 e2; subst e1; subst e2; exact hp
theorem wrap_u32 (x : Int) : IntKind.u32.wrap x = x % 4294967296 := rfl
set_option maxHeartbeats 4000000 in
theorem round_fits (b p : Nat) (v : FV) (X : Nat → Int) (sv : Int) (w : World) (h : FNum w b v X) (hf : v.fm = 1) (hp : v.p = (p : Int)) (hle : 64 * v.n ≤ p) :
    Calls Tryz.prog 149 #[.pointer (some ⟨b, 0, none⟩), .int .u64 sv] w fun e w' => e = .returned (.tuple #[]) ∧ FNum w' b { v with ac := 0 } X ∧ Chg (zRow b 0 7) w w' := by
  have H := Lib.hid h; have hfin := h.fin hf; have hpp := h.p; obtain ⟨P, md, ac, fm, ng, a, n, c, ex⟩ := v; simp only at hf hp hle hfin hpp; subst hf; subst hp; obtain ⟨h0, h1, h2, h3, h4, h5, h6, hb⟩ := h.c; have f2 := hb.fz 2; simp only at h0 h2 h3 h5; have s1 : IntKind.u32.wrap (n : Int) = (n : Int) := by rw [wrap_u32]; omega
  have s2 : IntKind.u32.wrap ((n : Int) * 64) = (n : Int) * 64 := by rw [wrap_u32]; omega
  have s3 : decide ((n : Int) * 64 ≤ (p : Int)) = true := by simp; omega
  clear h1 h4 h6 hb h hfin hpp
  go_enter Tryz.func149, Tryz.ntmps149
  go_wp2_with fail; refine bodyPost_ret (results_none rfl _ _ _) rfl ?_; exact ⟨rfl, H.out.acc 0, (Chg.refl _ _).setCell _ _ _ (fun _ => ⟨rfl, by omega, by omega⟩)⟩
def RFin (M : Int) (sb : Bool) (L p : Nat) (md : Int) (ng : Bool) (ex : Int) (np t : Nat) (e5 : Int) (Z : Nat → Int) : Prop :=
  (rm ng M L p md sb < 2 ^ p ∧ e5 = ex ∧ val Z np / 2 ^ t = rm ng M L p md sb) ∨ (rm ng M L p md sb = 2 ^ p ∧ ex < 2147483647 ∧ e5 = ex + 1 ∧ val Z np / 2 ^ t * 2 ^ t = 2 ^ (64 * np - 1))
theorem round_fin {w W w5 : World} {b bm om p n np t c : Nat} {md ac acv ex e5 : Int} {ng sb : Bool} {X Z : Nat → Int} (H : FNum w b ⟨(p : Int), md, ac, 1, ng, some ⟨bm, om, none⟩, n, c, ex⟩ X) (kW : Chg (zRow b 0 7) w W) (hp1 : 1 ≤ p)
    (hc : FltC w5 b ⟨(p : Int), md, acv, 1, ng, some ⟨bm, om, none⟩, np, c, e5⟩) (hZ : Words w5 bm om np Z) (hw : WF Z np) (hr : Room w5 bm om c) (hp : PB w5 bm) (hk : Chg (zF b ⟨(p : Int), md, 0, 1, ng, some ⟨bm, om, none⟩, n, c, ex⟩) W w5)
    (hac : acv = racc ng (val X n) (64 * n) p md sb) (hnp : (p + 63) / 64 = np) (ht : 64 * np - p = t) (npn : np ≤ n) (hge : 2 ^ (p - 1) ≤ rm ng (val X n) (64 * n) p md sb) (hf : RFin (val X n) sb (64 * n) p md ng ex np t e5 Z) :
    ∃ v' Y, RndV ⟨(p : Int), md, ac, 1, ng, some ⟨bm, om, none⟩, n, c, ex⟩ (val X n) sb p v' Y ∧ FNum (w5.setCell ⟨bm, om, none⟩ (.int .u64 (Z 0 - Z 0 % 2 ^ t))) b v' Y ∧ v'.a = some ⟨bm, om, none⟩ ∧ v'.c = c ∧ Chg (zF b ⟨(p : Int), md, ac, 1, ng, some ⟨bm, om, none⟩, n, c, ex⟩) w (w5.setCell ⟨bm, om, none⟩ (.int .u64 (Z 0 - Z 0 % 2 ^ t))) := by
  have np0 : 0 < np := by omega
  have t64 : t < 64 := by omega
  have hfin := H.fin rfl; have hcap := H.z.cap; have hex := H.ex; have hpp := H.p; have hmd := H.md; simp only at hfin hcap hex hpp hmd; have hne : bm ≠ b := H.ap bm om rfl; have hv := val_upd0 (t := t) hw np0 t64; have kc := chg_cell w5 bm om (.int .u64 (Z 0 - Z 0 % 2 ^ t))
  have hge2 : 2 ^ (64 * np - 1) ≤ val Z np / 2 ^ t * 2 ^ t := by
    rcases hf with ⟨_, _, h3⟩ | ⟨_, _, _, h4⟩
    · rw [h3]
      have := Int.mul_le_mul_of_nonneg_right hge (Int.le_of_lt (show (0 : Int) < 2 ^ t from Int.pow_pos (by decide))); rw [← Int.pow_add, show p - 1 + t = 64 * np - 1 by omega] at this; exact this
    · rw [h4]; exact Int.le_refl _
  refine ⟨⟨(p : Int), md, acv, 1, ng, some ⟨bm, om, none⟩, np, c, e5⟩, upd Z 0 (Z 0 - Z 0 % 2 ^ t), ⟨rfl, rfl, rfl, hac, ?_⟩, ⟨hc.chg kc (fun o ho hh => hne hh.1.symm), Or.inr ⟨bm, om, rfl, hp.chg kc, hr.setInt bm om _, hcap⟩, fun b' o e => ?_, hpp, hmd, Or.inr (Or.inl rfl), ?_, fun _ => ⟨np0, ?_, ?_, Or.inr ⟨bm, om, rfl, ?_⟩, wf_upd0 hw np0, ?_⟩⟩, rfl, rfl, ?_⟩
  · simp only
    rw [hv]
    rcases hf with ⟨h1, h2, h3⟩ | ⟨h1, h2, h3, h4⟩
    · exact Or.inl ⟨h1, by trivial, hnp.symm, h2, by rw [h3, ht]⟩
    · exact Or.inr (Or.inl ⟨h1, h2, by trivial, hnp.symm, h3, h4⟩)
  · injection e with e; injection e with e1 _; rw [← e1]; exact hne
  · simp only
    rcases hf with ⟨_, h2, _⟩ | ⟨_, h2, h3, _⟩ <;> omega
  · simp only; omega
  · simp only; omega
  · intro i hi
    by_cases e : i = 0
    · subst e
      rw [upd_same]; exact cs_same (hZ 0 np0)
    · rw [upd_other _ _ e]
      exact kc.cell (hZ i hi) (fun hh => by have := hh.2; omega)
  · simp only
    exact top_ge (wf_upd0 hw np0) np0 (by rw [hv]; exact hge2)
  · refine ((kW.mono (fun _ _ _ h => Or.inl h)).trans hk (fun _ _ _ h => h)).trans kc (fun b' o _ hh => Or.inr ⟨om, by rw [hh.1], hh.2.1, ?_⟩)
    have := hh.2.2; show o < om + c
    omega
set_option maxHeartbeats 8000000 in
theorem round_cut (b p : Nat) (v : FV) (X : Nat → Int) (sv : Int) (sb : Bool) (w : World) (h : FNum w b v X) (hf : v.fm = 1) (hp : v.p = (p : Int)) (hlt : p < 64 * v.n) (hsv : sv = 0 ∨ sv = 1) (hsb : sb = true ↔ sv = 1) :
    Calls Tryz.prog 149 #[.pointer (some ⟨b, 0, none⟩), .int .u64 sv] w fun e w' => e = .returned (.tuple #[]) ∧ ∃ v' Y, RndV v (val X v.n) sb p v' Y ∧ FNum w' b v' Y ∧ v'.a = v.a ∧ v'.c = v.c ∧ Chg (zF b v) w w' := by
  have H := Lib.hid h; have hfin := h.fin hf; have hpp := h.p; obtain ⟨bm, om, hva, hX, hroom, hpb, hne⟩ := h.words hf; obtain ⟨P, md, ac, fm, ng, a, n, c, ex⟩ := v; simp only at hf hp hlt hfin hpp hva hX hroom; subst hf; subst hp; subst hva; obtain ⟨h0, h1, h2, h3, h4, h5, h6, hb⟩ := h.c; have f2 := hb.fz 2; have hac := H.out.acc 0; simp only at h0 h1 h2 h3 h4 h5 h6; obtain ⟨q1, q2, q3, q4, q5, q6⟩ := hfin; have hmd := H.out.md; simp only at hmd
  -- the numbers
  obtain ⟨r, hr⟩ : ∃ r, 64 * n - p - 1 = r := ⟨_, rfl⟩; have s1 : IntKind.u32.wrap (n : Int) = (n : Int) := by rw [wrap_u32]; omega
  have s2 : IntKind.u32.wrap ((n : Int) * 64) = (n : Int) * 64 := by rw [wrap_u32]; omega
  have s3 : decide ((n : Int) * 64 ≤ (p : Int)) = false := by simp; omega
  have s4 : IntKind.u32.wrap ((n : Int) * 64 - (p : Int)) = (n : Int) * 64 - (p : Int) := by rw [wrap_u32]; omega
  have s5 : IntKind.u32.wrap ((n : Int) * 64 - (p : Int) - 1) = (r : Int) := by rw [wrap_u32]; omega
  have s6 : IntKind.u64.wrap (r : Int) = (r : Int) := by rw [wrap_u64]; omega
  have hX0 : Words (w.setCell ⟨b, 2, none⟩ (.int .i8 0)) bm om n X := hX.chg (chg_cell _ _ _ _) (fun i hi hh => hne hh.1); have HB := Lib.hid (bit_any (some ⟨bm, om, none⟩) n c r X (w.setCell ⟨b, 2, none⟩ (.int .i8 0)) (Or.inr ⟨bm, om, rfl, hX0⟩) q5 (by omega) (by omega)); obtain ⟨W, hW⟩ : ∃ W, W = w.setCell ⟨b, 2, none⟩ (.int .i8 0) := ⟨_, rfl⟩; rw [← hW] at HB hX0 hac; have HW := Lib.hid hW; have hri : r / 64 < n := by omega
  have hbv : bitOf X n r = val X n / 2 ^ r % 2 := by unfold bitOf; rw [if_pos hri]; exact val_bit q5 hri
  rw [hbv] at HB; have hM0 : 0 ≤ val X n := val_nonneg q5; have hrb := Int.emod_two_eq (val X n / 2 ^ r); obtain ⟨rb, hrbe⟩ : ∃ x, val X n / 2 ^ r % 2 = x := ⟨_, rfl⟩; rw [hrbe] at HB hrb
  have s7 : bits BinOp.and IntKind.u64 rb 1 = rb := by
    rcases hrb with e | e <;> rw [e] <;> rfl
  have HST := Lib.hid (sticky_any (some ⟨bm, om, none⟩) n c r X W (Or.inr ⟨bm, om, rfl, hX0⟩) q2 (by omega) (by omega)); have HX := Lib.hid (And.intro hX0 (And.intro q4 (And.intro q5 (And.intro q6 (And.intro hroom hpb))))); have HR := Lib.hid (And.intro hrbe (And.intro hbv (And.intro hM0 hr))); clear h hX hX0 hroom hpb q4 q5 q6 hrbe hbv hM0 hb hW
  go_enter Tryz.func149, Tryz.ntmps149
  go_wp2_with fail; rw [← HW.out]; refine HB.out.mono ?_; rintro e w1 ⟨rfl, rfl⟩; go_upto_region 7 with fail; obtain ⟨c0, c1, c2, c3, c4, c5, c6, cb⟩ := hac.c; have Hac := Lib.hid hac; have g2 := cb.fz 2; have g3 := cb.fz 3; have g5 := cb.fz 5; have g6 := cb.fz 6; simp only at c0 c1 c2 c3 c4 c5 c6; clear h0 h1 h2 h3 h4 h5 h6 f2 hac HB cb; go_cut [61] (fun s61 wc => ∃ B, s61 = .bool B ∧ W = wc ∧ Hid (B = true ↔ sv = 0 ∧ (rb = 0 ∨ md = 0)))
  case first => as_aux_lemma =>
    by_cases e1 : sv = 0
    · have b1 : (sv == 0) = true := by simp [e1]
      by_cases e2 : rb = 0
      · have b2 : (rb == 0) = true := by simp [e2]
        have E1 := Lib.hid (And.intro e1 e2); clear e1 e2 hrb hsv hsb; go_wp2; go_meet; exact ⟨_, rfl, rfl, ⟨fun _ => ⟨E1.out.1, Or.inl E1.out.2⟩, fun _ => rfl⟩⟩
      · have b2 : (rb == 0) = false := by simp [e2]
        by_cases e3 : md = 0
        · have b3 : (md == 0) = true := by simp [e3]
          have E1 := Lib.hid (And.intro e1 e3); clear e1 e2 e3 hrb hsv hsb; go_wp2; go_meet; exact ⟨_, rfl, rfl, ⟨fun _ => ⟨E1.out.1, Or.inr E1.out.2⟩, fun _ => rfl⟩⟩
        · have b3 : (md == 0) = false := by simp [e3]
          have E1 := Lib.hid (And.intro e2 e3); clear e1 e2 e3 hrb hsv hsb; go_wp2; go_meet; exact ⟨_, rfl, rfl, ⟨fun h => by (try cases h), fun h => by rcases h.2 with h | h; exact absurd h E1.out.1; exact absurd h E1.out.2⟩⟩
    · have b1 : (sv == 0) = false := by simp [e1]
      have E1 := Lib.hid e1; clear e1 hrb hsv hsb; go_wp2; go_meet; exact ⟨_, rfl, rfl, ⟨fun h => by (try cases h), fun h => absurd h.1 E1.out⟩⟩
  case rest => as_aux_lemma =>
    obtain ⟨B, rfl, rfl, HB⟩ := hcut; go_upto_if 61 with fail; go_cut [1] (fun s1 wc => ∃ s, s1 = .int .u64 s ∧ W = wc ∧ Hid ((s = 0 ∨ s = 1) ∧ (rb = 0 ∨ md = 0 → (s = 0 ↔ val X n % 2 ^ r = 0 ∧ sb = false))))
    case first => as_aux_lemma =>
      cases B with
      | true =>
        go_wp2_with fail; refine HST.out.mono ?_; rintro e w2 ⟨vv, rfl, hst, rfl⟩; have Hst := Lib.hid hst; clear hst; go_wp2; go_meet; refine ⟨vv, rfl, rfl, ?_⟩; have e1 := (HB.out.1 (by trivial)).1
        have e2 : sb = false := by
          cases sb with
          | false => rfl
          | true => have := hsb.1 rfl; omega
        have h2 := Hst.out.2 hri; have h3 := val_low HX.out.2.2.1 hri
        rcases h2 with ⟨g1, g2, g3⟩ | ⟨g1, g2⟩
        · exact ⟨Or.inl g1, fun _ => ⟨fun _ => ⟨h3.2 ⟨g2, g3⟩, e2⟩, fun _ => g1⟩⟩
        · refine ⟨Or.inr g1, fun _ => ⟨fun h => by omega, fun h => ?_⟩⟩
          obtain ⟨k1, k2⟩ := h3.1 h.1
          rcases g2 with ⟨k, k3, k4⟩ | k3
          · exact absurd (k1 k k3) k4
          · exact absurd k2 k3
      | false =>
        go_wp2; go_meet; refine ⟨sv, rfl, rfl, hsv, fun hh => ?_⟩; have h1 : ¬ (sv = 0 ∧ (rb = 0 ∨ md = 0)) := fun h => by have := HB.out.2 h; cases this
        have h2 : sv = 1 := by
          rcases hsv with h | h
          · exact absurd ⟨h, hh⟩ h1
          · exact h
        have h3 := hsb.2 h2; rw [h3]; exact ⟨fun h => by omega, fun h => by cases h.2⟩
    case rest => as_aux_lemma =>
      obtain ⟨s, rfl, rfl, HS⟩ := hcut
      have s8 : bits BinOp.and IntKind.u64 s 1 = s := by
        rcases HS.out.1 with e | e <;> rw [e] <;> rfl
      obtain ⟨np, hnp⟩ : ∃ np, (p + 63) / 64 = np := ⟨_, rfl⟩; have s9 : IntKind.u32.wrap ((p : Int) + 63) = (p : Int) + 63 := by rw [wrap_u32]; omega
      have s10 : ((p : Int) + 63).tdiv 64 = (np : Int) := by rw [Int.tdiv_eq_ediv_of_nonneg (by omega)]; omega
      have s11 : IntKind.u32.wrap (np : Int) = (np : Int) := by rw [wrap_u32]; omega
      have np1 : 1 ≤ np := by omega
      have npn : np ≤ n := by omega
      have s12 : IntKind.u32.wrap ((n : Int) - (np : Int)) = ((n - np : Nat) : Int) := by rw [wrap_u32]; omega
      clear HST HB hsv hsb; go_upto_if 78 with fail; go_cut [8] (fun s8 wc => s8 = .int .u32 (np : Int) ∧ Hid (FltC wc b ⟨(p : Int), md, 0, 1, ng, some ⟨bm, om, none⟩, np, c, ex⟩ ∧ Words wc bm om np (fun i => X (n - np + i)) ∧ Room wc bm om c ∧ PB wc bm ∧ Chg (zF b ⟨(p : Int), md, 0, 1, ng, some ⟨bm, om, none⟩, n, c, ex⟩) W wc))
      case first => as_aux_lemma =>
        by_cases hlt2 : np < n
        · have d1 : decide ((np : Int) < (n : Int)) = true := by simp; omega
          have d2 : decide (np < n) = true := by simp; omega
          obtain ⟨k, hk⟩ : ∃ k, n - np = k := ⟨_, rfl⟩; rw [hk] at s12; have j1 : (k : Int) ≤ (n : Int) := by omega
          have j2 : ¬ c = k := by omega
          have j3 : (0 : Int) ≤ (k : Int) := by omega
          have hnk : n - k = np := by omega
          have kd : Chg zNone W W.drew := (Chg.refl _ _).drew; have HRm := Lib.hid (show Room W.drew bm om np from ((show Room W bm om c from Hac.out.z.room0).le (show np ≤ c by omega)).chg kd (fun _ _ h => h)); have HRd : Hid (Rd W.drew (some ⟨bm, om + k, none⟩) np (fun i => X (k + i))) := Or.inr ⟨bm, om + k, rfl, (HX.out.1.chg kd (fun _ _ h => h)).drop k np (by omega)⟩; clear kd hlt2
          first | rw [d1] | rw [d2]
          go_wp2_with fail; refine wp_region_noPanic ?_
          go_still_tail 12, (by kernel_rfl)
          go_wp2_with (refine wpList_copy_word rfl (.tmp 82) (.tmp 90) 120 120 rfl Tryz.underlying120 bm om n c (some ⟨bm, om + k, none⟩) np (c - k) np (fun i => X (k + i)) rfl rfl (Nat.min_eq_left npn).symm HRm.out HRd.out ?_; rintro w2 hw2; have HW2 := Lib.hid hw2; clear hw2; have c5' : w2.cell? ⟨b, 5, none⟩ = some (.slice (some ⟨bm, om, none⟩) n c) := HW2.out.1.cell (w := W.drew) c5 (fun hh => hne hh.1.symm); have g5' : w2.frozen? ⟨b, 5, none⟩ = false := (HW2.out.1.frozen (w := W.drew) c5 5).trans g5; have j4 : (np : Int) ≤ (c : Int) := Int.ofNat_le.2 (Nat.le_trans npn q2); have j5 : (0 : Int) ≤ (np : Int) := Int.natCast_nonneg np); refine NoPanic.normal ?_; go_wp2; go_meet; have kd : Chg zNone W W.drew := (Chg.refl _ _).drew; have k1 : Chg (zRow bm om np) W w2 := (kd.mono (fun _ _ _ h => h.elim)).trans HW2.out.1 (fun _ _ _ h => h); have k2 := chg_cell w2 b 5 (.slice (some ⟨bm, om, none⟩) np c); have hz := Hac.out.z; simp only at hz; refine ⟨rfl, (Hac.out.c.chg k1 (fun o ho hh => hne hh.1.symm)).setMt _ np c, ?_, ?_, (hz.pb0.chg k1).chg k2, ?_⟩
          · rw [hk]; exact HW2.out.2.1.chg k2 (fun i hi hh => hne hh.1)
          · exact (HW2.out.2.2 _ _ _ (hz.room0.chg kd (fun _ _ h => h))).chg k2 (fun i hi hh => hne hh.1)
          · exact (k1.mono (fun b' o _ hh => Or.inr ⟨om, by rw [hh.1], hh.2.1, (show o < om + c from by have := hh.2.2; omega)⟩)).trans k2 (fun b' o _ hh => Or.inl ⟨hh.1, by omega, by have := hh.2.2; omega⟩)
        · have d1 : decide ((np : Int) < (n : Int)) = false := by simp; omega
          have d2 : decide (np < n) = false := by simp; omega
          first | rw [d1] | rw [d2]
          have Hnn : Hid (n = np) := by unfold Hid; omega
          clear hlt2; go_wp2; go_meet; have hz := Hac.out.z; have hc := Hac.out.c; simp only at hz hc; rw [Hnn.out] at hc; refine ⟨rfl, hc, ?_, hz.room0, hz.pb0, Chg.refl _ _⟩; rw [Hnn.out, Nat.sub_self]; exact (HX.out.1.le npn).congr (fun i hi => by rw [Nat.zero_add])
      case rest => as_aux_lemma =>
        obtain ⟨rfl, HC⟩ := hcut; clear c0 c1 c2 c3 c4 c5 c6 g2 g3 g5 g6; obtain ⟨c0, c1, c2, c3, c4, c5, c6, cb⟩ := HC.out.1; have g2 := cb.fz 2; have g3 := cb.fz 3; have g5 := cb.fz 5; have g6 := cb.fz 6; simp only at c0 c1 c2 c3 c4 c5 c6; clear cb; obtain ⟨t, ht⟩ : ∃ t, 64 * np - p = t := ⟨_, rfl⟩; have t64 : t < 64 := by omega
        have s13 : IntKind.u32.wrap ((np : Int) * 64) = (np : Int) * 64 := by rw [wrap_u32]; omega
        have s14 : IntKind.u32.wrap ((np : Int) * 64 - (p : Int)) = (t : Int) := by rw [wrap_u32]; omega
        obtain ⟨ls, hls⟩ : ∃ x : Int, (2 : Int) ^ t = x := ⟨_, rfl⟩; have s15 : IntKind.u64.wrap ls = ls := by rw [← hls]; exact shl_one t64
        have ls1 : 1 ≤ ls := by rw [← hls]; have : (0 : Int) < 2 ^ t := Int.pow_pos (by decide); omega
        have ls2 : ls ≤ 9223372036854775808 := by rw [← hls]; exact pow_le_63 t64
        have s16 : IntKind.u64.wrap (ls - 1) = ls - 1 := by rw [wrap_u64]; omega
        have HT : Hid (Two (val X n) r sb md rb s) := ⟨HR.out.1.symm, HS.out.1, HS.out.2⟩; have hor := or01 hrb HS.out.1; have hYw : WF (fun i => X (n - np + i)) np := fun i hi => HX.out.2.2.1 _ (by omega)
        have cy := HC.out.2.1 0 (by omega); obtain ⟨y0, hy0⟩ : ∃ x, X (n - np + 0) = x := ⟨_, rfl⟩; simp only [Nat.add_zero] at cy hy0; rw [hy0] at cy; have hy0w : U64 y0 := by rw [← hy0]; exact HX.out.2.2.1 _ (by omega)
        have fy : wc.frozen? ⟨bm, om, none⟩ = false := by
          obtain ⟨⟨x, hx⟩, hf⟩ := HC.out.2.2.1 0 (by omega); exact hf
        have an : bits BinOp.andNot IntKind.u64 y0 (ls - 1) = y0 - y0 % ls := by rw [← hls]; exact andn_low hy0w t64
        have hrr : 64 * n - p = r + 1 := by omega
        have hq : val (fun i => X (n - np + i)) np / 2 ^ t = rq (val X n) (64 * n) p := by
          rw [← ht]; exact top_bits HX.out.2.2.1 npn (by omega)
        obtain ⟨bq1, bq2⟩ := val_ge_top HX.out.2.2.1 q1 HX.out.2.2.2.1; obtain ⟨rq1, rq2⟩ := rq_range (p := p) (by omega) hlt bq1 bq2; have hor' := hor; go_upto_region 16 with fail; have HN := Lib.hid (And.intro hYw (And.intro hy0 (And.intro hrr (And.intro hq (And.intro rq1 (And.intro rq2 (And.intro hls ht))))))); have k0 : (0 : Int) < (np : Int) := by omega
        have Hmd := Lib.hid hmd; have Hy0w := Lib.hid hy0w; clear hy0 hYw hrr hq bq1 bq2 rq1 rq2 hls hrb hmd hor' hy0w
        by_cases h0 : rb = 0 ∧ s = 0
        · rw [decide_eq_true h0] at hor
          have H0 := Lib.hid h0; clear h0; simp only [Bool.not_true] at hor; go_wp2_with fail
          go_end0
          refine ⟨rfl, ?_⟩; have e9 := HN.out.2.2.2.2.2.2.1; have hex := HT.out.exact (neg := ng) (L := 64 * n) (p := p) HR.out.2.2.1 HN.out.2.2.1 H0.out; rw [← HN.out.2.1, ← e9]; refine round_fin (Z := fun i => X (n - np + i)) H.out (by rw [HW.out]; exact (Chg.refl _ _).setCell _ _ _ (fun _ => ⟨rfl, by omega, by omega⟩)) (by omega) HC.out.1 HC.out.2.1 HN.out.1 HC.out.2.2.1 HC.out.2.2.2.1 HC.out.2.2.2.2 hex.2.1.symm hnp HN.out.2.2.2.2.2.2.2 npn ?_ (Or.inl ⟨?_, rfl, ?_⟩)
          · rw [hex.1]; exact HN.out.2.2.2.2.1
          · rw [hex.1]; exact HN.out.2.2.2.2.2.1
          · rw [hex.1]; exact HN.out.2.2.2.1
        · rw [decide_eq_false h0] at hor
          simp only [Bool.not_false] at hor; have han : (bits BinOp.and IntKind.u64 y0 ls != 0) = (y0 / 2 ^ t % 2 == 1) := by rw [← HN.out.2.2.2.2.2.2.1]; exact and_pow_ne Hy0w.out t64
          obtain ⟨odd, hodd⟩ : ∃ o, (y0 / 2 ^ t % 2 == 1) = o := ⟨_, rfl⟩; rw [hodd] at han; have Hodd := Lib.hid hodd; have H0 := Lib.hid h0; have hrb := HT.out.rb01; have hs01 := HS.out.1; clear hodd h0
          go_upto_block 0 with fail
          go_cut [11] (fun s11 wx => s11 = .bool (incP ng odd md rb s) ∧ wc = wx)
          case first => as_aux_lemma =>
            by_cases m4 : md = 4
            · have b4 : (md == 4) = true := by simp [m4]
              have hi : incP ng odd md rb s = ng := by unfold incP; rw [if_pos m4]
              have HI := Lib.hid hi; clear m4 hi hrb hs01 Hmd; go_wp2; go_meet; exact ⟨by rw [HI.out], rfl⟩
            · have b4 : (md == 4) = false := by simp [m4]
              by_cases m2 : md = 2
              · have b2 : (md == 2) = true := by simp [m2]
                have hi : incP ng odd md rb s = false := by unfold incP; rw [if_neg m4, if_pos m2]
                have HI := Lib.hid hi; clear m4 m2 hi hrb hs01 Hmd; go_wp2; go_meet; exact ⟨by rw [HI.out], rfl⟩
              · have b2 : (md == 2) = false := by simp [m2]
                by_cases m0 : md = 0
                · have b0 : (md == 0) = true := by simp [m0]
                  by_cases e1 : rb = 0
                  · have b1 : (rb != 0) = false := by simp [e1]
                    have hi : incP ng odd md rb s = false := by unfold incP; rw [if_neg m4, if_neg m2, if_pos m0, b1]; rfl
                    have HI := Lib.hid hi; clear m4 m2 m0 e1 hi hrb hs01 Hmd; go_wp2; go_meet; exact ⟨by rw [HI.out], rfl⟩
                  · have b1 : (rb != 0) = true := by simp [e1]
                    by_cases e3 : s = 0
                    · have b3 : (s != 0) = false := by simp [e3]
                      have hi : incP ng odd md rb s = odd := by unfold incP; rw [if_neg m4, if_neg m2, if_pos m0, b1, b3]; simp
                      have HI := Lib.hid hi; clear m4 m2 m0 e1 e3 hi hrb hs01 Hmd; go_wp2; go_meet; exact ⟨by rw [HI.out], rfl⟩
                    · have b3 : (s != 0) = true := by simp [e3]
                      have hi : incP ng odd md rb s = true := by unfold incP; rw [if_neg m4, if_neg m2, if_pos m0, b1, b3]; simp
                      have HI := Lib.hid hi; clear m4 m2 m0 e1 e3 hi hrb hs01 Hmd; go_wp2; go_meet; exact ⟨by rw [HI.out], rfl⟩
                · have b0 : (md == 0) = false := by simp [m0]
                  by_cases m1 : md = 1
                  · have b1 : (md == 1) = true := by simp [m1]
                    have hi : incP ng odd md rb s = (rb != 0) := by unfold incP; rw [if_neg m4, if_neg m2, if_neg m0, if_pos m1]
                    have HI := Lib.hid hi; clear m4 m2 m0 m1 hi hs01 Hmd; go_wp2; go_meet; exact ⟨by rw [HI.out], rfl⟩
                  · have b1 : (md == 1) = false := by simp [m1]
                    by_cases m3 : md = 3
                    · have b3 : (md == 3) = true := by simp [m3]
                      have hi : incP ng odd md rb s = true := by unfold incP; rw [if_neg m4, if_neg m2, if_neg m0, if_neg m1, if_pos m3]
                      have HI := Lib.hid hi; clear m4 m2 m0 m1 m3 hi hrb hs01 Hmd; go_wp2; go_meet; exact ⟨by rw [HI.out], rfl⟩
                    · have b3 : (md == 3) = false := by simp [m3]
                      have b5 : (md == 5) = true := by have := Hmd.out; simp; omega
                      have hi : incP ng odd md rb s = !ng := by unfold incP; rw [if_neg m4, if_neg m2, if_neg m0, if_neg m1, if_neg m3]
                      have HI := Lib.hid hi; clear m4 m2 m0 m1 m3 hi hrb hs01 Hmd; go_wp2; go_meet; exact ⟨by rw [HI.out], rfl⟩
          case rest => as_aux_lemma =>
            obtain ⟨rfl, rfl⟩ := hcut; have hin := HT.out.inc (neg := ng) (L := 64 * n) (p := p) HR.out.2.2.1 HN.out.2.2.1 H0.out Hmd.out
            have hodd2 : (rq (val X n) (64 * n) p % 2 == 1) = odd := by
              rw [← Hodd.out, ← HN.out.2.2.2.1]; have := val_bit (i := t) HN.out.1 (by omega); rw [show t / 64 = 0 by omega, show t % 64 = t by omega] at this; simp only [Nat.add_zero] at this; rw [← this, HN.out.2.1]
            rw [hodd2] at hin; obtain ⟨I, hI⟩ : ∃ I, incP ng odd md rb s = I := ⟨_, rfl⟩; rw [hI] at hin ⊢; have HI := Lib.hid hin; have HA := Lib.hid (makeAcc_any (I != ng) wc); clear hI hin hodd2; go_wp2_with fail; refine HA.out.mono ?_; rintro e w2 ⟨rfl, rfl⟩; obtain ⟨av, hav⟩ : ∃ x : Int, (if (I != ng) = true then 1 else -1) = x := ⟨_, rfl⟩; rw [hav]; have Hav := Lib.hid hav; clear hav HA; go_upto_if 169 with fail; go_cut [11] (fun s11 w5 => s11 = .bool I ∧ Hid (∃ e5 Z, FltC w5 b ⟨(p : Int), md, av, 1, ng, some ⟨bm, om, none⟩, np, c, e5⟩ ∧ Words w5 bm om np Z ∧ WF Z np ∧ Room w5 bm om c ∧ PB w5 bm ∧ Chg (zF b ⟨(p : Int), md, 0, 1, ng, some ⟨bm, om, none⟩, n, c, ex⟩) W w5 ∧ RFin (val X n) sb (64 * n) p md ng ex np t e5 Z))
            case first => as_aux_lemma =>
              have hrm : rm ng (val X n) (64 * n) p md sb = rq (val X n) (64 * n) p + (if I = true then 1 else 0) := by unfold rm; rw [← HI.out.1]
              have HC2 := Lib.hid (HC.out.1.setAc av); have kac := chg_cell wc b 2 (.int .i8 av)
              have HK2 : Hid (Words (wc.setCell ⟨b, 2, none⟩ (.int .i8 av)) bm om np (fun i => X (n - np + i)) ∧ Room (wc.setCell ⟨b, 2, none⟩ (.int .i8 av)) bm om c ∧ PB (wc.setCell ⟨b, 2, none⟩ (.int .i8 av)) bm ∧ Chg (zF b ⟨(p : Int), md, 0, 1, ng, some ⟨bm, om, none⟩, n, c, ex⟩) W (wc.setCell ⟨b, 2, none⟩ (.int .i8 av))) :=
                ⟨HC.out.2.1.chg kac (fun i hi hh => hne hh.1), HC.out.2.2.1.chg kac (fun i hi hh => hne hh.1), HC.out.2.2.2.1.chg kac, HC.out.2.2.2.2.trans kac (fun b' o _ hh => Or.inl ⟨hh.1, by omega, by have := hh.2.2; omega⟩)⟩
              have Hrm := Lib.hid hrm; clear hrm kac
              cases I with
              | false =>
                go_wp2; go_meet; refine ⟨rfl, ex, _, HC2.out, HK2.out.1, HN.out.1, HK2.out.2.1, HK2.out.2.2.1, HK2.out.2.2.2, Or.inl ⟨?_, rfl, ?_⟩⟩
                · rw [Hrm.out]; simp; exact HN.out.2.2.2.2.2.1
                · rw [Hrm.out]; simp; exact HN.out.2.2.2.1
              | true =>
                have npc : np ≤ c := Nat.le_trans npn q2; have hcap : c < 9223372036854775808 := Hac.out.z.cap; obtain ⟨W1, hW1⟩ : ∃ x, x = wc.setCell ⟨b, 2, none⟩ (.int .i8 av) := ⟨_, rfl⟩; rw [← hW1] at HC2 HK2 ⊢; have kd : Chg zNone W1 W1.drew := (Chg.refl _ _).drew; have HV := Lib.hid (addVW_any bm om bm om np c c (fun i => X (n - np + i)) ls W1.drew np1 (by omega) (HK2.out.1.chg kd (fun _ _ h => h)) HN.out.1 ((HK2.out.2.1.le npc).chg kd (fun _ _ h => h)) (Or.inr (Or.inl (Nat.le_refl _))) ⟨by omega, by omega⟩ npc npc (HK2.out.2.2.1.chg kd) (HK2.out.2.2.1.chg kd)); clear c0 c1 c2 c3 c4 c5 c6 g2 g3 g5 g6 cy fy an kd; obtain ⟨c0, c1, c2, c3, c4, c5, c6, cb⟩ := HC2.out; simp only at c0 c1 c2 c3 c4 c5 c6; clear cb hW1; go_wp2_with fail; refine wp_region_noPanic ?_
                go_still_tail 9, (by kernel_rfl)
                go_wp2_with (go_at_call 172; go_loud (refine HV.out.mono ?_; rintro e w4 ⟨cy, rfl, Z, h1, h2, h3, h4, h5⟩; have HV2 := Lib.hid (And.intro h1 (And.intro h2 (And.intro h3 (And.intro h4 h5)))); clear h1 h2 h3 h4 h5)); refine NoPanic.normal ?_; have kd : Chg zNone W1 W1.drew := (Chg.refl _ _).drew; have kV : Chg (zRow bm om np) W1 w4 := (kd.mono (fun _ _ _ h => h.elim)).trans HV2.out.1 (fun _ _ _ h => h); have hC4 := HC2.out.chg kV (fun o ho hh => hne hh.1.symm)
                have hroom4 : Room w4 bm om np := HV2.out.2.1.room (fun i hi => by
                  obtain ⟨⟨x, hx⟩, hf⟩ := HK2.out.2.1 i (by omega)
                  rw [kV.frozen hx]; exact hf)
                have hroom4c : Room w4 bm om c := by
                  have h2 := (HK2.out.2.1.drop np (c - np) (by omega)).chg kV (fun i hi hh => by have := hh.2.2; omega); have := hroom4.join h2
                  rwa [show np + (c - np) = c by omega] at this
                have htop := inc_top (p := p) HN.out.1 HV2.out.2.2.1 (by omega) (show cy = 0 ∨ cy = 1 by have := HV2.out.2.2.2.1; omega) (by rw [HN.out.2.2.2.2.2.2.2, HN.out.2.2.2.2.2.2.1]; exact HV2.out.2.2.2.2); rw [HN.out.2.2.2.2.2.2.2, HN.out.2.2.2.1] at htop
                have H4 := Lib.hid (show FltC w4 b _ ∧ Words w4 bm om np Z ∧ WF Z np ∧ Room w4 bm om c ∧ PB w4 bm ∧ Chg (zF b ⟨(p : Int), md, 0, 1, ng, some ⟨bm, om, none⟩, n, c, ex⟩) W w4 from
                  ⟨hC4, HV2.out.2.1, HV2.out.2.2.1, hroom4c, HK2.out.2.2.1.chg kV, HK2.out.2.2.2.trans kV (fun b' o _ hh => Or.inr ⟨om, by rw [hh.1], hh.2.1, (show o < om + c from by have := hh.2.2; omega)⟩)⟩)
                clear c0 c1 c2 c3 c4 c5 c6 kd kV hC4 hroom4 hroom4c HC2 HK2; obtain ⟨c0, c1, c2, c3, c4, c5, c6, cb⟩ := H4.out.1; have g3 := cb.fz 3; have g6 := cb.fz 6; simp only at c0 c1 c2 c3 c4 c5 c6
                rcases htop with ⟨rfl, t1, t2⟩ | ⟨rfl, t1, t2⟩
                · have Ht := Lib.hid (And.intro t1 t2)
                  clear t1 t2 cb; go_wp2; go_meet; obtain ⟨x1, x2, x3, x4, x5, x6⟩ := H4.out; refine ⟨rfl, ex, Z, x1, x2, x3, x4, x5, x6, Or.inl ⟨?_, rfl, ?_⟩⟩
                  · rw [Hrm.out]; simp; exact Ht.out.2
                  · rw [Hrm.out]; simp; exact Ht.out.1
                · have Ht := Lib.hid (And.intro t1 t2)
                  have hexr := H.out.ex; simp only at hexr; clear t1 t2
                  by_cases hov : ex = 2147483647
                  · have d1 : decide ((2147483647 : Int) ≤ ex) = true := by simp; omega
                    have hm : FltC (w4.setCell ⟨b, 3, none⟩ (.int .u8 2)) b _ := H4.out.1.setFm 2; have Hm := Lib.hid hm; have Hov := Lib.hid hov; clear cb hm hov; go_wp2_with fail; refine bodyPost_ret (results_none rfl _ _ _) rfl ?_; have k3 := chg_cell w4 b 3 (.int .u8 2); obtain ⟨x1, x2, x3, x4, x5, x6⟩ := H4.out; refine ⟨rfl, ⟨(p : Int), md, av, 2, ng, some ⟨bm, om, none⟩, np, c, ex⟩, Z, ⟨rfl, rfl, rfl, ?_, Or.inr (Or.inr ⟨?_, Hov.out, rfl⟩)⟩, ⟨Hm.out, Or.inr ⟨bm, om, rfl, x5.chg k3, x4.chg k3 (fun i hi hh => hne hh.1), hcap⟩, fun b' o e => ?_, hpp, Hmd.out, Or.inr (Or.inr rfl), hexr, fun e => by cases e⟩, rfl, rfl, ?_⟩
                    · rw [HI.out.2, ← HI.out.1]; exact Hav.out.symm
                    · rw [Hrm.out]; simp; exact Ht.out.2
                    · injection e with e; injection e with e1 _; rw [← e1]; exact hne
                    · rw [HW.out] at x6
                      exact (((Chg.refl _ _).setCell b 2 (.int .i8 0) (fun _ => Or.inl ⟨rfl, by omega, by omega⟩)).trans x6 (fun b' o _ hh => hh)).trans k3 (fun b' o _ hh => Or.inl ⟨hh.1, by omega, by have := hh.2.2; omega⟩)
                  · have d1 : decide ((2147483647 : Int) ≤ ex) = false := by simp; omega
                    have w1 : IntKind.i32.wrap (ex + 1) = ex + 1 := IntWalk.i32_in _ (by omega); have hm : FltC (w4.setCell ⟨b, 6, none⟩ (.int .i32 (ex + 1))) b _ := H4.out.1.setEx (ex + 1); obtain ⟨W5, hW5⟩ : ∃ x, x = w4.setCell ⟨b, 6, none⟩ (.int .i32 (ex + 1)) := ⟨_, rfl⟩; have k6 : Chg (zRow b 6 1) w4 W5 := by rw [hW5]; exact chg_cell _ _ _ _
                    rw [← hW5] at hm; have kd : Chg zNone W5 W5.drew := (Chg.refl _ _).drew; obtain ⟨x1, x2, x3, x4, x5, x6⟩ := H4.out; have hX5 : Words W5 bm om np Z ∧ Room W5 bm om c ∧ PB W5 bm := ⟨x2.chg k6 (fun i hi hh => hne hh.1), x4.chg k6 (fun i hi hh => hne hh.1), x5.chg k6⟩
                    have HS2 : Hid (Calls Tryz.prog 199 #[.slice (some ⟨bm, om, none⟩) np c, .slice (some ⟨bm, om, none⟩) np c, .int .u64 1] W5.drew (OneWord (RshPost W5.drew bm om np Z 1))) :=
                      rshVU_any bm om bm om np c c Z 1 W5.drew (by omega) np1 (hX5.1.chg kd (fun _ _ h => h)) x3 ((hX5.2.1.le npc).chg kd (fun _ _ h => h)) (Or.inr (Or.inl (Nat.le_refl _))) (by decide) (by decide)
                    have HM := Lib.hid (And.intro hm (And.intro hX5.1 (And.intro hX5.2.1 (And.intro hX5.2.2 k6)))); have Hov := Lib.hid hov; have HW5 := Lib.hid hW5; clear cb hm hX5 k6 kd hov x1 x2 x3 x4 x5 x6 hW5; go_wp2_with fail; rw [← HW5.out]; obtain ⟨c0, c1, c2, c3, c4, c5, c6, cb⟩ := HM.out.1; simp only at c0 c1 c2 c3 c4 c5 c6; clear cb; go_wp2_with fail; refine wp_region_noPanic ?_
                    go_still_tail 8, (by kernel_rfl)
                    go_wp2_with (go_at_call 199; go_loud (refine HS2.out.mono ?_; rintro e w7 ⟨cy, rfl, Z2, h1, h2, h3, h4⟩; have HV3 := Lib.hid (And.intro h1 (And.intro h2 (And.intro h3 (shr_of_post h4)))); clear h1 h2 h3 h4)); refine NoPanic.normal ?_; have kd : Chg zNone W5 W5.drew := (Chg.refl _ _).drew; have k7 : Chg (zRow bm om np) W5 w7 := (kd.mono (fun _ _ _ h => h.elim)).trans HV3.out.1 (fun _ _ _ h => h); have hC7 := HM.out.1.chg k7 (fun o ho hh => hne hh.1.symm)
                    have hroom7 : Room w7 bm om c := by
                      have h1 : Room w7 bm om np := HV3.out.2.1.room (fun i hi => by
                        obtain ⟨⟨x, hx⟩, hf⟩ := HM.out.2.2.1 i (by omega)
                        rw [k7.frozen hx]; exact hf)
                      have h2 := (HM.out.2.2.1.drop np (c - np) (by omega)).chg k7 (fun i hi hh => by have := hh.2.2; omega); have := h1.join h2
                      rwa [show np + (c - np) = c by omega] at this
                    have hZ2 : val Z2 np = val Z np / 2 := HV3.out.2.2.2; have cz := HV3.out.2.1 (np - 1) (by omega); have fz : w7.frozen? ⟨bm, om + (np - 1), none⟩ = false := (hroom7 (np - 1) (by omega)).2; obtain ⟨ztop, hzt⟩ : ∃ x, Z2 (np - 1) = x := ⟨_, rfl⟩; rw [hzt] at cz; obtain ⟨zt0, zt1, hlast⟩ := top_set (t := t) H4.out.2.2.1 HV3.out.2.2.1 np1 t64 hZ2 (by rw [Ht.out.1]); rw [hzt] at zt0 zt1 hlast; have hor := or_top zt0 zt1; have H7 := Lib.hid (And.intro hC7 (And.intro hroom7 (And.intro hzt (And.intro hlast k7)))); have u1 : IntKind.u32.wrap ((np : Int) - 1) = (np : Int) - 1 := by rw [wrap_u32]; omega
                    have u2 : (0 : Int) ≤ (np : Int) - 1 := by omega
                    have u3 : (np : Int) - 1 < (np : Int) := by omega
                    have u4 : ((np : Int) - 1).toNat = np - 1 := by omega
                    clear c0 c1 c2 c3 c4 c5 c6 hroom7 hzt hlast kd k7; obtain ⟨c0, c1, c2, c3, c4, c5, c6, cb⟩ := hC7; simp only at c0 c1 c2 c3 c4 c5 c6; clear cb; go_wp2_with fail; go_meet; obtain ⟨hC7, hroom7, hzt, hlast, k7⟩ := H7.out; have k8 := chg_cell w7 bm (om + (np - 1)) (.int .u64 (ztop + 9223372036854775808)); refine ⟨rfl, ex + 1, upd Z2 (np - 1) (ztop + 9223372036854775808), hC7.chg k8 (fun o ho hh => hne hh.1.symm), ?_, hlast.1, hroom7.setInt _ _ _, (HM.out.2.2.2.1.chg k7).chg k8, ?_, Or.inr ⟨?_, ?_, rfl, hlast.2⟩⟩
                    · intro i hi
                      by_cases e : i = np - 1
                      · subst e; rw [upd_same]
                        exact cs_same (HV3.out.2.1 (np - 1) (by omega))
                      · rw [upd_other _ _ e]
                        exact k8.cell (HV3.out.2.1 i hi) (fun hh => by have := hh.2; omega)
                    · refine ((H4.out.2.2.2.2.2.trans HM.out.2.2.2.2 (fun b' o _ hh => Or.inl ⟨hh.1, by omega, by have := hh.2.2; omega⟩)).trans k7 (fun b' o _ hh => Or.inr ⟨om, by rw [hh.1], hh.2.1, (show o < om + c from by have := hh.2.2; omega)⟩)).trans k8 (fun b' o _ hh => Or.inr ⟨om, by rw [hh.1], by have := hh.2.1; omega, (show o < om + c from by have := hh.2.2; omega)⟩)
                    · rw [Hrm.out]; simp; exact Ht.out.2
                    · have := Hov.out; omega
            case rest => as_aux_lemma =>
              obtain ⟨rfl, HQ⟩ := hcut; obtain ⟨e5, Z, z1, z2, z3, z4, z5, z6, z7⟩ := HQ.out; have HZ := Lib.hid (And.intro z1 (And.intro z2 (And.intro z3 (And.intro z4 (And.intro z5 (And.intro z6 z7)))))); clear c0 c1 c2 c3 c4 c5 c6 g2 g3 g5 g6 cy fy an; obtain ⟨c0, c1, c2, c3, c4, c5, c6, cb⟩ := z1; have cy := z2 0 (by omega); obtain ⟨zz, hzz⟩ : ∃ x, Z 0 = x := ⟨_, rfl⟩; simp only [Nat.add_zero] at cy; rw [hzz] at cy; have zw : U64 zz := by rw [← hzz]; exact z3 0 (by omega)
              have fy : wc.frozen? ⟨bm, om, none⟩ = false := by
                obtain ⟨⟨x, hx⟩, hf⟩ := z4 0 (by omega); exact hf
              have an : bits BinOp.andNot IntKind.u64 zz (ls - 1) = zz - zz % ls := by rw [← HN.out.2.2.2.2.2.2.1]; exact andn_low zw t64
              simp only at c0 c1 c2 c3 c4 c5 c6; have Hzz := Lib.hid hzz; clear z2 z3 z4 z5 z6 z7 cb hzz zw; go_wp2_with fail
              go_end0
              refine ⟨rfl, ?_⟩; obtain ⟨z1, z2, z3, z4, z5, z6, z7⟩ := HZ.out; have e9 := HN.out.2.2.2.2.2.2.1; rw [← Hzz.out, ← e9]; refine round_fin H.out (by rw [HW.out]; exact (Chg.refl _ _).setCell _ _ _ (fun _ => ⟨rfl, by omega, by omega⟩)) (by omega) z1 z2 z3 z4 z5 z6 ?_ hnp HN.out.2.2.2.2.2.2.2 npn ?_ z7
              · rw [HI.out.2, ← HI.out.1]; exact Hav.out.symm
              · have h1 := HN.out.2.2.2.2.1
                unfold rm
                split <;> omega
theorem round_any (b p : Nat) (v : FV) (X : Nat → Int) (sv : Int) (sb : Bool) (w : World) (h : FNum w b v X) (hf : v.fm = 1) (hp : v.p = (p : Int)) (hsv : sv = 0 ∨ sv = 1) (hsb : sb = true ↔ sv = 1) :
    Calls Tryz.prog 149 #[.pointer (some ⟨b, 0, none⟩), .int .u64 sv] w fun e w' => e = .returned (.tuple #[]) ∧ RoundPost w b v X sb p w' := by
  by_cases hle : 64 * v.n ≤ p
  · refine (round_fits b p v X sv w h hf hp hle).mono ?_
    rintro e w' ⟨rfl, h1, h2⟩; exact ⟨rfl, fun _ => ⟨h1, h2⟩, fun hh => by omega⟩
  · refine (round_cut b p v X sv sb w h hf hp (by omega) hsv hsb).mono ?_
    rintro e w' ⟨rfl, h1⟩; exact ⟨rfl, fun hh => absurd hh hle, fun _ => h1⟩
end Go.Proofs.YtmgfajamanakcaaGreatDoor
