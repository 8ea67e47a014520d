/- Part of the proof of FnParse: what the functions that it reaches do, as contracts. Conditions: those that each theorem names. -/
import Derived.Test.YtmgfajamanakcaaGreatDoorR17
import Derived.Outline
import Derived.Test.YtmgfajamanakcaaGreatDoorR13
namespace Go.Proofs.YtmgfajamanakcaaGreatDoor
set_option linter.unusedVariables false
set_option linter.unusedSimpArgs false
open Go.RowKit
set_option maxRecDepth 100000
set_option maxHeartbeats 8000000 in
theorem umul_self (zb p : Nat) (v : FV) (X : Nat → Int) (w : World) (h : FNum w zb v X) (hf : v.fm = 1) (hp : v.p = (p : Int)) (hn : v.n < 12)
    (hK5 : w.cell? ⟨5, 0, none⟩ = some (.int .i64 12)) (hK6 : w.cell? ⟨6, 0, none⟩ = some (.int .i64 80)) :
    Calls Tryz.prog 227 #[.pointer (some ⟨zb, 0, none⟩), .pointer (some ⟨zb, 0, none⟩), .pointer (some ⟨zb, 0, none⟩)] w fun e w' => e = .returned (.tuple #[]) ∧ UMulPost w zb p v (val X v.n * val X v.n) (v.e + v.e) w' := by
  have hpe' : ∀ k, (binOp .eql 85 (.pointer (some ⟨zb, 0, none⟩)) (.pointer (some ⟨zb, 0, none⟩))).run Tryz.prog (w.drewN k) = .ok (.bool true) (w.drewN k) := fun k => flt_ptr_eq (w.drewN k) h.c.pb h.c.pb (decide_eq_true rfl).symm
  have HM := Lib.hid (fun k => sqr_any v.a v.a v.n v.c v.n v.c X (.pointer none) (w.drewN k) (h.z.chg ((Chg.refl zNone w).drewN k) (fun _ _ _ h => h)) (h.natin hf |>.drewN k) (Or.inl ⟨rfl, rfl⟩) hn hK5 hK6); have H := Lib.hid (And.intro h (And.intro h (And.intro hf (And.intro hf hf)))); obtain ⟨P, md, ac, fm, ng, a, n, c, e0⟩ := v; obtain ⟨c0, c1, c2, c3, c4, c5, c6, cb⟩ := h.c; have f5 := cb.fz 5; have hex := h.ex; simp only at hp hf c0 c1 c2 c3 c4 c5 c6 hex hn HM; have w1 : IntKind.i64.wrap e0 = e0 := IntWalk.i64_in _ (by omega); have w3 : IntKind.i64.wrap (e0 + e0) = e0 + e0 := IntWalk.i64_in _ (by omega); clear h cb hf hK5 hK6
  go_enter Tryz.func227, Tryz.ntmps227
  go_wp2_with fail
  go_quiet (fail)
  obtain ⟨W0, hW0⟩ : ∃ W0, W0 = w.drewN nq := ⟨_, rfl⟩; have kD : Chg zNone w W0 := by rw [hW0]; exact (Chg.refl _ _).drewN nq
  have kD1 : Chg zNone w W0.drew := kD.drew; have hpe2 : (binOp .eql 85 (.pointer (some ⟨zb, 0, none⟩)) (.pointer (some ⟨zb, 0, none⟩))).run Tryz.prog W0 = .ok (.bool true) W0 := by rw [hW0]; exact hpe' nq
  have HM0 : Hid (Calls Tryz.prog 163 #[.slice a n c, .pointer none, .slice a n c] W0.drew (NatRes W0.drew a c (val X n * val X n))) := by rw [hW0]; exact HM.out (nq + 1)
  have c5' : W0.cell? ⟨zb, 5, none⟩ = some (.slice a n c) := kD.cell c5 (fun h => h); have f5' : W0.frozen? ⟨zb, 5, none⟩ = false := (kD.frozen c5 _).trans f5; have HK := Lib.hid (And.intro kD kD1); rw [← hW0]; clear HM hpe' c0 c1 c2 c3 c4 c5 c6 f5 kD kD1 hW0; go_upto_if 20 with fail; go_cut [6] (fun s6 wc => s6 = .int .i64 (e0 + e0) ∧ Hid (MulRel w zb ⟨P, md, ac, fm, ng, a, n, c, e0⟩ (val X n * val X n) wc))
  case first => as_aux_lemma =>
    go_wp2_with fail; refine wp_region_noPanic ?_; refine wp_region_any (by kernel_rfl) ?_; change wpAny _ _ _ _ _ _ _ (World.drew _); refine wpAny_take (i := 0) (v := ?_) rfl (by kernel_rfl) (by kernel_rfl) (by kernel_rfl) (fun _ _ _ h => False.elim h) (Or.inl ⟨by rfl, ?_⟩) ?_; rotate_left 1
    · intro w9
      go_simp; (try with_reducible rfl)
    (try simp only [Act.put, List.getElem_toArray, List.getElem_cons_zero, List.getElem_cons_succ, List.setIfInBounds_toArray, List.set_cons_zero, List.set_cons_succ]); refine wpAny_take (i := 1) (v := ?_) rfl (by kernel_rfl) (by kernel_rfl) (by kernel_rfl) (fun _ _ _ h => False.elim h) (Or.inl ⟨by rfl, ?_⟩) ?_; rotate_left 1
    · intro w9
      go_simp; (try with_reducible rfl)
    (try simp only [Act.put, List.getElem_toArray, List.getElem_cons_zero, List.getElem_cons_succ, List.setIfInBounds_toArray, List.set_cons_zero, List.set_cons_succ]); refine wpAny_take (i := 5) (v := ?_) rfl (by kernel_rfl) (by kernel_rfl) (by kernel_rfl) (fun _ _ _ h => False.elim h) (Or.inl ⟨by rfl, ?_⟩) ?_; rotate_left 1
    · intro w9
      go_simp; (try with_reducible rfl)
    (try simp only [Act.put, List.getElem_toArray, List.getElem_cons_zero, List.getElem_cons_succ, List.setIfInBounds_toArray, List.set_cons_zero, List.set_cons_succ]); refine wpAny_take (i := 2) (v := ?_) rfl (by kernel_rfl) (by kernel_rfl) (by kernel_rfl) (fun _ _ _ h => False.elim h) (Or.inl ⟨by rfl, ?_⟩) ?_; rotate_left 1
    · intro w9
      go_simp; (try with_reducible rfl)
    (try simp only [Act.put, List.getElem_toArray, List.getElem_cons_zero, List.getElem_cons_succ, List.setIfInBounds_toArray, List.set_cons_zero, List.set_cons_succ]); refine wpAny_take (i := 6) (v := ?_) rfl (by kernel_rfl) (by kernel_rfl) (by kernel_rfl) (fun _ _ _ h => False.elim h) (Or.inl ⟨by rfl, ?_⟩) ?_; rotate_left 1
    · intro w9
      go_simp; (try with_reducible rfl)
    (try simp only [Act.put, List.getElem_toArray, List.getElem_cons_zero, List.getElem_cons_succ, List.setIfInBounds_toArray, List.set_cons_zero, List.set_cons_succ]); refine wpAny_take (i := 3) (v := ?_) rfl (by kernel_rfl) (by kernel_rfl) (by kernel_rfl) (fun _ _ _ h => False.elim h) (Or.inl ⟨by rfl, ?_⟩) ?_; rotate_left 1
    · intro w9
      go_simp; (try with_reducible rfl)
    (try simp only [Act.put, List.getElem_toArray, List.getElem_cons_zero, List.getElem_cons_succ, List.setIfInBounds_toArray, List.set_cons_zero, List.set_cons_succ]); refine wpAny_take (i := 7) (v := ?_) rfl (by kernel_rfl) (by kernel_rfl) (by kernel_rfl) (fun _ _ _ h => False.elim h) (Or.inl ⟨by rfl, ?_⟩) ?_; rotate_left 1
    · intro w9
      go_simp; (try with_reducible rfl)
    (try simp only [Act.put, List.getElem_toArray, List.getElem_cons_zero, List.getElem_cons_succ, List.setIfInBounds_toArray, List.set_cons_zero, List.set_cons_succ]); refine wpAny_ready (rs := [4, 8]) (by kernel_rfl) (by simp) ?_
    all_goals refine AllReady.cons rfl (fun K hK => ?_) (AllReady.cons rfl (fun K hK => ?_) AllReady.nil)
    all_goals go_simp
    all_goals refine hK _ _ ?_
    all_goals clear hK K
    all_goals try simp only [Act.put, List.getElem_toArray, List.getElem_cons_zero, List.getElem_cons_succ, List.setIfInBounds_toArray, List.set_cons_zero, List.set_cons_succ]
    refine wpAny_ready (rs := [8]) (by kernel_rfl) (by simp) ?_; rotate_left 1; refine wpAny_ready (rs := [4]) (by kernel_rfl) (by simp) ?_; rotate_left 1
    all_goals refine AllReady.cons rfl (fun K hK => ?_) AllReady.nil
    all_goals go_simp
    all_goals refine hK _ _ ?_
    all_goals clear hK K
    all_goals try simp only [Act.put, List.getElem_toArray, List.getElem_cons_zero, List.getElem_cons_succ, List.setIfInBounds_toArray, List.set_cons_zero, List.set_cons_succ]
    all_goals
      refine wpAny_ready (rs := [9]) (by kernel_rfl) (by simp) ?_; refine AllReady.cons rfl (fun K hK => ?_) AllReady.nil; go_simp; go_wp2_with (go_at_call 163; go_loud (refine HM0.out.mono ?_; rintro e w1 ⟨a', n', c', Z, rfl, h1, h2, h3, h4, h5, h6, h7, h8⟩; have k8 : Chg (zAddr a c) w w1 := (HK.out.2.mono (fun _ _ _ h => h.elim)).trans h8 (fun _ _ _ h => h); have z5' : w1.cell? ⟨zb, 5, none⟩ = some (.slice a n c) := h8.cell (w := W0.drew) c5' (fun hh => by obtain ⟨po, e, _⟩ := hh; exact H.out.1.ap _ _ e rfl); have f6' : w1.frozen? ⟨zb, 5, none⟩ = false := (h8.frozen (w := W0.drew) c5' 5).trans f5'; have HR := Lib.hid (mulrel_of H.out.1 h1 h2 h3 h4 h5 h6 (home_le h7 HK.out.2.size) k8); clear h1 h2 h3 h4 h5 h6 h7 h8 k8)); (try simp only [Act.put, List.getElem_toArray, List.getElem_cons_zero, List.getElem_cons_succ, List.setIfInBounds_toArray, List.set_cons_zero, List.set_cons_succ]); refine wpAny_take (i := 10) (v := ?_) rfl (by kernel_rfl) (by kernel_rfl) (by kernel_rfl) (fun _ _ _ h => False.elim h) (Or.inl ⟨by rfl, ?_⟩) ?_; rotate_left 1
      · intro w9
        go_simp; (try with_reducible rfl)
      (try simp only [Act.put, List.getElem_toArray, List.getElem_cons_zero, List.getElem_cons_succ, List.setIfInBounds_toArray, List.set_cons_zero, List.set_cons_succ]); refine wpAny_take (i := 11) (v := ?_) rfl (by kernel_rfl) (by kernel_rfl) (by kernel_rfl) (fun _ _ _ h => False.elim h) (Or.inl ⟨by rfl, ?_⟩) ?_; rotate_left 1
      · intro w9
        go_simp; (try with_reducible rfl)
      (try simp only [Act.put, List.getElem_toArray, List.getElem_cons_zero, List.getElem_cons_succ, List.setIfInBounds_toArray, List.set_cons_zero, List.set_cons_succ]); refine wpAny_ready (rs := [12]) (by kernel_rfl) (by simp) ?_; refine AllReady.cons rfl (fun K hK => ?_) AllReady.nil; go_simp; refine hK _ _ ?_; clear hK K; (try simp only [Act.put, List.getElem_toArray, List.getElem_cons_zero, List.getElem_cons_succ, List.setIfInBounds_toArray, List.set_cons_zero, List.set_cons_succ]); refine wpAny_done (by kernel_rfl) ?_ _; refine NoPanic.normal ?_; go_wp2; go_meet; exact ⟨rfl, HR.out⟩
  case rest => as_aux_lemma =>
    obtain ⟨rfl, HR⟩ := hcut; obtain ⟨a', n', c', Z, r1, r2, r3, r4, r5, r6, r7, r8, r9, r10⟩ := HR.out; obtain ⟨hm, hny', bm, om, rfl, hw, hroom, hz0, _⟩ := mul_out H.out.1 H.out.1 H.out.2.2.1 H.out.2.2.1 r2 r3 r4 r5 r6 r7; have hn24 : n' < 65536 := by simp only at hny'; omega
    have HF := Lib.hid (fnorm_any bm om n' c' Z wc hm (by omega) hw r5 (hroom.le r2) hz0); have HR2 := Lib.hid (And.intro r1 (And.intro r2 (And.intro r3 (And.intro r5 (And.intro r7 (And.intro r8 (And.intro r9 (And.intro r10 (And.intro hm hn24))))))))); clear c5' f5' HM0; obtain ⟨c0, c1, c2, c3, c4, c5, c6, cb⟩ := r1; simp only at c0 c1 c2 c3 c4 c5 c6; clear r2 r3 r4 r5 r6 r7 r8 r9 r10 hm hw hroom hz0 cb hn24 hny'; go_wp2_with fail; refine HF.out.mono ?_; rintro e wd ⟨s, Z2, rfl, q1, q2, q3, q4, q5, q6, q7⟩; obtain ⟨r1, r2, r3, r5, r7, r8, r9, r10, hm, hn24⟩ := HR2.out; have hC := r1.chg q3 (fun o ho hh => r10 bm om rfl hh.1.symm)
    have hZ : ZOK wd (some ⟨bm, om, none⟩) c' := r3.ints q3 (by
      rintro b o _ ⟨rfl, h1, h2⟩; have hy := q4 (o - om) (by omega); rw [show om + (o - om) = o by omega] at hy
      exact ⟨_, hy⟩)
    have hM : FMant wd ⟨P, md, ac, fm, ng, some ⟨bm, om, none⟩, n', c', e0⟩ Z2 := ⟨hm, r2, by simp only; omega, Or.inr ⟨bm, om, rfl, q4⟩, q5, q7⟩; have hN : FNum wd zb ⟨P, md, ac, fm, ng, some ⟨bm, om, none⟩, n', c', e0⟩ Z2 := ⟨hC, hZ, r10, H.out.1.p, H.out.1.md, H.out.1.fm, H.out.1.ex, fun _ => hM⟩; have HS := Lib.hid (setExpAndRound_any zb p ⟨P, md, ac, fm, ng, some ⟨bm, om, none⟩, n', c', e0⟩ Z2 (e0 + e0 - s) 0 false wd hN hM hp (Or.inl rfl) (by simp)); have HQ := Lib.hid (And.intro q2 (And.intro q3 (And.intro q6 hM))); have s64 : s < 64 := q2; have w4 : IntKind.i64.wrap (e0 + e0 - (s : Int)) = e0 + e0 - (s : Int) := IntWalk.i64_in _ (by omega); clear q1 q2 q3 q4 q5 q6 q7 r1 r2 r3 r5 r7 r8 r9 r10 hm hn24 hC hZ hM hN; go_wp2_with fail; refine HS.out.mono ?_; rintro e we ⟨rfl, hs⟩; have Hs := Lib.hid hs; clear hs; go_wp2_with fail
    go_end0
    obtain ⟨r1, r2, r3, r5, r7, r8, r9, r10, hm, hn24⟩ := HR2.out; obtain ⟨q2, q3, q6, hM⟩ := HQ.out; refine ⟨rfl, wd, ⟨P, md, ac, fm, ng, some ⟨bm, om, none⟩, n', c', e0⟩, Z2, s, rfl, hM, ?_, s64, r8, r9.trans q3 ?_, Hs.out⟩
    · simp only; rw [q6, r7]
    · rintro b o hb ⟨rfl, h1, h2⟩
      exact Or.inr (r8.zone _ _ hb ⟨om, rfl, h1, by omega⟩)
theorem pow_lt_of {a b : Nat} (h : (2 : Int) ^ a < 2 ^ b) : a < b := by
  by_cases hh : a < b
  · exact hh
  · exfalso
    obtain ⟨k, rfl⟩ : ∃ k, a = b + k := ⟨a - b, by omega⟩
    rw [Int.pow_add] at h
    have := Int.mul_le_mul_of_nonneg_left (show 1 ≤ (2 : Int) ^ k by have := two_pos k; omega) (Int.le_of_lt (two_pos b))
    omega
theorem prod_shift {A B M : Int} {na nb n s : Nat} (ha : 1 ≤ na) (hb : 1 ≤ nb) (hn : 1 ≤ n) (a1 : 2 ^ (64 * na - 1) ≤ A) (a2 : A < 2 ^ (64 * na)) (b1 : 2 ^ (64 * nb - 1) ≤ B) (b2 : B < 2 ^ (64 * nb)) (h : M = A * B * 2 ^ s) (hs : s < 64) (m1 : 2 ^ (64 * n - 1) ≤ M) (m2 : M < 2 ^ (64 * n)) :
    n = na + nb ∧ s ≤ 1 := by
  have pa : 0 < A := by have := two_pos (64 * na - 1); omega
  have pb : 0 < B := by have := two_pos (64 * nb - 1); omega
  have p1 : (2 : Int) ^ (64 * na - 1 + (64 * nb - 1)) ≤ A * B := by
    rw [Int.pow_add]
    exact Int.mul_le_mul a1 b1 (Int.le_of_lt (two_pos _)) (Int.le_of_lt pa)
  have p2 : A * B < 2 ^ (64 * na + 64 * nb) := by
    rw [Int.pow_add]
    have := Int.mul_lt_mul_of_pos_right a2 pb
    have := Int.mul_lt_mul_of_pos_left b2 (two_pos (64 * na))
    omega
  have q1 : (2 : Int) ^ (64 * na - 1 + (64 * nb - 1) + s) < 2 ^ (64 * n) := by
    rw [Int.pow_add]
    have := Int.mul_le_mul_of_nonneg_right p1 (Int.le_of_lt (two_pos s))
    omega
  have q2 : (2 : Int) ^ (64 * n - 1) < 2 ^ (64 * na + 64 * nb + s) := by
    rw [Int.pow_add 2 (64 * na + 64 * nb) s]
    have := Int.mul_lt_mul_of_pos_right p2 (two_pos s)
    omega
  have r1 := pow_lt_of q1
  have r2 := pow_lt_of q2
  omega
structure MulAll (w : World) (b p : Nat) (v : FV) (A B : Int) (na nb : Nat) (ex : Int) (w' : World) (v' : FV) (Z : Nat → Int) : Prop where
  new : FNew w b v w' v' Z
  ng : v'.ng = v.ng
  len : v'.fm = 1 → 64 * v'.n ≤ p + 63
  fms : -2147483647 ≤ ex → v'.fm = 2 ∨ (v'.fm = 1 ∧ ex - 1 ≤ v'.e ∧ v'.e ≤ ex + 1)
  val : -536870912 ≤ ex → ex ≤ 536870912 → FVal v' Z v.ng (A * B) 1 (ex - 64 * na - 64 * nb) p v.md
theorem umul_res {w w' : World} {b p : Nat} {v : FV} {A B : Int} {na nb : Nat} {ex : Int} (h : UMulPost w b p v (A * B) ex w') (hp1 : 1 ≤ p) (ha : 1 ≤ na) (hb : 1 ≤ nb) (a1 : 2 ^ (64 * na - 1) ≤ A) (a2 : A < 2 ^ (64 * na)) (b1 : 2 ^ (64 * nb - 1) ≤ B) (b2 : B < 2 ^ (64 * nb)) :
    ∃ v' Z, MulAll w b p v A B na nb ex w' v' Z := by
  obtain ⟨W, v1, Z1, s, h1, h2, h3, h4, h5, h6, h7⟩ := h
  obtain ⟨m1, m2⟩ := val_ge_top h2.2.2.2.2.1 h2.1 h2.2.2.2.2.2
  obtain ⟨e1, e2⟩ := prod_shift ha hb h2.1 a1 a2 b1 b2 h3 h4 m1 m2
  obtain ⟨v', Y, g⟩ := ser_all h7 h2 hp1
  have hng : v1.ng = v.ng := by rw [h1]
  have hmd : v1.md = v.md := by rw [h1]
  have hpp : v1.p = v.p := by rw [h1]
  refine ⟨v', Y, ⟨g.new.base hpp hmd h5 h6, g.ng.trans hng, g.len, fun hx => ?_, fun hx1 hx2 => ?_⟩⟩
  · rcases g.fms (by omega) with k | ⟨k1, k2, k3⟩
    · exact Or.inl k
    · exact Or.inr ⟨k1, by omega, by omega⟩
  · have k := g.vl (by omega) (by omega) (val Z1 v1.n) 1 (by decide) (by simp) (by simp) (fun _ => by simp)
    rw [hng, hmd, h3] at k
    have k2 := FVal.conv (c := s) (d := 0) (N := A * B) (D := 1) (by simpa using k)
    rw [e1] at k2
    rw [show ex - (s : Int) - 64 * ((na + nb : Nat) : Int) + (s : Int) - ((0 : Nat) : Int) = ex - 64 * na - 64 * nb by push_cast; omega] at k2
    exact k2
end Go.Proofs.YtmgfajamanakcaaGreatDoor
namespace Go.Proofs.YtmgfajamanakcaaGreatDoor
set_option linter.unusedVariables false
set_option linter.unusedSimpArgs false
def padW (X : Nat → Int) (d : Nat) (i : Nat) : Int := if i < d then 0 else X (i - d)
theorem padW_val (X : Nat → Int) (d n : Nat) : val (padW X d) (d + n) = val X n * BB ^ d := by
  rw [val_add, val_zeros (fun i hi => by unfold padW; rw [if_pos hi])]
  rw [val_congr (X := fun i => padW X d (d + i)) (Y := X) (fun i hi => by unfold padW; rw [if_neg (by omega), Nat.add_sub_cancel_left])]
  rw [Int.zero_add, Int.mul_comm]
theorem padW_wf {X : Nat → Int} {d n : Nat} (h : WF X n) : WF (padW X d) (d + n) := by
  intro i hi
  unfold padW
  split
  · exact ⟨by decide, by decide⟩
  · exact h _ (by omega)
end Go.Proofs.YtmgfajamanakcaaGreatDoor
namespace Go.Proofs.YtmgfajamanakcaaGreatDoor
set_option linter.unusedVariables false
set_option linter.unusedSimpArgs false
open Go.RowKit
set_option maxRecDepth 100000
theorem and_mask4 (x : Nat) (hx : x < 2 ^ 64) : x &&& (2 ^ 64 - 4) = x - x % 4 := by
  have e : x - x % 4 = (x >>> 2) <<< 2 := by
    rw [Nat.shiftRight_eq_div_pow, Nat.shiftLeft_eq]
    omega
  rw [e]
  apply Nat.eq_of_testBit_eq
  intro i
  have h3 : (2 ^ 64 - 4).testBit i = (decide (i < 64) && !(Nat.testBit 3 i)) := Nat.testBit_two_pow_sub_succ (x := 3) (by decide) i
  rw [Nat.testBit_and, h3, Nat.testBit_shiftLeft, Nat.testBit_shiftRight]
  have h4 : Nat.testBit 3 i = decide (i < 2) := by
    have := Nat.testBit_two_pow_sub_one 2 i
    simpa using this
  rw [h4]
  by_cases h2 : i < 2
  · simp [h2]; omega
  · have h5 : 2 + (i - 2) = i := by omega
    by_cases h6 : i < 64
    · simp [h2, h6, h5]; omega
    · have h7 : x.testBit i = false := Nat.testBit_lt_two_pow (Nat.lt_of_lt_of_le hx (Nat.pow_le_pow_right (by decide) (by omega)))
      simp [h6, h5, h7]
theorem andn_three (k : Nat) (h : k < 4611686018427387904) : bits BinOp.andNot IntKind.i64 (k : Int) 3 = ((k - k % 4 : Nat) : Int) := by
  have h1 : (~~~ (BitVec.ofInt 64 3)).toNat = 2 ^ 64 - 4 := by decide
  have key : (BitVec.ofInt 64 (k : Int) &&& ~~~ (BitVec.ofInt 64 3)).toNat = k - k % 4 := by
    rw [BitVec.toNat_and, BitVec.toNat_ofInt, h1]
    rw [show ((k : Int) % ((2 ^ 64 : Nat) : Int)).toNat = k by omega]
    exact and_mask4 k (by omega)
  show IntKind.i64.wrap ((BitVec.ofInt 64 (k : Int) &&& ~~~ (BitVec.ofInt 64 3)).toNat : Nat) = _
  rw [key, IntKind.wrap_i64]
  omega
def up4 (n : Nat) : Nat := n + 3 - (n + 3) % 4
theorem up4_ge (n : Nat) : n ≤ up4 n ∧ up4 n ≤ n + 3 := by unfold up4; omega
def InnerPost (w : World) (q : Nat) (a : Option Addr) (L c n : Nat) (e : Ending) (w' : World) : Prop :=
  ∃ b o c', e = .returned (.slice (some ⟨b, o + L, none⟩) n n) ∧ w'.cell? ⟨q, 0, none⟩ = some (.slice (some ⟨b, o, none⟩) (L + up4 n) c') ∧ L + up4 n ≤ c' ∧ ZOK w' (some ⟨b, o, none⟩) c' ∧ Home w a c (some ⟨b, o, none⟩) c' ∧
    Chg (fun b' o' => zRow q 0 1 b' o' ∨ ∃ po, a = some ⟨b', po, none⟩ ∧ po + L ≤ o' ∧ o' < po + c) w w'
set_option maxHeartbeats 4000000 in
theorem inner_any (q : Nat) (a : Option Addr) (L c n : Nat) (w : World) (h1 : w.cell? ⟨q, 0, none⟩ = some (.slice a L c)) (h2 : w.frozen? ⟨q, 0, none⟩ = false) (hL : L ≤ c) (hz : ZOK w a c) (hne : ∀ b o, a = some ⟨b, o, none⟩ → b ≠ q) (hn0 : 0 < n) (hn : n < 68719476736) (hL2 : L < 274877906944) :
    Calls Tryz.prog 221 #[.pointer (some ⟨q, 0, none⟩), .int .i64 (n : Int)] w (InnerPost w q a L c n) := by
  have hb : bits BinOp.andNot IntKind.i64 ((n : Int) + 3) 3 = ((up4 n : Nat) : Int) := by
    have := andn_three (n + 3) (by omega)
    rw [show (((n + 3 : Nat)) : Int) = (n : Int) + 3 by omega] at this
    exact this
  have hu := up4_ge n
  obtain ⟨nr, hnr⟩ : ∃ x, up4 n = x := ⟨_, rfl⟩
  rw [hnr] at hb hu
  have Hnr := Lib.hid hnr
  obtain ⟨hu1, hu2⟩ := hu
  have hql : q < w.heap.size := lt_of_cell h1
  have HG := Lib.hid (grow248_any a L c nr w hz hL (by omega))
  have H := Lib.hid (And.intro hz hne)
  have H1 := Lib.hid (And.intro h1 h2)
  clear hz hne hnr
  go_enter Tryz.func221, Tryz.ntmps221
  go_wp2_with fail
  refine HG.out.mono ?_
  rintro e w1 ⟨a', c', rfl, g1, g2, g3, g4⟩
  obtain ⟨b, o, rfl, hpb, hroom⟩ := g2.room (by omega)
  have q1 : w1.cell? ⟨q, 0, none⟩ = some (.slice a L c) := g4.cell h1 (fun h => h)
  have q2 : w1.frozen? ⟨q, 0, none⟩ = false := (g4.frozen h1 _).trans h2
  have hbq : b ≠ q := by
    rcases g3 with ⟨e, _⟩ | ⟨b', o', e, hb'⟩
    · exact H.out.2 b o e.symm
    · injection e with e; injection e with e1 _; omega
  have H2 := Lib.hid (And.intro g2 (And.intro g3 g4))
  obtain ⟨⟨x0, hx0⟩, hx1⟩ := hroom L (by omega)
  have j1 : (0 : Int) ≤ (L : Int) + (nr : Int) := by omega
  have j2 : (L : Int) + (nr : Int) ≤ (c' : Int) := by omega
  have j3 : (L : Int) ≤ (L : Int) + (n : Int) := by omega
  have j4 : (L : Int) + (n : Int) ≤ (c' : Int) := by omega
  have j5 : (0 : Int) ≤ (L : Int) := by omega
  have j6 : decide ((0 : Int) < (n : Int)) = true := by simp; omega
  have j7 : ((L : Int) + (nr : Int)).toNat = L + nr := by omega
  have j8 : ((L : Int) + (n : Int)).toNat = L + n := by omega
  have j9 : ¬ (L + n = L) := by omega
  clear g2 g3 g4 hroom h1 h2
  go_wp2_with fail
  go_ret
  obtain ⟨g2, g3, g4⟩ := H2.out
  have k1 : Chg (zRow q 0 1) w1 ((w1.setCell ⟨q, 0, none⟩ (.slice (some ⟨b, o, none⟩) L c')).setCell ⟨q, 0, none⟩ (.slice (some ⟨b, o, none⟩) (L + nr) c')) :=
    ((Chg.refl _ _).setCell q 0 _ (fun _ => ⟨rfl, by omega, by omega⟩)).setCell q 0 _ (fun _ => ⟨rfl, by omega, by omega⟩)
  have z2 := g2.chg k1 (by rintro b' o' ⟨po, e, _⟩ hh; injection e with e; injection e with e1 _; exact hbq (e1.trans hh.1))
  have k2 := chg_cell ((w1.setCell ⟨q, 0, none⟩ (.slice (some ⟨b, o, none⟩) L c')).setCell ⟨q, 0, none⟩ (.slice (some ⟨b, o, none⟩) (L + nr) c')) b (o + L) (.int .u64 1043915)
  refine ⟨b, o, c', rfl, ?_, by rw [Hnr.out]; exact g1, z2.setInt b (o + L) 1043915, g3, ?_⟩
  · rw [Hnr.out]
    exact k2.cell (cs_same (cs_same q1)) (fun h => hbq h.1.symm)
  · refine ((g4.mono (fun _ _ _ h => h.elim)).trans k1 (fun b' o' _ hh => Or.inl hh)).trans k2 (fun b' o' hb' hh => Or.inr ?_)
    obtain ⟨rfl, h3, h4⟩ := hh
    rcases g3 with ⟨e, e2⟩ | ⟨b2, o2, e, hb2⟩
    · exact ⟨o, e.symm, by omega, by omega⟩
    · injection e with e; injection e with e1 _; omega
def NatPost (w : World) (p : Nat) (d : Option SD) (n : Nat) (e : Ending) (w' : World) : Prop :=
  ∃ d' b o c', e = .returned (.slice (some ⟨b, o, none⟩) n c') ∧ n ≤ c' ∧ Stk w' p d' ∧ StkFrom w d d' ∧ stkL d' ≤ stkL d + n + 3 ∧ ZOK w' (some ⟨b, o, none⟩) c' ∧ b ≠ p ∧ (∀ s, d' = some s → b ≠ s.q) ∧ (∀ i, i < c' → ¬ zStk p d' b (o + i)) ∧ (∀ i, i < c' → b < w.heap.size → zStk p d b (o + i)) ∧ Chg (zStk p d) w w'
set_option maxHeartbeats 4000000 in
theorem nat_inner (p : Nat) (s : SD) (n : Nat) (w : World) (h : Stk w p (some s)) (hn0 : 0 < n) (hn : n < 68719476736) (hL : s.L < 274877906944) :
    Calls Tryz.prog 169 #[.pointer (some ⟨p, 0, none⟩), .int .i64 (n : Int)] w (NatPost w p (some s) n) := by
  obtain ⟨q, a, L, c⟩ := s
  have H := Lib.hid h
  obtain ⟨⟨h1, h2⟩, ⟨h3, h4⟩, h5, h6, h7, h8⟩ := h
  simp only at h1 h2 h3 h4 h5 h6 h7 h8 hL
  have HI := Lib.hid (inner_any q a L c n w h3 h4 h5 h6 (fun b o e => (h8 b o e).2) hn0 hn hL)
  clear h3 h4 h5 h6 h7 h8
  go_enter Tryz.func169, Tryz.ntmps169
  go_wp2_with fail
  refine HI.out.mono ?_
  rintro e w1 ⟨b, o, c', rfl, g1, g2, g3, g4, g5⟩
  have HQ := Lib.hid (And.intro g1 (And.intro g2 (And.intro g3 (And.intro g4 g5))))
  clear g1 g2 g3 g4 g5
  go_wp2
  go_ret
  obtain ⟨g1, g2, g3, g4, g5⟩ := HQ.out
  obtain ⟨⟨h1, h2⟩, ⟨h3, h4⟩, h5, h6, h7, h8⟩ := H.out
  simp only at h1 h2 h3 h4 h5 h6 h7 h8
  have hu := up4_ge n
  have hpl := lt_of_cell h1
  have hql := lt_of_cell h3
  have hne : b ≠ p ∧ b ≠ q := by
    rcases g4 with ⟨e, _⟩ | ⟨b2, o2, e, hb2⟩
    · exact h8 b o e.symm
    · injection e with e; injection e with e1 _; exact ⟨by omega, by omega⟩
  have hpz : ¬ (zRow q 0 1 p 0 ∨ ∃ po, a = some ⟨p, po, none⟩ ∧ po + L ≤ 0 ∧ 0 < po + c) := by
    rintro (h | ⟨po, e, _⟩)
    · exact h7 h.1.symm
    · exact (h8 p po e).1 rfl
  have hz3 : ZOK w1 (some ⟨b, o + L, none⟩) n := by
    rcases g3 with ⟨h, _⟩ | ⟨b2, o2, e, hp, hr, hc⟩
    · cases h
    · injection e with e; injection e with e1 e2; subst e1; subst e2
      exact Or.inr ⟨b, o + L, rfl, hp, hr.drop L n (by omega), by omega⟩
  refine ⟨some ⟨q, some ⟨b, o, none⟩, L + up4 n, c'⟩, b, o + L, n, rfl, Nat.le_refl _, ⟨⟨g5.cell h1 hpz, (g5.frozen h1 _).trans h2⟩, ⟨g1, (g5.frozen h3 _).trans h4⟩, g2, g3, h7, fun b' o' e => ?_⟩, ⟨rfl, Nat.le_add_right _ _, ?_⟩, ?_, hz3, hne.1, ?_, ?_, ?_, g5.mono (fun b' o' _ hh => Or.inr hh)⟩
  · simp only at e; injection e with e; injection e with e1 _; rw [← e1]; exact hne
  · rcases g4 with ⟨e1, e2⟩ | ⟨b2, o2, e, hb2⟩
    · exact Or.inl ⟨e1, e2⟩
    · exact Or.inr (Or.inr ⟨b2, o2, e, hb2⟩)
  · simp only [stkL]; omega
  · intro s e; injection e with e; rw [← e]; exact hne.2
  · rintro i hi (hh | hh | ⟨po, e, h9, h10⟩)
    · exact hne.1 hh.1
    · exact hne.2 hh.1
    · simp only at e h9; injection e with e; injection e with _ e2; omega
  · intro i hi hb
    refine Or.inr (Or.inr ?_)
    rcases g4 with ⟨e1, e2⟩ | ⟨b2, o2, e, hb2⟩
    · exact ⟨o, e1.symm, by simp only; omega, by simp only; omega⟩
    · injection e with e; injection e with e1 _; omega
set_option maxHeartbeats 4000000 in
theorem nat_small (p n : Nat) (w : World) (h : Stk w p none) (hn0 : 0 < n) (hn : n ≤ 4) :
    Calls Tryz.prog 169 #[.pointer (some ⟨p, 0, none⟩), .int .i64 (n : Int)] w (NatPost w p none n) := by
  have H := Lib.hid h
  obtain ⟨h1, h2⟩ := h
  have HG := Lib.hid (grow220_any none 0 0 n w (Or.inl ⟨rfl, rfl⟩) (Nat.le_refl _) (by omega))
  have j0 : decide ((n : Int) ≤ 4) = true := by simp; omega
  have j1 : (0 : Int) ≤ (n : Int) := by omega
  have j6 : decide ((0 : Int) < (n : Int)) = true := by simp; omega
  go_enter Tryz.func169, Tryz.ntmps169
  go_wp2_with fail
  refine HG.out.mono ?_
  rintro e w1 ⟨a', c', rfl, g1, g2, g3, g4⟩
  obtain ⟨b, o, rfl, hpb, hroom⟩ := g2.room (by omega)
  have hb : w.heap.size ≤ b := by
    rcases g3 with ⟨e, _⟩ | ⟨b2, o2, e, hb2⟩
    · cases e
    · injection e with e; injection e with e1 _; omega
  obtain ⟨⟨x0, hx0⟩, hx1⟩ := hroom 0 (by omega)
  simp only [Nat.add_zero] at hx0 hx1
  have j2 : (n : Int) ≤ (c' : Int) := by omega
  have j3 : (0 : Int) < (n : Int) := by omega
  have HQ := Lib.hid (And.intro g2 g4)
  clear g2 g3 g4 hroom
  go_wp2
  go_ret
  obtain ⟨g2, g4⟩ := HQ.out
  have hpl := lt_of_cell h1
  have k2 := chg_cell w1 b o (.int .u64 11259375)
  refine ⟨none, b, o, c', rfl, by omega, ⟨k2.cell (g4.cell h1 (fun h => h)) (fun h => by have := h.1; omega), by rw [fz_set]; exact (g4.frozen h1 _).trans h2⟩, trivial, by simp [stkL], g2.setInt b o 11259375, by omega, (fun s e => by cases e), ?_, fun i hi hb' => by omega, (g4.mono (fun _ _ _ h => h.elim)).trans k2 (fun b' o' hb' hh => by have := hh.1; omega)⟩
  rintro i hi hh
  have := hh.1
  omega
theorem alloc_size' (w : World) (o : Obj) : (w.alloc o).heap.size = w.heap.size + 1 := by
  show (w.heap.push _).size = _
  simp
set_option maxHeartbeats 4000000 in
theorem nat_fresh (p n : Nat) (w : World) (h : Stk w p none) (hn0 : 4 < n) (hn : n < 68719476736) :
    Calls Tryz.prog 169 #[.pointer (some ⟨p, 0, none⟩), .int .i64 (n : Int)] w (NatPost w p none n) := by
  have H := Lib.hid h
  obtain ⟨h1, h2⟩ := h
  have hpl := lt_of_cell h1
  have j0 : decide ((n : Int) ≤ 4) = false := by simp; omega
  obtain ⟨W, hW⟩ : ∃ W, W = (w.setCell ⟨p, 0, none⟩ (.pointer (some ⟨w.heap.size, 0, none⟩))).alloc (.cells #[.slice none 0 0] 257) := ⟨_, rfl⟩
  have q1 : W.cell? ⟨w.heap.size, 0, none⟩ = some (.slice none 0 0) := by
    rw [hW]
    have := cell?_alloc_new (w.setCell ⟨p, 0, none⟩ (.pointer (some ⟨w.heap.size, 0, none⟩))) #[.slice none 0 0] 257 0 _ rfl
    rwa [World.size_setCell] at this
  have q2 : W.frozen? ⟨w.heap.size, 0, none⟩ = false := by
    rw [hW]
    have := frozen?_alloc_new (w.setCell ⟨p, 0, none⟩ (.pointer (some ⟨w.heap.size, 0, none⟩))) #[.slice none 0 0] 257 0
    rwa [World.size_setCell] at this
  have kW0 : Chg (zRow p 0 1) w (w.setCell ⟨p, 0, none⟩ (.pointer (some ⟨w.heap.size, 0, none⟩))) := chg_cell _ _ _ _
  have kW1 : Chg zNone (w.setCell ⟨p, 0, none⟩ (.pointer (some ⟨w.heap.size, 0, none⟩))) W := by rw [hW]; exact (Chg.refl _ _).alloc _
  have q3 : W.cell? ⟨p, 0, none⟩ = some (.pointer (some ⟨w.heap.size, 0, none⟩)) := kW1.cell (cs_same h1) (fun h => h)
  have q4 : W.frozen? ⟨p, 0, none⟩ = false := (kW1.frozen (cs_same h1) _).trans (by rw [fz_set]; exact h2)
  have hWs : W.heap.size = w.heap.size + 1 := by rw [hW, alloc_size', World.size_setCell]
  have HI := Lib.hid (inner_any w.heap.size none 0 0 n W q1 q2 (Nat.le_refl _) (Or.inl ⟨rfl, rfl⟩) (fun b o e => by cases e) (by omega) hn (by omega))
  have HK := Lib.hid (And.intro (kW0.trans kW1 (fun _ _ _ h => h.elim)) (And.intro q3 (And.intro q4 (And.intro q1 q2))))
  rw [hW] at HI
  have HW := Lib.hid hW
  clear q1 q2 q3 q4 kW0 kW1 hW
  go_enter Tryz.func169, Tryz.ntmps169
  go_wp2_with fail
  refine HI.out.mono ?_
  rw [← HW.out]
  rintro e w1 ⟨b, o, c', rfl, g1, g2, g3, g4, g5⟩
  have HQ := Lib.hid (And.intro g1 (And.intro g2 (And.intro g3 (And.intro g4 g5))))
  clear g1 g2 g3 g4 g5
  go_wp2
  go_ret
  obtain ⟨g1, g2, g3, g4, g5⟩ := HQ.out
  obtain ⟨k0, q3, q4, q1, q2⟩ := HK.out
  have hu := up4_ge n
  have hb : w.heap.size + 1 ≤ b := by
    rcases g4 with ⟨e, _⟩ | ⟨b2, o2, e, hb2⟩
    · cases e
    · injection e with e; injection e with e1 _; omega
  have hpz : ¬ (zRow w.heap.size 0 1 p 0 ∨ ∃ po, (none : Option Addr) = some ⟨p, po, none⟩ ∧ po + 0 ≤ 0 ∧ 0 < po + 0) := by
    rintro (h | ⟨po, e, _⟩)
    · have := h.1; omega
    · cases e
  have hz3 : ZOK w1 (some ⟨b, o + 0, none⟩) n := by
    rcases g3 with ⟨h, _⟩ | ⟨b2, o2, e, hp, hr, hc⟩
    · cases h
    · injection e with e; injection e with e1 e2; subst e1; subst e2
      exact Or.inr ⟨b, o + 0, rfl, hp, hr.drop 0 n (by omega), by omega⟩
  refine ⟨some ⟨w.heap.size, some ⟨b, o, none⟩, 0 + up4 n, c'⟩, b, o + 0, n, rfl, Nat.le_refl _, ⟨⟨g5.cell q3 hpz, (g5.frozen q3 _).trans q4⟩, ⟨g1, (g5.frozen q1 _).trans q2⟩, g2, g3, by simp only; omega, fun b' o' e => ?_⟩, ⟨Nat.le_refl _, Or.inr ⟨b, o, rfl, by omega⟩⟩, ?_, hz3, by omega, ?_, ?_, fun i hi hb' => by omega, k0.trans g5 (fun b' o' hb' hh => ?_)⟩
  · simp only at e ⊢; injection e with e; injection e with e1 _; exact ⟨by omega, by omega⟩
  · simp only [stkL]; omega
  · intro s e; injection e with e; rw [← e]; simp only; omega
  · rintro i hi (hh | hh | ⟨po, e, h9, h10⟩)
    · have := hh.1; omega
    · have := hh.1; simp only at this; omega
    · simp only at e h9; injection e with e; injection e with _ e2; omega
  · rcases hh with hh | ⟨po, e, _⟩
    · have := hh.1; omega
    · cases e
theorem nat_any (p : Nat) (d : Option SD) (n : Nat) (w : World) (h : Stk w p d) (hn0 : 0 < n) (hn : n < 68719476736) (hL : stkL d < 274877906944) :
    Calls Tryz.prog 169 #[.pointer (some ⟨p, 0, none⟩), .int .i64 (n : Int)] w (NatPost w p d n) := by
  cases d with
  | some s => exact nat_inner p s n w h hn0 hn hL
  | none =>
    by_cases h4 : n ≤ 4
    · exact nat_small p n w h hn0 h4
    · exact nat_fresh p n w h (by omega) hn
theorem free_d (p : Nat) (d : Option SD) (u : FrameMode) (w : World) (h : Stk w p d) :
    CallsD Tryz.prog 101 #[.pointer (some ⟨p, 0, none⟩)] u w fun e u' w' => u' = u ∧ (e = .returned (.tuple #[]) ∧ RestPost w p d 0 w') := by
  cases d with
  | none =>
    have H := Lib.hid h
    obtain ⟨h1, h2⟩ := h
    go_enter_d Tryz.func101, Tryz.ntmps101
    go_wp2
    go_end0
    exact ⟨rfl, none, H.out, rfl, Chg.refl _ _⟩
  | some d =>
    obtain ⟨q, a, L, c⟩ := d
    have H := Lib.hid h
    obtain ⟨⟨h1, h2⟩, ⟨h3, h4⟩, h5, h6, h7, h8⟩ := h
    simp only [stkL] at h1 h2 h3 h4 h5
    have hq1 : (0 : Int) ≤ (c : Int) := by omega
    clear h6 h7 h8
    go_enter_d Tryz.func101, Tryz.ntmps101
    go_wp2
    go_end0
    go_wp2
    go_end0
    refine ⟨rfl, some ⟨q, a, 0, c⟩, ?_, rfl, chg_cell _ _ _ _⟩
    obtain ⟨⟨h1, h2⟩, ⟨h3, h4⟩, h5, h6, h7, h8⟩ := H.out
    have kk := chg_cell w q 0 (.slice a 0 c)
    refine ⟨⟨kk.cell h1 (fun h => h7 h.1.symm), by rw [fz_set]; exact h2⟩, ⟨cs_same h3, by rw [fz_set]; exact h4⟩, Nat.zero_le _, h6.chg kk ?_, h7, h8⟩
    rintro b o ⟨po, e, _⟩ hh
    exact (h8 b po e).2 hh.1
theorem top_zero {D : Nat → Int} {n : Nat} (h : WF D (n + 1)) (hlt : val D (n + 1) < BB ^ n) : D n = 0 ∧ val D n = val D (n + 1) := by
  have e2 : val D (n + 1) = val D n + BB ^ n * D n := by rw [val_add, val_one]; rfl
  have a1 := val_nonneg (h.le (show n ≤ n + 1 by omega))
  have a2 := (h n (by omega)).1
  have h0 : D n = 0 := by
    by_cases hz : D n = 0
    · exact hz
    · have := Int.mul_le_mul_of_nonneg_left (show 1 ≤ D n by omega) (Int.le_of_lt (BBn_pos n))
      omega
  rw [h0] at e2
  exact ⟨h0, by omega⟩
def DMid (wr : World) (bq oq bu ou bh oh m n j : Nat) (U' V : Nat → Int) (wc : World) : Prop :=
  ∃ U2 : Nat → Int, (∀ i, i < m + n + 1 → i < j ∨ j + n < i → U2 i = U' i) ∧ WF (fun i => U2 (j + i)) n ∧ U2 (j + n) = 0 ∧ val (fun i => U2 (j + i)) n = val (fun i => U' (j + i)) (n + 1) % val V n ∧ U2 (m + n) = 0 ∧ Words wc bu ou (m + n) U2 ∧ Free wc bu ou (m + n) ∧
    Room wc bh oh (n + 1) ∧ Chg (fun b o => zRow bu ou (m + n) b o ∨ zRow bh oh (n + 1) b o) wr wc
def zWin (bu ou bh oh m n j : Nat) : Zone := fun b o => (b = bu ∧ ou + j ≤ o ∧ o < ou + j + n + 1 ∧ o < ou + (m + n)) ∨ zRow bh oh (n + 1) b o
theorem mid_of {wr wc : World} {bq oq bu ou bh oh m n j : Nat} {U' V E : Nat → Int} (hU : Words wr bu ou (m + n) U') (hUf : Free wr bu ou (m + n)) (hR : Room wc bh oh (n + 1)) (hU0 : U' (m + n) = 0) (hj : j ≤ m)
    (hhu : ∀ i j, i < n + 1 → j < m + n → ¬ (bh = bu ∧ oh + i = ou + j)) (k : Chg (zWin bu ou bh oh m n j) wr wc) (hE : Words wc bu (ou + j) n E) (hEw : WF E n) (hEv : val E n = val (fun i => U' (j + i)) (n + 1) % val V n)
    (ht : j < m → wc.cell? ⟨bu, ou + j + n, none⟩ = some (.int .u64 0)) : DMid wr bq oq bu ou bh oh m n j U' V wc := by
  obtain ⟨U2, hU2⟩ : ∃ f : Nat → Int, f = fun i => if i < j then U' i else if i < j + n then E (i - j) else if i = j + n then 0 else U' i := ⟨_, rfl⟩
  have w1 : ∀ i, i < n → U2 (j + i) = E i := fun i hi => by
    rw [hU2]; simp only
    rw [if_neg (by omega), if_pos (by omega)]; congr 1; omega
  have w2 : U2 (j + n) = 0 := by
    rw [hU2]; simp only
    rw [if_neg (by omega), if_neg (by omega)]; simp
  have w3 : ∀ i, i < j ∨ j + n < i → U2 i = U' i := fun i hi => by
    rw [hU2]; simp only
    rcases hi with h | h
    · rw [if_pos h]
    · rw [if_neg (by omega), if_neg (by omega), if_neg (by omega)]
  refine ⟨U2, fun i _ h => w3 i h, fun i hi => by show U64 (U2 (j + i)); rw [w1 i hi]; exact hEw i hi, w2, ?_, ?_, fun i hi => ?_, fun i hi => by rw [k.frozen (hU i hi)]; exact hUf i hi, hR, k.mono ?_⟩
  · rw [val_congr (fun i hi => w1 i hi)]; exact hEv
  · by_cases e : j = m
    · subst e; exact w2
    · rw [w3 _ (Or.inr (by omega))]; exact hU0
  · by_cases h1 : i < j ∨ j + n < i
    · rw [w3 i h1]
      refine k.cell (hU i hi) ?_
      rintro (⟨_, h2, h3, _⟩ | ⟨h2, h3, h4⟩)
      · omega
      · exact hhu (ou + i - oh) i (by omega) hi ⟨h2.symm, by omega⟩
    · by_cases h2 : i = j + n
      · subst h2
        rw [w2]
        have := ht (by omega)
        rwa [show ou + j + n = ou + (j + n) by omega] at this
      · have := hE (i - j) (by omega)
        rw [show ou + j + (i - j) = ou + i by omega] at this
        rw [show i = j + (i - j) by omega, w1 _ (by omega)]
        rw [show ou + (j + (i - j)) = ou + i by omega]
        exact this
  · rintro b o _ (⟨h1, h2, h3, h4⟩ | h)
    · exact Or.inl ⟨h1, by omega, h4⟩
    · exact Or.inr h
theorem val_upd_top {Z : Nat → Int} {n : Nat} {c : Int} : val (upd Z n c) (n + 1) = val Z n + c * BB ^ n := by
  rw [val_add, val_one, val_congr (X := upd Z n c) (Y := Z) (fun i hi => upd_other Z c (by omega))]
  simp only [Nat.add_zero, upd_same]
  rw [Int.mul_comm]
theorem wf_upd_top {Z : Nat → Int} {n : Nat} {c : Int} (h : WF Z n) (hc : U64 c) : WF (upd Z n c) (n + 1) := fun i hi => by
  by_cases e : i = n
  · subst e; rw [upd_same]; exact hc
  · rw [upd_other Z c e]; exact h i (by omega)
structure SubCtx (wr W : World) (bu ou bh oh n j : Nat) (U' V P : Nat → Int) (q : Int) : Prop where
  k : Chg (zRow bh oh (n + 1)) wr W
  hP : Words W bh oh (n + 1) P
  wP : WF P (n + 1)
  vP : val P (n + 1) = val V n * q
  hY : Words W bu (ou + j) (n + 1) (fun i => U' (j + i))
  wY : WF (fun i => U' (j + i)) (n + 1)
  rY : Room W bu (ou + j) (n + 1)
  rh : Room W bh oh (n + 1)
theorem subctx_of {wr w2 : World} {bu ou bh oh m n j k : Nat} {U' V Z : Nat → Int} {q c : Int} (hU : Words wr bu ou (m + n) U') (hUf : Free wr bu ou (m + n)) (hUw : WF U' (m + n + 1)) (hR : Room wr bh oh (n + 1)) (hj : j < m)
    (hhu : ∀ i j, i < n + 1 → j < m + n → ¬ (bh = bu ∧ oh + i = ou + j)) (h1 : Chg (zRow bh oh n) (wr.drewN k) w2) (h2 : Words w2 bh oh n Z) (h3 : WF Z n) (h4 : U64 c) (h5 : val Z n + c * BB ^ n = val V n * q + 0) (hz : (w2.cell? ⟨bh, oh + n, none⟩).isSome = true) :
    SubCtx wr (w2.setCell ⟨bh, oh + n, none⟩ (.int .u64 c)) bu ou bh oh n j U' V (upd Z n c) q := by
  have hks : Chg (zRow bh oh (n + 1)) wr (w2.setCell ⟨bh, oh + n, none⟩ (.int .u64 c)) := (((Chg.refl _ wr).drewN k).trans h1 (fun b o _ hh => ⟨hh.1, by have := hh.2.1; omega, by have := hh.2.2; omega⟩)).setCell bh (oh + n) _ (fun _ => ⟨rfl, by omega, by omega⟩)
  have hYd := hU.drop j (n + 1) (by omega)
  have hYw := hYd.chg hks (fun i hi hh => by
    obtain ⟨g1, g2, g3⟩ := hh
    exact hhu (ou + j + i - oh) (j + i) (by omega) (by omega) ⟨g1.symm, by omega⟩)
  have hPw : Words (w2.setCell ⟨bh, oh + n, none⟩ (.int .u64 c)) bh oh (n + 1) (upd Z n c) := h2.snoc hz
  refine ⟨hks, hPw, wf_upd_top h3 h4, by rw [val_upd_top]; omega, hYw, fun i hi => hUw _ (by omega), hYw.room (fun i hi => ?_), hPw.room (fun i hi => ?_)⟩
  · rw [hks.frozen (hYd i hi)]
    have := hUf (j + i) (by omega)
    rwa [← Nat.add_assoc] at this
  · obtain ⟨⟨y, hy⟩, hf⟩ := hR i hi
    rw [hks.frozen hy]; exact hf
theorem SubCtx.drew {wr W : World} {bu ou bh oh n j : Nat} {U' V P : Nat → Int} {q : Int} (h : SubCtx wr W bu ou bh oh n j U' V P q) : SubCtx wr W.drew bu ou bh oh n j U' V P q := by
  have kd : Chg zNone W W.drew := (Chg.refl _ _).drew
  exact ⟨h.k.drew, h.hP.chg kd (fun _ _ h => h), h.wP, h.vP, h.hY.chg kd (fun _ _ h => h), h.wY, h.rY.chg kd (fun _ _ h => h), h.rh.chg kd (fun _ _ h => h)⟩
theorem SubCtx.fwd {wr W : World} {bu ou bh oh n j m : Nat} {U' V P : Nat → Int} {q : Int} (_ : SubCtx wr W bu ou bh oh n j U' V P q) (hj : j < m) (hhu : ∀ i j, i < n + 1 → j < m + n → ¬ (bh = bu ∧ oh + i = ou + j)) : bh ≠ bu ∨ ou + j ≤ oh ∨ oh + (n + 1) ≤ ou + j := by
  by_cases e : bh = bu
  · refine Or.inr ?_
    by_cases h1 : ou + j ≤ oh
    · exact Or.inl h1
    · by_cases h2 : oh + (n + 1) ≤ ou + j
      · exact Or.inr h2
      · exact absurd ⟨e, by omega⟩ (hhu (ou + j - oh) j (by omega) (by omega))
  · exact Or.inl e
theorem sub_good {U' V D : Nat → Int} {n j : Nat} {q cb vP : Int} (hV : WF V n) (hVp : 0 < val V n) (hD : WF D (n + 1)) (hcb : 0 ≤ cb ∧ cb ≤ 1) (hvP : vP = val V n * q) (h : val D (n + 1) - cb * BB ^ (n + 1) = val (fun i => U' (j + i)) (n + 1) - vP) (hq : q = val (fun i => U' (j + i)) (n + 1) / val V n) :
    cb = 0 ∧ D n = 0 ∧ val D n = val (fun i => U' (j + i)) (n + 1) % val V n := by
  have hVl := val_lt hV
  have hB : val V n ≤ BB ^ (n + 1) := by
    rw [BB_succ]
    have := Int.mul_le_mul_of_nonneg_left (show (1 : Int) ≤ BB by decide) (Int.le_of_lt (BBn_pos n))
    omega
  obtain ⟨g1, g2⟩ := digit_good (W := val (fun i => U' (j + i)) (n + 1)) (V := val V n) (q := q) (c := cb) (Y := val D (n + 1)) (B1 := BB ^ (n + 1)) hq hVp hB (val_nonneg hD) (val_lt hD) hcb (by rw [h, hvP, Int.mul_comm (val V n) q])
  have g3 := Int.emod_lt_of_pos (val (fun i => U' (j + i)) (n + 1)) hVp
  obtain ⟨g4, g5⟩ := top_zero hD (by omega)
  exact ⟨g1, g4, by omega⟩
theorem sub_over {U' V D E : Nat → Int} {n j : Nat} {q cb vP c2 : Int} (hV : WF V n) (hVp : 0 < val V n) (hD : WF D (n + 1)) (hcb : 0 ≤ cb ∧ cb ≤ 1) (hvP : vP = val V n * q) (h : val D (n + 1) - cb * BB ^ (n + 1) = val (fun i => U' (j + i)) (n + 1) - vP) (hq : q = val (fun i => U' (j + i)) (n + 1) / val V n + 1) :
    cb = 1 ∧ (WF E n → 0 ≤ c2 ∧ c2 ≤ 1 → val E n + c2 * BB ^ n = val D n + val V n → val E n = val (fun i => U' (j + i)) (n + 1) % val V n ∧ (D n + c2) % BB = 0) := by
  have hVl := val_lt hV
  have hB : val V n ≤ BB ^ (n + 1) := by
    rw [BB_succ]
    have := Int.mul_le_mul_of_nonneg_left (show (1 : Int) ≤ BB by decide) (Int.le_of_lt (BBn_pos n))
    omega
  obtain ⟨g1, g2⟩ := digit_over (W := val (fun i => U' (j + i)) (n + 1)) (V := val V n) (q := q) (c := cb) (Y := val D (n + 1)) (B1 := BB ^ (n + 1)) hq hVp hB (val_nonneg hD) (val_lt hD) hcb (by rw [h, hvP, Int.mul_comm (val V n) q])
  refine ⟨g1, fun hE hc hs => ?_⟩
  have g3 := Int.emod_lt_of_pos (val (fun i => U' (j + i)) (n + 1)) hVp
  have g4 := Int.emod_nonneg (val (fun i => U' (j + i)) (n + 1)) (show val V n ≠ 0 by omega)
  have e2 : val D (n + 1) = val D n + BB ^ n * D n := by rw [val_add, val_one]; rfl
  have key := digit_back (Yl := val D n) (Yt := D n) (V := val V n) (Zl := val E n) (c2 := c2) (Zt := (D n + c2) % BB) (Bn := BB ^ n) (R := val (fun i => U' (j + i)) (n + 1) % val V n) (BBn_pos n) hs (val_nonneg hE) (val_lt hE) hc (hD n (by omega)) rfl g4 (by omega)
    (by rw [← g2, e2, BB_succ, Int.mul_comm (D n), Int.mul_comm BB])
  exact key
end Go.Proofs.YtmgfajamanakcaaGreatDoor
