/- Part of the proof of FnParse: what the functions that it reaches do, as contracts. Conditions: those that each theorem names. -/
import Derived.Test.YtmgfajamanakcaaGreatDoorR43
import Derived.Deep.DeepCutAuto
import Derived.Test.YtmgfajamanakcaaGreatDoorR06
import Derived.Test.YtmgfajamanakcaaGreatDoorR03
namespace Go.Proofs.YtmgfajamanakcaaGreatDoor
set_option linter.unusedVariables false
set_option linter.unusedSimpArgs false
open Go.RowKit
set_option maxRecDepth 100000
def IntMid (WD : World) (ib : Nat) (V : Int) (wc : World) : Prop :=
  ∃ a n c Y wf, wc = wf.setCell ⟨ib, 1, none⟩ (.slice a n c) ∧ (n ≤ c ∧ ZOK wf a c ∧ Rd wf a n Y ∧ WF Y n ∧ Norm Y n ∧ val Y n = V ∧ Home WD.drew none 0 a c ∧ Chg (zAddr none 0) WD.drew wf)
def IntIs (w : World) (ib : Nat) (neg : Bool) (V : Int) : Prop :=
  ∃ a n c Y, IntC w ib 0 neg a n c ∧ n ≤ c ∧ ZOK w a c ∧ Rd w a n Y ∧ WF Y n ∧ Norm Y n ∧ val Y n = V
set_option maxHeartbeats 8000000 in
theorem FInt_any (xb t E : Nat) (v : FV) (X : Nat → Int) (w : World) (h : FNum w xb v X) (hf : v.fm = 1) (he : v.e = (E : Int)) (hE1 : 1 ≤ E) (hE2 : E ≤ 64 * v.n) (ht : LowZ (val X v.n) t) (hT : DeB w) :
    Calls Tryz.prog 122 #[.pointer (some ⟨xb, 0, none⟩), .pointer none] w fun e w' => ∃ ac, e = .returned (.tuple #[.pointer (some ⟨w.heap.size, 0, none⟩), .int .i8 ac]) ∧ IntIs w' w.heap.size v.ng (val X v.n / 2 ^ (64 * v.n - E)) ∧ Chg zNone w w' := by
  have hlx := h.c.lt; have kal : Chg zNone w (w.alloc (.cells #[.bool false, .slice none 0 0] 122)) := (Chg.refl _ _).alloc _; have hA0 := h.chg kal (fun _ _ _ h => h); have HMP := Lib.hid (MinPrec_any xb t v X _ hA0 hf ht (fun j hj => kal.cell (hT j hj) (fun h => h))); have HI : Hid (IntC (w.alloc (.cells #[.bool false, .slice none 0 0] 122)) w.heap.size 0 false none 0 0) := ⟨cell?_alloc_new w #[.bool false, .slice none 0 0] 122 0 (.bool false) rfl, cell?_alloc_new w #[.bool false, .slice none 0 0] 122 1 (.slice none 0 0) rfl, frozen?_alloc_new w #[.bool false, .slice none 0 0] 122 0, frozen?_alloc_new w #[.bool false, .slice none 0 0] 122 1⟩; have HA := Lib.hid (And.intro hA0 kal)
  have hsz : w.heap.size < (w.alloc (.cells #[.bool false, .slice none 0 0] 122)).heap.size := by
    show _ < (w.heap.push _).size
    simp
  have HS := Lib.hid hsz; obtain ⟨f1, f2, f3, f4, f5, f6⟩ := h.fin hf; have HWF : Hid (WF X v.n ∧ Norm X v.n ∧ val X v.n = val X v.n) := ⟨f5, Or.inr (by omega), rfl⟩; have HRd := Lib.hid f4; obtain ⟨P, md, ac, fm, ng, a, n, c, e0⟩ := v; obtain ⟨c0, c1, c2, c3, c4, c5, c6, cb⟩ := h.c; simp only at hf he f1 f2 f3 c0 c1 c2 c3 c4 c5 c6 hE2 HMP HWF HRd; subst hf; subst he; obtain ⟨A, hA⟩ : ∃ A : Int, (if ng = true then 1 else -1) = A := ⟨_, rfl⟩
  have HAC : Hid (∀ W, Calls Tryz.prog 81 #[.bool ng] W fun e w' => e = .returned (.int .i8 A) ∧ W = w') := fun W => by
    have := makeAcc_any ng W
    rwa [hA] at this
  clear hA; have w1 : IntKind.u64.wrap (n : Int) = (n : Int) := IntWalk.u64_in _ (by omega); have w2 : IntKind.u64.wrap ((n : Int) * 64) = (n : Int) * 64 := IntWalk.u64_in _ (by omega); have w3 : IntKind.u64.wrap (E : Int) = (E : Int) := IntWalk.u64_in _ (by omega); have d1 : decide ((E : Int) ≤ 0) = false := decide_eq_false (by omega); have d1' : decide (E ≤ 0) = false := decide_eq_false (by omega); have d2 : decide ((n : Int) * 64 < (E : Int)) = false := decide_eq_false (by omega); clear h kal hA0 hsz f4 f5 f6 ht hT cb
  go_enter Tryz.func122, Tryz.ntmps122
  go_wp2_with fail; refine (HAC.out _).mono ?_; rintro e wz ⟨rfl, rfl⟩; go_wp2_with fail; refine HMP.out.mono ?_; rintro e w1' ⟨rfl, htl, km⟩; have c4' : w1'.cell? ⟨xb, 4, none⟩ = some (.bool ng) := km.cell HA.out.1.c.ng (fun h => h); have c5' : w1'.cell? ⟨xb, 5, none⟩ = some (.slice a n c) := km.cell HA.out.1.c.mt (fun h => h); obtain ⟨i0, i1, i2, i3⟩ := HI.out.chg km (fun _ _ h => h); have HKM := Lib.hid (And.intro km htl); have hx : xb ≠ w.heap.size := by omega
  clear km htl c0 c1 c2 c3 c4 c5 c6 d1 d1'; go_upto_if 53 with fail; go_cut [6] (fun s6 wd => (∃ ac', s6 = .int .i8 ac') ∧ w1' = wd)
  case first => as_aux_lemma =>
    by_cases hc : ((64 * n - t : Nat) : Int) ≤ (E : Int)
    · have dc : decide (((64 * n - t : Nat) : Int) ≤ (E : Int)) = true := decide_eq_true hc
      have dc' : decide ((64 * n - t : Nat) ≤ E) = true := decide_eq_true (by omega); go_wp2; go_meet; exact ⟨⟨_, rfl⟩, rfl⟩
    · have dc : decide (((64 * n - t : Nat) : Int) ≤ (E : Int)) = false := decide_eq_false hc
      have dc' : decide ((64 * n - t : Nat) ≤ E) = false := decide_eq_false (by omega); go_wp2; go_meet; exact ⟨⟨_, rfl⟩, rfl⟩
  case rest => as_aux_lemma =>
    obtain ⟨⟨ac', rfl⟩, rfl⟩ := hcut
    go_upto_block 1 with fail
    obtain ⟨WD, hWD⟩ : ∃ W, W = w1'.setCell ⟨w.heap.size, 0, none⟩ (.bool ng) := ⟨_, rfl⟩; have kWD : Chg (zRow w.heap.size 0 2) w1' WD := by rw [hWD]; exact (Chg.refl _ _).setCell _ 0 _ (fun _ => ⟨rfl, by omega, by omega⟩)
    have HIW : Hid (IntC WD w.heap.size 0 ng none 0 0) := by
      rw [hWD]; exact IntC.sign (neg := false) ⟨i0, i1, i2, i3⟩
    have q5 : WD.cell? ⟨xb, 5, none⟩ = some (.slice a n c) := kWD.cell c5' (fun hh => hx hh.1); rw [← hWD]; obtain ⟨j0, j1', j2, j3⟩ := HIW.out; have HWD := Lib.hid (And.intro kWD (And.intro j1' j3)); have HK : Hid (Chg zNone w WD) := (HA.out.2.trans HKM.out.1 (fun _ _ _ h => h)).trans kWD (fun b o hb hh => by have := hh.1; omega); clear i0 i1 i2 i3 c4' c5' hWD kWD
    have HXR : Hid (Rd WD.drew a n X) := by
      rcases HRd.out with h4 | ⟨b, o, e, hw⟩
      · exact Or.inl h4
      · exact Or.inr ⟨b, o, e, hw.chg HK.out.drew (fun _ _ h => h)⟩
    go_cut [5] (fun _ wc => IntMid WD w.heap.size (val X n / 2 ^ (64 * n - E)) wc)
    case first => as_aux_lemma =>
      by_cases hlt : E < 64 * n
      · have d3 : decide ((E : Int) < (n : Int) * 64) = true := decide_eq_true (by omega)
        have w4 : IntKind.u64.wrap ((n : Int) * 64 - (E : Int)) = (n : Int) * 64 - (E : Int) := IntWalk.u64_in _ (by omega); have w5 : ((64 * n - E : Nat) : Int) = (n : Int) * 64 - (E : Int) := by omega
        have HRS := Lib.hid (rsh_any none a 0 0 n c X (64 * n - E) WD.drew (Or.inl ⟨rfl, rfl⟩) HXR.out HWF.out.1 f2 (by omega) (Or.inr (fun b o i e hi hh => by obtain ⟨_, e2, _⟩ := hh; cases e2)) (by omega) (by omega)); rw [w5] at HRS; clear w5 hlt; go_upto_region 19 with fail; refine wp_region_noPanic ?_; refine wp_region_any (by kernel_rfl) ?_; change wpAny _ _ _ _ _ _ _ (World.drew _); refine wpAny_take (i := 0) (v := ?_) rfl (by kernel_rfl) (by kernel_rfl) (by kernel_rfl) (fun _ _ _ h => False.elim h) (Or.inl ⟨by rfl, ?_⟩) ?_; rotate_left 1
        · intro w9
          go_simp; (try with_reducible rfl)
        (try simp only [Act.put, List.getElem_toArray, List.getElem_cons_zero, List.getElem_cons_succ, List.setIfInBounds_toArray, List.set_cons_zero, List.set_cons_succ]); refine wpAny_take (i := 1) (v := ?_) rfl (by kernel_rfl) (by kernel_rfl) (by kernel_rfl) (fun _ _ _ h => False.elim h) (Or.inl ⟨by rfl, ?_⟩) ?_; rotate_left 1
        · intro w9
          go_simp; (try with_reducible rfl)
        (try simp only [Act.put, List.getElem_toArray, List.getElem_cons_zero, List.getElem_cons_succ, List.setIfInBounds_toArray, List.set_cons_zero, List.set_cons_succ]); refine wpAny_take (i := 2) (v := ?_) rfl (by kernel_rfl) (by kernel_rfl) (by kernel_rfl) (fun _ _ _ h => False.elim h) (Or.inl ⟨by rfl, ?_⟩) ?_; rotate_left 1
        · intro w9
          go_simp; (try with_reducible rfl)
        (try simp only [Act.put, List.getElem_toArray, List.getElem_cons_zero, List.getElem_cons_succ, List.setIfInBounds_toArray, List.set_cons_zero, List.set_cons_succ]); refine wpAny_take (i := 3) (v := ?_) rfl (by kernel_rfl) (by kernel_rfl) (by kernel_rfl) (fun _ _ _ h => False.elim h) (Or.inl ⟨by rfl, ?_⟩) ?_; rotate_left 1
        · intro w9
          go_simp; (try with_reducible rfl)
        (try simp only [Act.put, List.getElem_toArray, List.getElem_cons_zero, List.getElem_cons_succ, List.setIfInBounds_toArray, List.set_cons_zero, List.set_cons_succ]); refine wpAny_take (i := 5) (v := ?_) rfl (by kernel_rfl) (by kernel_rfl) (by kernel_rfl) (fun _ _ _ h => False.elim h) (Or.inl ⟨by rfl, ?_⟩) ?_; rotate_left 1
        · intro w9
          go_simp; (try with_reducible rfl)
        (try simp only [Act.put, List.getElem_toArray, List.getElem_cons_zero, List.getElem_cons_succ, List.setIfInBounds_toArray, List.set_cons_zero, List.set_cons_succ]); refine wpAny_take (i := 6) (v := ?_) rfl (by kernel_rfl) (by kernel_rfl) (by kernel_rfl) (fun _ _ _ h => False.elim h) (Or.inl ⟨by rfl, ?_⟩) ?_; rotate_left 1
        · intro w9
          go_simp; (try with_reducible rfl)
        (try simp only [Act.put, List.getElem_toArray, List.getElem_cons_zero, List.getElem_cons_succ, List.setIfInBounds_toArray, List.set_cons_zero, List.set_cons_succ]); refine wpAny_take (i := 7) (v := ?_) rfl (by kernel_rfl) (by kernel_rfl) (by kernel_rfl) (fun _ _ _ h => False.elim h) (Or.inl ⟨by rfl, ?_⟩) ?_; rotate_left 1
        · intro w9
          go_simp; (try with_reducible rfl)
        (try simp only [Act.put, List.getElem_toArray, List.getElem_cons_zero, List.getElem_cons_succ, List.setIfInBounds_toArray, List.set_cons_zero, List.set_cons_succ]); refine wpAny_take (i := 9) (v := ?_) rfl (by kernel_rfl) (by kernel_rfl) (by kernel_rfl) (fun _ _ _ h => False.elim h) (Or.inl ⟨by rfl, ?_⟩) ?_; rotate_left 1
        · intro w9
          go_simp; (try with_reducible rfl)
        (try simp only [Act.put, List.getElem_toArray, List.getElem_cons_zero, List.getElem_cons_succ, List.setIfInBounds_toArray, List.set_cons_zero, List.set_cons_succ]); refine wpAny_take (i := 10) (v := ?_) rfl (by kernel_rfl) (by kernel_rfl) (by kernel_rfl) (fun _ _ _ h => False.elim h) (Or.inl ⟨by rfl, ?_⟩) ?_; rotate_left 1
        · intro w9
          go_simp; (try with_reducible rfl)
        (try simp only [Act.put, List.getElem_toArray, List.getElem_cons_zero, List.getElem_cons_succ, List.setIfInBounds_toArray, List.set_cons_zero, List.set_cons_succ]); refine wpAny_take (i := 11) (v := ?_) rfl (by kernel_rfl) (by kernel_rfl) (by kernel_rfl) (fun _ _ _ h => False.elim h) (Or.inl ⟨by rfl, ?_⟩) ?_; rotate_left 1
        · intro w9
          go_simp; (try with_reducible rfl)
        (try simp only [Act.put, List.getElem_toArray, List.getElem_cons_zero, List.getElem_cons_succ, List.setIfInBounds_toArray, List.set_cons_zero, List.set_cons_succ]); refine wpAny_ready (rs := [4, 8]) (by kernel_rfl) (by simp) ?_; refine AllReady.cons rfl (fun K hK => ?_) (AllReady.cons rfl (fun K hK => ?_) AllReady.nil)
        · skip
          go_simp; refine hK _ _ ?_; clear hK K; (try simp only [Act.put, List.getElem_toArray, List.getElem_cons_zero, List.getElem_cons_succ, List.setIfInBounds_toArray, List.set_cons_zero, List.set_cons_succ]); refine wpAny_ready (rs := [8]) (by kernel_rfl) (by simp) ?_; refine AllReady.cons rfl (fun K hK => ?_) AllReady.nil; go_simp; refine hK _ _ ?_; clear hK K; (try simp only [Act.put, List.getElem_toArray, List.getElem_cons_zero, List.getElem_cons_succ, List.setIfInBounds_toArray, List.set_cons_zero, List.set_cons_succ]); refine wpAny_ready (rs := [12]) (by kernel_rfl) (by simp) ?_; refine AllReady.cons rfl (fun K hK => ?_) AllReady.nil; go_simp; go_wp2_with (go_at_call 178; go_loud (refine HRS.out.mono ?_; rintro e wf ⟨aa, nn, cc, YY, rfl, f1, f2, f3, f4, f5, f6, f7, f8⟩; have j1 : wf.cell? ⟨w.heap.size, 1, none⟩ = some (.slice none 0 0) := f8.cell (w := WD.drew) HWD.out.2.1 (fun hh => by obtain ⟨_, e, _⟩ := hh; cases e); have jf : wf.frozen? ⟨w.heap.size, 1, none⟩ = false := (f8.frozen (w := WD.drew) HWD.out.2.1 _).trans HWD.out.2.2; have HFF := Lib.hid (And.intro f1 (And.intro f2 (And.intro f3 (And.intro f4 (And.intro f5 (And.intro f6 (And.intro f7 f8))))))); clear f1 f2 f3 f4 f5 f6 f7 f8)); (try simp only [Act.put, List.getElem_toArray, List.getElem_cons_zero, List.getElem_cons_succ, List.setIfInBounds_toArray, List.set_cons_zero, List.set_cons_succ]); refine wpAny_take (i := 13) (v := ?_) rfl (by kernel_rfl) (by kernel_rfl) (by kernel_rfl) (fun _ _ _ h => False.elim h) (Or.inl ⟨by rfl, ?_⟩) ?_; rotate_left 1
          · intro w9
            go_simp; (try with_reducible rfl)
          (try simp only [Act.put, List.getElem_toArray, List.getElem_cons_zero, List.getElem_cons_succ, List.setIfInBounds_toArray, List.set_cons_zero, List.set_cons_succ]); refine wpAny_take (i := 14) (v := ?_) rfl (by kernel_rfl) (by kernel_rfl) (by kernel_rfl) (fun _ _ _ h => False.elim h) (Or.inl ⟨by rfl, ?_⟩) ?_; rotate_left 1
          · intro w9
            go_simp; (try with_reducible rfl)
          (try simp only [Act.put, List.getElem_toArray, List.getElem_cons_zero, List.getElem_cons_succ, List.setIfInBounds_toArray, List.set_cons_zero, List.set_cons_succ]); refine wpAny_ready (rs := [15]) (by kernel_rfl) (by simp) ?_; refine AllReady.cons rfl (fun K hK => ?_) AllReady.nil; go_simp; refine hK _ _ ?_; clear hK K; (try simp only [Act.put, List.getElem_toArray, List.getElem_cons_zero, List.getElem_cons_succ, List.setIfInBounds_toArray, List.set_cons_zero, List.set_cons_succ]); refine wpAny_done (by kernel_rfl) ?_ _; refine NoPanic.normal ?_; go_wp2; go_meet; exact ⟨aa, nn, cc, YY, wf, rfl, HFF.out⟩
        · skip
          go_simp; refine hK _ _ ?_; clear hK K; (try simp only [Act.put, List.getElem_toArray, List.getElem_cons_zero, List.getElem_cons_succ, List.setIfInBounds_toArray, List.set_cons_zero, List.set_cons_succ]); refine wpAny_ready (rs := [4]) (by kernel_rfl) (by simp) ?_; refine AllReady.cons rfl (fun K hK => ?_) AllReady.nil; go_simp; refine hK _ _ ?_; clear hK K; (try simp only [Act.put, List.getElem_toArray, List.getElem_cons_zero, List.getElem_cons_succ, List.setIfInBounds_toArray, List.set_cons_zero, List.set_cons_succ]); refine wpAny_ready (rs := [12]) (by kernel_rfl) (by simp) ?_; refine AllReady.cons rfl (fun K hK => ?_) AllReady.nil; go_simp; go_wp2_with (go_at_call 178; go_loud (refine HRS.out.mono ?_; rintro e wf ⟨aa, nn, cc, YY, rfl, f1, f2, f3, f4, f5, f6, f7, f8⟩; have j1 : wf.cell? ⟨w.heap.size, 1, none⟩ = some (.slice none 0 0) := f8.cell (w := WD.drew) HWD.out.2.1 (fun hh => by obtain ⟨_, e, _⟩ := hh; cases e); have jf : wf.frozen? ⟨w.heap.size, 1, none⟩ = false := (f8.frozen (w := WD.drew) HWD.out.2.1 _).trans HWD.out.2.2; have HFF := Lib.hid (And.intro f1 (And.intro f2 (And.intro f3 (And.intro f4 (And.intro f5 (And.intro f6 (And.intro f7 f8))))))); clear f1 f2 f3 f4 f5 f6 f7 f8)); (try simp only [Act.put, List.getElem_toArray, List.getElem_cons_zero, List.getElem_cons_succ, List.setIfInBounds_toArray, List.set_cons_zero, List.set_cons_succ]); refine wpAny_take (i := 13) (v := ?_) rfl (by kernel_rfl) (by kernel_rfl) (by kernel_rfl) (fun _ _ _ h => False.elim h) (Or.inl ⟨by rfl, ?_⟩) ?_; rotate_left 1
          · intro w9
            go_simp; (try with_reducible rfl)
          (try simp only [Act.put, List.getElem_toArray, List.getElem_cons_zero, List.getElem_cons_succ, List.setIfInBounds_toArray, List.set_cons_zero, List.set_cons_succ]); refine wpAny_take (i := 14) (v := ?_) rfl (by kernel_rfl) (by kernel_rfl) (by kernel_rfl) (fun _ _ _ h => False.elim h) (Or.inl ⟨by rfl, ?_⟩) ?_; rotate_left 1
          · intro w9
            go_simp; (try with_reducible rfl)
          (try simp only [Act.put, List.getElem_toArray, List.getElem_cons_zero, List.getElem_cons_succ, List.setIfInBounds_toArray, List.set_cons_zero, List.set_cons_succ]); refine wpAny_ready (rs := [15]) (by kernel_rfl) (by simp) ?_; refine AllReady.cons rfl (fun K hK => ?_) AllReady.nil; go_simp; refine hK _ _ ?_; clear hK K; (try simp only [Act.put, List.getElem_toArray, List.getElem_cons_zero, List.getElem_cons_succ, List.setIfInBounds_toArray, List.set_cons_zero, List.set_cons_succ]); refine wpAny_done (by kernel_rfl) ?_ _; refine NoPanic.normal ?_; go_wp2; go_meet; exact ⟨aa, nn, cc, YY, wf, rfl, HFF.out⟩
      · have hEE : E = 64 * n := by omega
        have d3 : decide ((E : Int) < (n : Int) * 64) = false := decide_eq_false (by omega); have hV : val X n / 2 ^ (64 * n - E) = val X n := by rw [hEE, Nat.sub_self, Int.pow_zero, Int.ediv_one]
        have HV := Lib.hid hV; have HRS := Lib.hid (set_any none a 0 0 n c X WD.drew (Or.inl ⟨rfl, rfl⟩) HXR.out f2 (by omega)); clear hlt hEE hV; go_upto_region 15 with fail; refine wp_region_noPanic ?_; refine wp_region_any (by kernel_rfl) ?_; change wpAny _ _ _ _ _ _ _ (World.drew _); refine wpAny_take (i := 0) (v := ?_) rfl (by kernel_rfl) (by kernel_rfl) (by kernel_rfl) (fun _ _ _ h => False.elim h) (Or.inl ⟨by rfl, ?_⟩) ?_; rotate_left 1
        · intro w9
          go_simp; (try with_reducible rfl)
        (try simp only [Act.put, List.getElem_toArray, List.getElem_cons_zero, List.getElem_cons_succ, List.setIfInBounds_toArray, List.set_cons_zero, List.set_cons_succ]); refine wpAny_take (i := 1) (v := ?_) rfl (by kernel_rfl) (by kernel_rfl) (by kernel_rfl) (fun _ _ _ h => False.elim h) (Or.inl ⟨by rfl, ?_⟩) ?_; rotate_left 1
        · intro w9
          go_simp; (try with_reducible rfl)
        (try simp only [Act.put, List.getElem_toArray, List.getElem_cons_zero, List.getElem_cons_succ, List.setIfInBounds_toArray, List.set_cons_zero, List.set_cons_succ]); refine wpAny_take (i := 2) (v := ?_) rfl (by kernel_rfl) (by kernel_rfl) (by kernel_rfl) (fun _ _ _ h => False.elim h) (Or.inl ⟨by rfl, ?_⟩) ?_; rotate_left 1
        · intro w9
          go_simp; (try with_reducible rfl)
        (try simp only [Act.put, List.getElem_toArray, List.getElem_cons_zero, List.getElem_cons_succ, List.setIfInBounds_toArray, List.set_cons_zero, List.set_cons_succ]); refine wpAny_take (i := 3) (v := ?_) rfl (by kernel_rfl) (by kernel_rfl) (by kernel_rfl) (fun _ _ _ h => False.elim h) (Or.inl ⟨by rfl, ?_⟩) ?_; rotate_left 1
        · intro w9
          go_simp; (try with_reducible rfl)
        (try simp only [Act.put, List.getElem_toArray, List.getElem_cons_zero, List.getElem_cons_succ, List.setIfInBounds_toArray, List.set_cons_zero, List.set_cons_succ]); refine wpAny_take (i := 5) (v := ?_) rfl (by kernel_rfl) (by kernel_rfl) (by kernel_rfl) (fun _ _ _ h => False.elim h) (Or.inl ⟨by rfl, ?_⟩) ?_; rotate_left 1
        · intro w9
          go_simp; (try with_reducible rfl)
        (try simp only [Act.put, List.getElem_toArray, List.getElem_cons_zero, List.getElem_cons_succ, List.setIfInBounds_toArray, List.set_cons_zero, List.set_cons_succ]); refine wpAny_take (i := 6) (v := ?_) rfl (by kernel_rfl) (by kernel_rfl) (by kernel_rfl) (fun _ _ _ h => False.elim h) (Or.inl ⟨by rfl, ?_⟩) ?_; rotate_left 1
        · intro w9
          go_simp; (try with_reducible rfl)
        (try simp only [Act.put, List.getElem_toArray, List.getElem_cons_zero, List.getElem_cons_succ, List.setIfInBounds_toArray, List.set_cons_zero, List.set_cons_succ]); refine wpAny_take (i := 7) (v := ?_) rfl (by kernel_rfl) (by kernel_rfl) (by kernel_rfl) (fun _ _ _ h => False.elim h) (Or.inl ⟨by rfl, ?_⟩) ?_; rotate_left 1
        · intro w9
          go_simp; (try with_reducible rfl)
        (try simp only [Act.put, List.getElem_toArray, List.getElem_cons_zero, List.getElem_cons_succ, List.setIfInBounds_toArray, List.set_cons_zero, List.set_cons_succ]); refine wpAny_ready (rs := [4, 8]) (by kernel_rfl) (by simp) ?_; refine AllReady.cons rfl (fun K hK => ?_) (AllReady.cons rfl (fun K hK => ?_) AllReady.nil)
        · skip
          go_simp; refine hK _ _ ?_; clear hK K; (try simp only [Act.put, List.getElem_toArray, List.getElem_cons_zero, List.getElem_cons_succ, List.setIfInBounds_toArray, List.set_cons_zero, List.set_cons_succ]); refine wpAny_ready (rs := [8]) (by kernel_rfl) (by simp) ?_; refine AllReady.cons rfl (fun K hK => ?_) AllReady.nil; go_simp; refine hK _ _ ?_; clear hK K; (try simp only [Act.put, List.getElem_toArray, List.getElem_cons_zero, List.getElem_cons_succ, List.setIfInBounds_toArray, List.set_cons_zero, List.set_cons_succ]); refine wpAny_ready (rs := [9]) (by kernel_rfl) (by simp) ?_; refine AllReady.cons rfl (fun K hK => ?_) AllReady.nil; go_simp; go_wp2_with (go_at_call 77; go_loud (refine HRS.out.mono ?_; rintro e wf ⟨aa, cc, rfl, f1, f2, f3, f4, f5⟩; have j1 : wf.cell? ⟨w.heap.size, 1, none⟩ = some (.slice none 0 0) := f5.cell (w := WD.drew) HWD.out.2.1 (fun hh => by obtain ⟨_, e, _⟩ := hh; cases e); have jf : wf.frozen? ⟨w.heap.size, 1, none⟩ = false := (f5.frozen (w := WD.drew) HWD.out.2.1 _).trans HWD.out.2.2; have HFF := Lib.hid (And.intro f1 (And.intro f2 (And.intro f3 (And.intro f4 f5)))); clear f1 f2 f3 f4 f5)); (try simp only [Act.put, List.getElem_toArray, List.getElem_cons_zero, List.getElem_cons_succ, List.setIfInBounds_toArray, List.set_cons_zero, List.set_cons_succ]); refine wpAny_take (i := 10) (v := ?_) rfl (by kernel_rfl) (by kernel_rfl) (by kernel_rfl) (fun _ _ _ h => False.elim h) (Or.inl ⟨by rfl, ?_⟩) ?_; rotate_left 1
          · intro w9
            go_simp; (try with_reducible rfl)
          (try simp only [Act.put, List.getElem_toArray, List.getElem_cons_zero, List.getElem_cons_succ, List.setIfInBounds_toArray, List.set_cons_zero, List.set_cons_succ]); refine wpAny_take (i := 11) (v := ?_) rfl (by kernel_rfl) (by kernel_rfl) (by kernel_rfl) (fun _ _ _ h => False.elim h) (Or.inl ⟨by rfl, ?_⟩) ?_; rotate_left 1
          · intro w9
            go_simp; (try with_reducible rfl)
          (try simp only [Act.put, List.getElem_toArray, List.getElem_cons_zero, List.getElem_cons_succ, List.setIfInBounds_toArray, List.set_cons_zero, List.set_cons_succ]); refine wpAny_ready (rs := [12]) (by kernel_rfl) (by simp) ?_; refine AllReady.cons rfl (fun K hK => ?_) AllReady.nil; go_simp; refine hK _ _ ?_; clear hK K; (try simp only [Act.put, List.getElem_toArray, List.getElem_cons_zero, List.getElem_cons_succ, List.setIfInBounds_toArray, List.set_cons_zero, List.set_cons_succ]); refine wpAny_done (by kernel_rfl) ?_ _; refine NoPanic.normal ?_; go_wp2; go_meet; exact ⟨aa, n, cc, X, wf, rfl, HFF.out.1, HFF.out.2.1, HFF.out.2.2.1, HWF.out.1, HWF.out.2.1, HV.out.symm, HFF.out.2.2.2⟩
        · skip
          go_simp; refine hK _ _ ?_; clear hK K; (try simp only [Act.put, List.getElem_toArray, List.getElem_cons_zero, List.getElem_cons_succ, List.setIfInBounds_toArray, List.set_cons_zero, List.set_cons_succ]); refine wpAny_ready (rs := [4]) (by kernel_rfl) (by simp) ?_; refine AllReady.cons rfl (fun K hK => ?_) AllReady.nil; go_simp; refine hK _ _ ?_; clear hK K; (try simp only [Act.put, List.getElem_toArray, List.getElem_cons_zero, List.getElem_cons_succ, List.setIfInBounds_toArray, List.set_cons_zero, List.set_cons_succ]); refine wpAny_ready (rs := [9]) (by kernel_rfl) (by simp) ?_; refine AllReady.cons rfl (fun K hK => ?_) AllReady.nil; go_simp; go_wp2_with (go_at_call 77; go_loud (refine HRS.out.mono ?_; rintro e wf ⟨aa, cc, rfl, f1, f2, f3, f4, f5⟩; have j1 : wf.cell? ⟨w.heap.size, 1, none⟩ = some (.slice none 0 0) := f5.cell (w := WD.drew) HWD.out.2.1 (fun hh => by obtain ⟨_, e, _⟩ := hh; cases e); have jf : wf.frozen? ⟨w.heap.size, 1, none⟩ = false := (f5.frozen (w := WD.drew) HWD.out.2.1 _).trans HWD.out.2.2; have HFF := Lib.hid (And.intro f1 (And.intro f2 (And.intro f3 (And.intro f4 f5)))); clear f1 f2 f3 f4 f5)); (try simp only [Act.put, List.getElem_toArray, List.getElem_cons_zero, List.getElem_cons_succ, List.setIfInBounds_toArray, List.set_cons_zero, List.set_cons_succ]); refine wpAny_take (i := 10) (v := ?_) rfl (by kernel_rfl) (by kernel_rfl) (by kernel_rfl) (fun _ _ _ h => False.elim h) (Or.inl ⟨by rfl, ?_⟩) ?_; rotate_left 1
          · intro w9
            go_simp; (try with_reducible rfl)
          (try simp only [Act.put, List.getElem_toArray, List.getElem_cons_zero, List.getElem_cons_succ, List.setIfInBounds_toArray, List.set_cons_zero, List.set_cons_succ]); refine wpAny_take (i := 11) (v := ?_) rfl (by kernel_rfl) (by kernel_rfl) (by kernel_rfl) (fun _ _ _ h => False.elim h) (Or.inl ⟨by rfl, ?_⟩) ?_; rotate_left 1
          · intro w9
            go_simp; (try with_reducible rfl)
          (try simp only [Act.put, List.getElem_toArray, List.getElem_cons_zero, List.getElem_cons_succ, List.setIfInBounds_toArray, List.set_cons_zero, List.set_cons_succ]); refine wpAny_ready (rs := [12]) (by kernel_rfl) (by simp) ?_; refine AllReady.cons rfl (fun K hK => ?_) AllReady.nil; go_simp; refine hK _ _ ?_; clear hK K; (try simp only [Act.put, List.getElem_toArray, List.getElem_cons_zero, List.getElem_cons_succ, List.setIfInBounds_toArray, List.set_cons_zero, List.set_cons_succ]); refine wpAny_done (by kernel_rfl) ?_ _; refine NoPanic.normal ?_; go_wp2; go_meet; exact ⟨aa, n, cc, X, wf, rfl, HFF.out.1, HFF.out.2.1, HFF.out.2.2.1, HWF.out.1, HWF.out.2.1, HV.out.symm, HFF.out.2.2.2⟩
    case rest => as_aux_lemma =>
      obtain ⟨a', n', c', Y, wf, rfl, HM⟩ := hcut; have HM := Lib.hid HM; go_wp2; go_ret2; obtain ⟨m1, m2, m3, m4, m5, m6, m8, m7⟩ := HM.out; have kd : Chg zNone WD wf := ((Chg.refl zNone WD).drew).trans m7 (fun b o _ hh => by obtain ⟨_, e, _⟩ := hh; cases e); have kc := chg_cell wf w.heap.size 1 (.slice a' n' c'); have hlw : w.heap.size < wf.heap.size := by have := kd.size; have := HWD.out.1.size; have := HKM.out.1.size; have := HS.out; omega
      have hfar : ∀ b o, a' = some ⟨b, o, none⟩ → b ≠ w.heap.size := by
        intro b o e
        rcases m8 with ⟨e1, _⟩ | ⟨b2, o2, e1, hb⟩
        · rw [e1] at e; cases e
        · rw [e1] at e; injection e with e; injection e with e2 _
          have h1 : WD.drew.heap.size = WD.heap.size := rfl; have h2 := HWD.out.1.size; have h3 := HKM.out.1.size; have h4 := HS.out; omega
      refine ⟨ac', rfl, ⟨a', n', c', Y, IntC.abs (HIW.out.chg kd (fun _ _ h => h)), m1, ?_, ?_, m4, m5, m6⟩, (HK.out.trans kd (fun _ _ _ h => h)).setCell _ _ _ (fun hh => absurd hh (Nat.lt_irrefl _))⟩
      · refine m2.chg kc ?_
        rintro b o hh hz; obtain ⟨po, e, _⟩ := hh; exact hfar b po e hz.1
      · rcases m3 with m3 | ⟨b, o, e, hw⟩
        · exact Or.inl m3
        · exact Or.inr ⟨b, o, e, hw.chg kc (fun i hi hh => hfar b o e hh.1)⟩
end Go.Proofs.YtmgfajamanakcaaGreatDoor
