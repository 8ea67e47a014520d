/- Part of the proof of FnParse: what the functions that it reaches do, as contracts. Conditions: those that each theorem names. -/
import Derived.Test.YtmgfajamanakcaaGreatDoorR37
import Derived.Test.YtmgfajamanakcaaGreatDoorR38
import Derived.Test.YtmgfajamanakcaaGreatDoorR18
import Derived.Test.YtmgfajamanakcaaGreatDoorR27
import Derived.Deep.DeepCutAuto
import Derived.Deep.CutBlock
import Derived.Deep.QuietTactic
import Derived.Outline
namespace Go.Proofs.YtmgfajamanakcaaGreatDoor
set_option linter.unusedVariables false
set_option linter.unusedSimpArgs false
open Go Go.RowKit
set_option maxRecDepth 100000
def realV (P : Int) (md fm : Int) (ng : Bool) (a : Option Addr) (n c : Nat) (ex : Int) : Value := .agg #[.int .u64 P, .int .i64 md, .int .i64 fm, .bool ng, .slice a n c, .int .i64 ex]
set_option maxHeartbeats 1000000 in
theorem isreal_zero (P : Nat) (md : Int) (ng : Bool) (s2 : Bool) (va : Option Addr) (vc : Nat) (E : Int) (w : World) :
    Calls Tryz.prog 15 #[realV P md 0 ng none 0 0 0, .int .u64 (P : Int), .int .i64 md, Si.dyV s2 va 0 vc E] w fun e w' => e = .returned (.bool true) ∧ Chg zNone w w' := by
  have kal : ∀ o1 o2, Chg zNone w ((w.alloc o1).alloc o2) := fun o1 o2 => ((Chg.refl _ _).alloc _).alloc _
  unfold realV Si.dyV
  go_enter Tryz.func15, Tryz.ntmps15
  go_wp2
  go_ret
  exact ⟨rfl, kal _ _⟩
set_option maxHeartbeats 1000000 in
theorem isreal_good (P : Nat) (md : Int) (ng : Bool) (ua : Option Addr) (un uc : Nat) (U : Nat → Int) (ex : Int) (va : Option Addr) (vn vc t : Nat) (V E : Int) (w : World)
    (hu : Rd w ua un U) (hU : WF U un) (hN : Norm U un) (hun : un < 1048576) (hv : Si.NatV w va vn vc V) (hvn : vn < 1048576) (ht : LowZ V t) (htb : t < 16777216) (h0 : 0 < vn) (hval : val U un = V / 2 ^ t) (hex : ex = E + t) (hE : -1099511627776 < E ∧ E < 1099511627776) :
    Calls Tryz.prog 15 #[realV P md 1 ng ua un uc ex, .int .u64 (P : Int), .int .i64 md, Si.dyV ng va vn vc E] w fun e w' => e = .returned (.bool true) ∧ Chg zNone w w' := by
  subst hex
  obtain ⟨w0, hw0⟩ : ∃ w0, w0 = w.alloc (.cells #[.int .u64 (P : Int), .int .i64 md, .int .i64 1, .bool ng, .slice ua un uc, .int .i64 (E + t)] 25) := ⟨_, rfl⟩
  obtain ⟨wA, hwA⟩ : ∃ wA, wA = w0.alloc (.cells #[.bool ng, .slice va vn vc, .int .i64 E] 40) := ⟨_, rfl⟩
  have k0 : Chg zNone w w0 := by rw [hw0]; exact (Chg.refl _ _).alloc _
  have k1 : Chg zNone w0 wA := by rw [hwA]; exact (Chg.refl _ _).alloc _
  have kal := k0.trans k1 (fun _ _ _ h => h)
  have z0 : w0.heap.size = w.heap.size + 1 := by rw [hw0]; show (w.heap.push _).size = _; simp
  have hR : ∀ i v, (#[Value.int .u64 (P : Int), .int .i64 md, .int .i64 1, .bool ng, .slice ua un uc, .int .i64 (E + t)])[i]? = some v → wA.cell? ⟨w.heap.size, i, none⟩ = some v := fun i v h => k1.cell (by rw [hw0]; exact cell?_alloc_new w _ 25 i v h) (fun h => h)
  have hY := Si.newDy w0 ng va vn vc E 40
  rw [← hwA, z0] at hY
  have HO := Lib.hid (Si.odd_any va vn vc t V wA (hv.far kal) (by omega) ht (by omega))
  have HV := Lib.hid (And.intro hv (And.intro hu (And.intro hU (And.intro hN (And.intro hval (And.intro kal (And.intro hR hY)))))))
  rw [hwA, hw0] at HO
  have d0 : ((vn : Int) == 0) = false := by simp; omega
  have HWA := Lib.hid (show (w.alloc (.cells #[.int .u64 (P : Int), .int .i64 md, .int .i64 1, .bool ng, .slice ua un uc, .int .i64 (E + t)] 25)).alloc (.cells #[.bool ng, .slice va vn vc, .int .i64 E] 40) = wA by rw [hwA, hw0])
  clear hv hu hU hN hval kal hR hY k0 k1 z0 hwA hw0
  unfold realV Si.dyV
  go_enter Tryz.func15, Tryz.ntmps15
  go_wp2_with fail
  refine HO.out.mono ?_
  rintro e w1 ⟨b, m, d, rfl, g1, g2⟩
  rw [HWA.out] at g2
  have hmn : m ≤ vn := g1.len (by
    have h1 := Si.nat_lt HV.out.1
    have h2 : V / 2 ^ t ≤ V := Int.ediv_le_self _ HV.out.1.nonneg
    omega)
  have r2 := g2.cell (HV.out.2.2.2.2.2.2.1 2 _ rfl) (fun h => h)
  have r3 := g2.cell (HV.out.2.2.2.2.2.2.1 3 _ rfl) (fun h => h)
  have r4 := g2.cell (HV.out.2.2.2.2.2.2.1 4 _ rfl) (fun h => h)
  have r5 := g2.cell (HV.out.2.2.2.2.2.2.1 5 _ rfl) (fun h => h)
  obtain ⟨y0, y1, y2, _⟩ := HV.out.2.2.2.2.2.2.2.chg g2 (fun _ h => h)
  have kw := HV.out.2.2.2.2.2.1.trans g2 (fun _ _ _ h => h)
  have HH := Lib.hid (haswords_any ua un uc U b m d (V / 2 ^ t) w1 (rd_far HV.out.2.1 kw (fun _ _ _ _ _ h => h)) HV.out.2.2.1 hun g1 (by omega))
  have HK := Lib.hid kw
  clear g1 g2 kw
  cases ng with
  | true =>
    go_wp2_with fail
    refine HH.out.mono ?_
    rintro e w2 ⟨r, rfl, hr, g3⟩
    have hrt : r = true := hr.2 ⟨HV.out.2.2.2.1, HV.out.2.2.2.2.1⟩
    subst hrt
    have q5 := g3.cell r5 (fun h => h)
    have s2 := g3.cell y2 (fun h => h)
    have HK2 := Lib.hid (HK.out.trans g3 (fun _ _ _ h => h))
    clear g3 hr
    go_wp2
    go_ret
    exact ⟨rfl, HK2.out⟩
  | false =>
    go_wp2_with fail
    refine HH.out.mono ?_
    rintro e w2 ⟨r, rfl, hr, g3⟩
    have hrt : r = true := hr.2 ⟨HV.out.2.2.2.1, HV.out.2.2.2.2.1⟩
    subst hrt
    have q5 := g3.cell r5 (fun h => h)
    have s2 := g3.cell y2 (fun h => h)
    have HK2 := Lib.hid (HK.out.trans g3 (fun _ _ _ h => h))
    clear g3 hr
    go_wp2
    go_ret
    exact ⟨rfl, HK2.out⟩
set_option maxHeartbeats 1000000 in
theorem rounds_good (P : Nat) (md : Int) (ng : Bool) (ua : Option Addr) (un uc : Nat) (U : Nat → Int) (ex zac : Int) (va : Option Addr) (vn vc : Nat) (V E : Int) (w : World)
    (hu : Rd w ua un U) (hU : WF U un) (hN : Norm U un) (hun : un < 1048576) (hv : Si.NatV w va vn vc V) (hvn : vn < 65536) (hV : 0 < V) (hP : 1 ≤ P) (hP2 : P < 65536) (hE : -1073741824 < E ∧ E < 1073741824) (hmd : 0 ≤ md ∧ md ≤ 5)
    (H : ∀ q k acc, 0 < q → Si.SRnd ng V 1 P md q k acc → ∃ t, LowZ q t ∧ val U un = q / 2 ^ t ∧ ex = E + k + t ∧ zac = acc) :
    Calls Tryz.prog 34 #[realV P md 1 ng ua un uc ex, .int .i64 zac, Si.dyV ng va vn vc E, .int .u64 (P : Int), .int .i64 md] w fun e w' => e = .returned (.bool true) ∧ Chg zNone w w' := by
  obtain ⟨w0, hw0⟩ : ∃ w0, w0 = w.alloc (.cells #[.int .u64 (P : Int), .int .i64 md, .int .i64 1, .bool ng, .slice ua un uc, .int .i64 ex] 25) := ⟨_, rfl⟩
  obtain ⟨wA, hwA⟩ : ∃ wA, wA = w0.alloc (.cells #[.bool ng, .slice va vn vc, .int .i64 E] 40) := ⟨_, rfl⟩
  have k0 : Chg zNone w w0 := by rw [hw0]; exact (Chg.refl _ _).alloc _
  have k1 : Chg zNone w0 wA := by rw [hwA]; exact (Chg.refl _ _).alloc _
  have kal := k0.trans k1 (fun _ _ _ h => h)
  have z0 : w0.heap.size = w.heap.size + 1 := by rw [hw0]; show (w.heap.push _).size = _; simp
  have hR : ∀ i v, (#[Value.int .u64 (P : Int), .int .i64 md, .int .i64 1, .bool ng, .slice ua un uc, .int .i64 ex])[i]? = some v → wA.cell? ⟨w.heap.size, i, none⟩ = some v := fun i v h => k1.cell (by rw [hw0]; exact cell?_alloc_new w _ 25 i v h) (fun h => h)
  have HRo := Lib.hid (Si.round_spec ng va vn vc P V E md wA (hv.far kal) hV hvn hP hP2 (by omega) hmd)
  have HV := Lib.hid (And.intro hv (And.intro hu (And.intro hU (And.intro hN (And.intro H (And.intro kal hR))))))
  rw [hwA, hw0] at HRo
  have HWA := Lib.hid (show (w.alloc (.cells #[.int .u64 (P : Int), .int .i64 md, .int .i64 1, .bool ng, .slice ua un uc, .int .i64 ex] 25)).alloc (.cells #[.bool ng, .slice va vn vc, .int .i64 E] 40) = wA by rw [hwA, hw0])
  clear hv hu hU hN H kal hR k0 k1 z0 hwA hw0
  unfold Si.dyV at HRo ⊢
  unfold realV
  go_enter Tryz.func34, Tryz.ntmps34
  go_wp2_with fail
  refine HRo.out.mono ?_
  rintro e w1 ⟨b, m, d, q, ac, k, he, g1, g2, gk, g3, g4, g5⟩
  unfold Si.dyV at he
  subst he
  rw [HWA.out] at g5
  obtain ⟨t, t1, t2, t3, t4⟩ := HV.out.2.2.2.2.1 q k ac g3 g4
  have hqb := Si.nat_lt g1
  rw [Si.SB_pow] at hqb
  have htb := t1.lt g3 hqb
  have hm0 : 0 < m := by
    rcases Nat.eq_zero_or_pos m with h0 | h0
    · have := g1.zero.1 h0; omega
    · exact h0
  have kw := HV.out.2.2.2.2.2.1.trans g5 (fun _ _ _ h => h)
  have kd : Chg zNone w1 (w1.alloc (.cells #[.bool ng, .slice b m d, .int .i64 (E + k)] 40)) := (Chg.refl _ _).alloc _
  have r0 := g5.cell (HV.out.2.2.2.2.2.2 0 _ rfl) (fun h => h)
  have r1 := g5.cell (HV.out.2.2.2.2.2.2 1 _ rfl) (fun h => h)
  have r2 := g5.cell (HV.out.2.2.2.2.2.2 2 _ rfl) (fun h => h)
  have r3 := g5.cell (HV.out.2.2.2.2.2.2 3 _ rfl) (fun h => h)
  have r4 := g5.cell (HV.out.2.2.2.2.2.2 4 _ rfl) (fun h => h)
  have r5 := g5.cell (HV.out.2.2.2.2.2.2 5 _ rfl) (fun h => h)
  have rl := lt_of_cell r0
  have HI := Lib.hid (isreal_good P md ng ua un uc U ex b m d t q (E + k) _ (rd_far HV.out.2.1 (kw.trans kd (fun _ _ _ h => h)) (fun _ _ _ _ _ h => h)) HV.out.2.2.1 HV.out.2.2.2.1 hun (g1.far kd) g2 t1 (by omega) hm0 t2 t3 (by omega))
  have HK := Lib.hid (kw.trans kd (fun _ _ _ h => h))
  have HT := Lib.hid t4
  subst t4
  clear g1 g4 g5 kw kd t1 t2 t3 hqb htb
  unfold realV Si.dyV at HI
  go_wp2_with fail
  refine HI.out.mono ?_
  rintro e w2 ⟨rfl, k2⟩
  have HK2 := Lib.hid (HK.out.trans k2 (fun _ _ _ h => h))
  clear k2
  go_wp2
  go_ret
  exact ⟨rfl, HK2.out⟩
end Go.Proofs.YtmgfajamanakcaaGreatDoor
namespace Go.Proofs.YtmgfajamanakcaaGreatDoor
set_option linter.unusedVariables false
set_option linter.unusedSimpArgs false
open Go.RowKit
set_option maxRecDepth 100000
theorem flt_ptr_neq (w : World) {b b' : Nat} (h : PB w b) (h' : PB w b') (he : b ≠ b') :
    (binOp .neq 85 (.pointer (some ⟨b, 0, none⟩)) (.pointer (some ⟨b', 0, none⟩))).run Tryz.prog w = .ok (.bool true) w := by
  cases hi : Tryz.prog.info? 136 with
  | none => have := info136; rw [hi] at this; cases this
  | some i =>
    have hs : i.size ≠ 0 := by have := info136; rw [hi] at this; simp at this; omega
    obtain ⟨cs, t, h⟩ := h; obtain ⟨cs', t', h'⟩ := h'
    have key : ∀ d : Nat, (Op.equalIn (d + 1) 85 (.pointer (some ⟨b, 0, none⟩)) (.pointer (some ⟨b', 0, none⟩))).run Tryz.prog w = .ok false w := fun d => by
      simp [Op.equalIn, run_underlying Tryz.underlying85, sizeOf, typeInfo, hi, hs, run_sameAddr_other w (fun (e : (⟨b, 0, none⟩ : Addr) = ⟨b', 0, none⟩) => he (by injection e with e1 e2)) h h']
    simp only [binOp]
    simp [Op.equal, Op.maxDepth, key 9999]
def CopyPost (w : World) (zb : Nat) (v : FV) (X : Nat → Int) (w' : World) : Prop :=
  ∃ b o c, w.heap.size ≤ b ∧ FNum w' zb { v with a := some ⟨b, o, none⟩, c := c } X ∧ Chg (zRow zb 0 7) w w'
def CopyMid (WD : World) (zb n : Nat) (X : Nat → Int) (wc : World) : Prop :=
  ∃ a c wf, wc = wf.setCell ⟨zb, 5, none⟩ (.slice a n c) ∧ (n ≤ c ∧ ZOK wf a c ∧ Rd wf a n X ∧ Home WD.drew none 0 a c ∧ Chg (zAddr none 0) WD.drew wf)
set_option maxHeartbeats 8000000 in
theorem Copy_any (zb xb : Nat) (v v0 : FV) (X : Nat → Int) (w : World) (h : FNum w xb v X) (hf : v.fm = 1) (hz : FltC w zb v0) (hv0 : v0.a = none ∧ v0.n = 0 ∧ v0.c = 0) (hne : zb ≠ xb) (hap : ∀ o, v.a ≠ some ⟨zb, o, none⟩) :
    Calls Tryz.prog 136 #[.pointer (some ⟨zb, 0, none⟩), .pointer (some ⟨xb, 0, none⟩)] w fun e w' => e = .returned (.pointer (some ⟨zb, 0, none⟩)) ∧ CopyPost w zb v X w' := by
  have hpn := flt_ptr_neq w hz.pb h.c.pb hne; obtain ⟨f1, f2, f3, f4, f5, f6⟩ := h.fin hf; have H := Lib.hid h; have HZ := Lib.hid hz; obtain ⟨P, md, ac, fm, ng, a, n, c, e0⟩ := v; obtain ⟨Pz, mdz, acz, fmz, ngz, az, nz, cz, ez⟩ := v0; simp only at hf hv0 hap f1 f2 f3 f4 f5 f6; obtain ⟨rfl, rfl, rfl⟩ := hv0; subst hf
  have HS : Hid (∀ W, Chg (zRow zb 0 7) w W → Calls Tryz.prog 77 #[.slice none 0 0, .slice a n c] W (SetRes W none 0 n X)) := fun W k =>
    set_any none a 0 0 n c X W (Or.inl ⟨rfl, rfl⟩) (by
      rcases f4 with f4 | ⟨b, o, e, hw⟩
      · exact Or.inl f4
      · refine Or.inr ⟨b, o, e, hw.chg k (fun i hi hh => hap o ?_)⟩
        rw [e, hh.1]) f2 (by omega)
  obtain ⟨c0, c1, c2, c3, c4, c5, c6, cb⟩ := h.c; obtain ⟨z0, z1, z2, z3, z4, z5, z6, zp⟩ := hz; simp only at c0 c1 c2 c3 c4 c5 c6 z0 z1 z2 z3 z4 z5 z6; have g0 := zp.fz 0; have g1 := zp.fz 1; have g2 := zp.fz 2; have g3 := zp.fz 3; have g4 := zp.fz 4; have g5 := zp.fz 5; have g6 := zp.fz 6; have hx : xb ≠ zb := hne.symm; have HF := Lib.hid (And.intro f1 (And.intro f2 (And.intro f3 (And.intro f4 (And.intro f5 f6))))); have HAP := Lib.hid hap; clear h cb zp f1 f2 f3 f4 f5 f6 hap
  go_enter Tryz.func136, Tryz.ntmps136
  go_upto_if 47 with fail; obtain ⟨WD, hWD⟩ : ∃ W, W = ((((w.setCell ⟨zb, 0, none⟩ (.int .u32 P)).setCell ⟨zb, 1, none⟩ (.int .u8 md)).setCell ⟨zb, 2, none⟩ (.int .i8 ac)).setCell ⟨zb, 3, none⟩ (.int .u8 1)).setCell ⟨zb, 4, none⟩ (.bool ng) := ⟨_, rfl⟩
  have HW : Hid (FltC WD zb ⟨P, md, ac, 1, ng, none, 0, 0, ez⟩ ∧ Chg (zRow zb 0 7) w WD) := by
    rw [hWD]; exact ⟨((((HZ.out.setP P).setMd md).setAc ac).setFm 1).setNg ng, (((((Chg.refl _ _).setCell zb 0 _ (fun _ => ⟨rfl, by omega, by omega⟩)).setCell zb 1 _ (fun _ => ⟨rfl, by omega, by omega⟩)).setCell zb 2 _ (fun _ => ⟨rfl, by omega, by omega⟩)).setCell zb 3 _ (fun _ => ⟨rfl, by omega, by omega⟩)).setCell zb 4 _ (fun _ => ⟨rfl, by omega, by omega⟩)⟩
  rw [← hWD]; have q5 : WD.cell? ⟨xb, 5, none⟩ = some (.slice a n c) := HW.out.2.cell c5 (fun hh => hx hh.1); have q6 : WD.cell? ⟨xb, 6, none⟩ = some (.int .i32 e0) := HW.out.2.cell c6 (fun hh => hx hh.1); have r3 := HW.out.1.fm; have r5 := HW.out.1.mt; have r6 := HW.out.1.ex; have s5 := HW.out.1.pb.fz 5; have s6 := HW.out.1.pb.fz 6; simp only at r3 r5 r6; have HWD := Lib.hid (And.intro HW.out.2 (And.intro r5 s5)); clear c0 c1 c2 c3 c4 c5 c6 z0 z1 z2 z3 z4 z5 z6 g0 g1 g2 g3 g4 g5 g6 hpn hWD; go_upto_region 8 with fail; go_cut [2] (fun _ wc => CopyMid WD zb n X wc)
  case first => as_aux_lemma =>
    refine wp_region_noPanic ?_; refine wp_region_any (by kernel_rfl) ?_; change wpAny _ _ _ _ _ _ _ (World.drew _); refine wpAny_take (i := 0) (v := ?_) rfl (by kernel_rfl) (by kernel_rfl) (by kernel_rfl) (fun _ _ _ h => False.elim h) (Or.inl ⟨by rfl, ?_⟩) ?_; rotate_left 1
    · intro w9
      go_simp; (try with_reducible rfl)
    (try simp only [Act.put, List.getElem_toArray, List.getElem_cons_zero, List.getElem_cons_succ, List.setIfInBounds_toArray, List.set_cons_zero, List.set_cons_succ]); refine wpAny_take (i := 1) (v := ?_) rfl (by kernel_rfl) (by kernel_rfl) (by kernel_rfl) (fun _ _ _ h => False.elim h) (Or.inl ⟨by rfl, ?_⟩) ?_; rotate_left 1
    · intro w9
      go_simp; (try with_reducible rfl)
    (try simp only [Act.put, List.getElem_toArray, List.getElem_cons_zero, List.getElem_cons_succ, List.setIfInBounds_toArray, List.set_cons_zero, List.set_cons_succ]); refine wpAny_take (i := 2) (v := ?_) rfl (by kernel_rfl) (by kernel_rfl) (by kernel_rfl) (fun _ _ _ h => False.elim h) (Or.inl ⟨by rfl, ?_⟩) ?_; rotate_left 1
    · intro w9
      go_simp; (try with_reducible rfl)
    (try simp only [Act.put, List.getElem_toArray, List.getElem_cons_zero, List.getElem_cons_succ, List.setIfInBounds_toArray, List.set_cons_zero, List.set_cons_succ]); refine wpAny_take (i := 3) (v := ?_) rfl (by kernel_rfl) (by kernel_rfl) (by kernel_rfl) (fun _ _ _ h => False.elim h) (Or.inl ⟨by rfl, ?_⟩) ?_; rotate_left 1
    · intro w9
      go_simp; (try with_reducible rfl)
    (try simp only [Act.put, List.getElem_toArray, List.getElem_cons_zero, List.getElem_cons_succ, List.setIfInBounds_toArray, List.set_cons_zero, List.set_cons_succ]); refine wpAny_take (i := 5) (v := ?_) rfl (by kernel_rfl) (by kernel_rfl) (by kernel_rfl) (fun _ _ _ h => False.elim h) (Or.inl ⟨by rfl, ?_⟩) ?_; rotate_left 1
    · intro w9
      go_simp; (try with_reducible rfl)
    (try simp only [Act.put, List.getElem_toArray, List.getElem_cons_zero, List.getElem_cons_succ, List.setIfInBounds_toArray, List.set_cons_zero, List.set_cons_succ]); refine wpAny_take (i := 6) (v := ?_) rfl (by kernel_rfl) (by kernel_rfl) (by kernel_rfl) (fun _ _ _ h => False.elim h) (Or.inl ⟨by rfl, ?_⟩) ?_; rotate_left 1
    · intro w9
      go_simp; (try with_reducible rfl)
    (try simp only [Act.put, List.getElem_toArray, List.getElem_cons_zero, List.getElem_cons_succ, List.setIfInBounds_toArray, List.set_cons_zero, List.set_cons_succ]); refine wpAny_take (i := 7) (v := ?_) rfl (by kernel_rfl) (by kernel_rfl) (by kernel_rfl) (fun _ _ _ h => False.elim h) (Or.inl ⟨by rfl, ?_⟩) ?_; rotate_left 1
    · intro w9
      go_simp; (try with_reducible rfl)
    (try simp only [Act.put, List.getElem_toArray, List.getElem_cons_zero, List.getElem_cons_succ, List.setIfInBounds_toArray, List.set_cons_zero, List.set_cons_succ]); refine wpAny_ready (rs := [4, 8]) (by kernel_rfl) (by simp) ?_; refine AllReady.cons rfl (fun K hK => ?_) (AllReady.cons rfl (fun K hK => ?_) AllReady.nil)
    · skip
      go_simp; refine hK _ _ ?_; clear hK K; (try simp only [Act.put, List.getElem_toArray, List.getElem_cons_zero, List.getElem_cons_succ, List.setIfInBounds_toArray, List.set_cons_zero, List.set_cons_succ]); refine wpAny_ready (rs := [8]) (by kernel_rfl) (by simp) ?_; refine AllReady.cons rfl (fun K hK => ?_) AllReady.nil; go_simp; refine hK _ _ ?_; clear hK K; (try simp only [Act.put, List.getElem_toArray, List.getElem_cons_zero, List.getElem_cons_succ, List.setIfInBounds_toArray, List.set_cons_zero, List.set_cons_succ]); refine wpAny_ready (rs := [9]) (by kernel_rfl) (by simp) ?_; refine AllReady.cons rfl (fun K hK => ?_) AllReady.nil; go_simp; go_wp2_with (go_at_call 77; go_loud (refine (HS.out WD.drew HWD.out.1.drew).mono ?_; rintro e wf ⟨aa, cc, rfl, f1, f2, f3, f4, f5⟩; have j5 : wf.cell? ⟨zb, 5, none⟩ = some (.slice none 0 0) := f5.cell (w := WD.drew) HWD.out.2.1 (fun hh => by obtain ⟨_, e, _⟩ := hh; cases e); have jf : wf.frozen? ⟨zb, 5, none⟩ = false := (f5.frozen (w := WD.drew) HWD.out.2.1 _).trans HWD.out.2.2; have HFF := Lib.hid (And.intro f1 (And.intro f2 (And.intro f3 (And.intro f4 f5)))); clear f1 f2 f3 f4 f5)); (try simp only [Act.put, List.getElem_toArray, List.getElem_cons_zero, List.getElem_cons_succ, List.setIfInBounds_toArray, List.set_cons_zero, List.set_cons_succ]); refine wpAny_take (i := 10) (v := ?_) rfl (by kernel_rfl) (by kernel_rfl) (by kernel_rfl) (fun _ _ _ h => False.elim h) (Or.inl ⟨by rfl, ?_⟩) ?_; rotate_left 1
      · intro w9
        go_simp; (try with_reducible rfl)
      (try simp only [Act.put, List.getElem_toArray, List.getElem_cons_zero, List.getElem_cons_succ, List.setIfInBounds_toArray, List.set_cons_zero, List.set_cons_succ]); refine wpAny_take (i := 11) (v := ?_) rfl (by kernel_rfl) (by kernel_rfl) (by kernel_rfl) (fun _ _ _ h => False.elim h) (Or.inl ⟨by rfl, ?_⟩) ?_; rotate_left 1
      · intro w9
        go_simp; (try with_reducible rfl)
      (try simp only [Act.put, List.getElem_toArray, List.getElem_cons_zero, List.getElem_cons_succ, List.setIfInBounds_toArray, List.set_cons_zero, List.set_cons_succ]); refine wpAny_ready (rs := [12]) (by kernel_rfl) (by simp) ?_; refine AllReady.cons rfl (fun K hK => ?_) AllReady.nil; go_simp; refine hK _ _ ?_; clear hK K; (try simp only [Act.put, List.getElem_toArray, List.getElem_cons_zero, List.getElem_cons_succ, List.setIfInBounds_toArray, List.set_cons_zero, List.set_cons_succ]); refine wpAny_done (by kernel_rfl) ?_ _; refine NoPanic.normal ?_; go_wp2; go_meet; exact ⟨aa, cc, wf, rfl, HFF.out⟩
    · skip
      go_simp; refine hK _ _ ?_; clear hK K; (try simp only [Act.put, List.getElem_toArray, List.getElem_cons_zero, List.getElem_cons_succ, List.setIfInBounds_toArray, List.set_cons_zero, List.set_cons_succ]); refine wpAny_ready (rs := [4]) (by kernel_rfl) (by simp) ?_; refine AllReady.cons rfl (fun K hK => ?_) AllReady.nil; go_simp; refine hK _ _ ?_; clear hK K; (try simp only [Act.put, List.getElem_toArray, List.getElem_cons_zero, List.getElem_cons_succ, List.setIfInBounds_toArray, List.set_cons_zero, List.set_cons_succ]); refine wpAny_ready (rs := [9]) (by kernel_rfl) (by simp) ?_; refine AllReady.cons rfl (fun K hK => ?_) AllReady.nil; go_simp; go_wp2_with (go_at_call 77; go_loud (refine (HS.out WD.drew HWD.out.1.drew).mono ?_; rintro e wf ⟨aa, cc, rfl, f1, f2, f3, f4, f5⟩; have j5 : wf.cell? ⟨zb, 5, none⟩ = some (.slice none 0 0) := f5.cell (w := WD.drew) HWD.out.2.1 (fun hh => by obtain ⟨_, e, _⟩ := hh; cases e); have jf : wf.frozen? ⟨zb, 5, none⟩ = false := (f5.frozen (w := WD.drew) HWD.out.2.1 _).trans HWD.out.2.2; have HFF := Lib.hid (And.intro f1 (And.intro f2 (And.intro f3 (And.intro f4 f5)))); clear f1 f2 f3 f4 f5)); (try simp only [Act.put, List.getElem_toArray, List.getElem_cons_zero, List.getElem_cons_succ, List.setIfInBounds_toArray, List.set_cons_zero, List.set_cons_succ]); refine wpAny_take (i := 10) (v := ?_) rfl (by kernel_rfl) (by kernel_rfl) (by kernel_rfl) (fun _ _ _ h => False.elim h) (Or.inl ⟨by rfl, ?_⟩) ?_; rotate_left 1
      · intro w9
        go_simp; (try with_reducible rfl)
      (try simp only [Act.put, List.getElem_toArray, List.getElem_cons_zero, List.getElem_cons_succ, List.setIfInBounds_toArray, List.set_cons_zero, List.set_cons_succ]); refine wpAny_take (i := 11) (v := ?_) rfl (by kernel_rfl) (by kernel_rfl) (by kernel_rfl) (fun _ _ _ h => False.elim h) (Or.inl ⟨by rfl, ?_⟩) ?_; rotate_left 1
      · intro w9
        go_simp; (try with_reducible rfl)
      (try simp only [Act.put, List.getElem_toArray, List.getElem_cons_zero, List.getElem_cons_succ, List.setIfInBounds_toArray, List.set_cons_zero, List.set_cons_succ]); refine wpAny_ready (rs := [12]) (by kernel_rfl) (by simp) ?_; refine AllReady.cons rfl (fun K hK => ?_) AllReady.nil; go_simp; refine hK _ _ ?_; clear hK K; (try simp only [Act.put, List.getElem_toArray, List.getElem_cons_zero, List.getElem_cons_succ, List.setIfInBounds_toArray, List.set_cons_zero, List.set_cons_succ]); refine wpAny_done (by kernel_rfl) ?_ _; refine NoPanic.normal ?_; go_wp2; go_meet; exact ⟨aa, cc, wf, rfl, HFF.out⟩
  case rest => as_aux_lemma =>
    obtain ⟨a', c', wf, rfl, HM⟩ := hcut; have HM := Lib.hid HM; have kd : Chg zNone WD wf := ((Chg.refl zNone WD).drew).trans HM.out.2.2.2.2 (fun b o _ hh => by obtain ⟨_, e, _⟩ := hh; cases e); have j6 : (wf.setCell ⟨zb, 5, none⟩ (.slice a' n c')).cell? ⟨xb, 6, none⟩ = some (.int .i32 e0) := (chg_cell wf zb 5 _).cell (kd.cell q6 (fun h => h)) (fun hh => hx hh.1); have HC : Hid (FltC (wf.setCell ⟨zb, 5, none⟩ (.slice a' n c')) zb ⟨P, md, ac, 1, ng, a', n, c', ez⟩) := (HW.out.1.chg kd (fun _ _ h => h)).setMt a' n c'; have l6 := HC.out.ex; have m6 := HC.out.pb.fz 6; simp only at l6; have HKD := Lib.hid kd; clear kd q5 q6 r3 r5 r6 s5 s6; obtain ⟨WE, hWE⟩ : ∃ W, W = wf.setCell ⟨zb, 5, none⟩ (.slice a' n c') := ⟨_, rfl⟩; have HWE : Hid (Chg (zRow zb 0 7) wf WE) := by rw [hWE]; exact (Chg.refl _ _).setCell zb 5 _ (fun _ => ⟨rfl, by omega, by omega⟩)
    rw [← hWE] at j6 HC l6 m6 ⊢; clear hWE; go_wp2; go_ret; refine ⟨rfl, ?_⟩; obtain ⟨f1, f2, f3, f4, f5, f6⟩ := HF.out; obtain ⟨m1, m2, m3, m4, m5⟩ := HM.out; have kE : Chg (zRow zb 0 7) wf (WE.setCell ⟨zb, 6, none⟩ (.int .i32 e0)) := HWE.out.setCell zb 6 _ (fun _ => ⟨rfl, by omega, by omega⟩)
    rcases m4 with ⟨e1, e2⟩ | ⟨b, o, rfl, hb⟩
    · omega
    · have hbz : b ≠ zb := by
        have h1 := HZ.out.lt; have h2 := HW.out.2.size; have h3 : WD.drew.heap.size = WD.heap.size := rfl; omega
      refine ⟨b, o, c', ?_, ⟨HC.out.setEx e0, m2.chg kE ?_, ?_, H.out.p, H.out.md, Or.inr (Or.inl rfl), H.out.ex, fun _ => ⟨f1, m1, f3, ?_, f5, f6⟩⟩, (HW.out.2.trans HKD.out (fun _ _ _ h => h.elim)).trans kE (fun _ _ _ h => h)⟩
      · have h2 := HW.out.2.size
        have h3 : WD.drew.heap.size = WD.heap.size := rfl; omega
      · rintro b' o' ⟨po, e, _⟩ hh
        injection e with e; injection e with e1 e2; exact hbz (e1.trans hh.1)
      · rintro b' o' e
        injection e with e; injection e with e1 e2; rw [← e1]; exact hbz
      · rcases m3 with m3 | ⟨b', o', e, hw⟩
        · exact Or.inl m3
        · refine Or.inr ⟨b', o', e, hw.chg kE (fun i hi hh => hbz ?_)⟩
          injection e with e; injection e with e1 e2; exact e1.trans hh.1
theorem lowz_ex {M : Int} (h : 0 < M) : ∃ t, LowZ M t := by
  obtain ⟨m, hm, _⟩ := Lib.ctzFrom_spec M.toNat M.toNat (by omega) Nat.lt_two_pow_self; refine ⟨Lib.ctzFrom M.toNat M.toNat, m, ?_⟩; have h3 := congrArg (fun k : Nat => (k : Int)) hm; simp only [Int.natCast_mul, Int.natCast_pow, Int.natCast_add, Int.natCast_one, Int.cast_ofNat_Int] at h3; rw [show ((M.toNat : Nat) : Int) = M by omega] at h3; exact h3
set_option maxHeartbeats 4000000 in
theorem MinPrec_any (b t : Nat) (v : FV) (X : Nat → Int) (w : World) (h : FNum w b v X) (hf : v.fm = 1) (ht : LowZ (val X v.n) t) (hT : DeB w) :
    Calls Tryz.prog 121 #[.pointer (some ⟨b, 0, none⟩)] w fun e w' => e = .returned (.int .u64 ((64 * v.n - t : Nat) : Int)) ∧ t < 64 * v.n ∧ Chg zNone w w' := by
  obtain ⟨f1, f2, f3, f4, f5, f6⟩ := h.fin hf; obtain ⟨bm, om, ea, hw, hroom, hpb, hbm⟩ := h.words hf
  have htl : t < 64 * v.n := by
    have hv := val_ge_top f5 f1 f6; exact ht.lt (by have : (0 : Int) < 2 ^ (64 * v.n - 1) := Int.pow_pos (by decide); omega) hv.2
  have HM : Hid (∀ k, Calls Tryz.prog 177 #[.slice (some ⟨bm, om, none⟩) v.n v.c] (w.drewN k) fun e w' => e = .returned (.int .u64 (t : Int)) ∧ w' = w.drewN k) := fun k =>
    (tzb_any bm om v.n v.c X (w.drewN k) (hw.chg ((Chg.refl zNone w).drewN k) (fun _ _ h => h)) f5 f1 f3 (by omega) (fun j hj => ((Chg.refl zNone w).drewN k).cell (hT j hj) (fun h => h)) f2).mono (by
      rintro e w' ⟨t', rfl, h1, h2, rfl⟩; rw [h1.unique ht]
      exact ⟨rfl, rfl⟩)
  obtain ⟨P, md, ac, fm, ng, a, n, c, e0⟩ := v; obtain ⟨c0, c1, c2, c3, c4, c5, c6, cb⟩ := h.c; simp only at hf ea f1 f2 f3 c0 c1 c2 c3 c4 c5 c6 HM htl; subst hf; subst ea; have w1 : IntKind.u64.wrap (n : Int) = (n : Int) := IntWalk.u64_in _ (by omega); have w2 : IntKind.u64.wrap ((n : Int) * 64) = (n : Int) * 64 := IntWalk.u64_in _ (by omega); have w3 : IntKind.u64.wrap ((n : Int) * 64 - (t : Int)) = (n : Int) * 64 - (t : Int) := IntWalk.u64_in _ (by omega); have w4 : ((64 * n - t : Nat) : Int) = (n : Int) * 64 - (t : Int) := by omega
  rw [w4]; clear h hT hw hroom hpb cb f4 f5 f6 ht
  go_enter Tryz.func121, Tryz.ntmps121
  go_wp2_with fail
  go_quiet ((go_at_call 177; exact Calls.quiet_of_same (HM.out _)))
  go_wp2; go_ret; exact ⟨rfl, htl, (Chg.refl _ _).drewN _⟩
set_option maxHeartbeats 4000000 in
theorem MantExp_any (zb xb : Nat) (v v0 : FV) (X : Nat → Int) (w : World) (h : FNum w xb v X) (hf : v.fm = 1) (hz : FltC w zb v0) (hv0 : v0.a = none ∧ v0.n = 0 ∧ v0.c = 0) (hne : zb ≠ xb) (hap : ∀ o, v.a ≠ some ⟨zb, o, none⟩) :
    Calls Tryz.prog 120 #[.pointer (some ⟨xb, 0, none⟩), .pointer (some ⟨zb, 0, none⟩)] w fun e w' => e = .returned (.int .i64 v.e) ∧ CopyPost w zb { v with e := 0 } X w' := by
  have HC := Lib.hid (Copy_any zb xb v v0 X w h hf hz hv0 hne hap); have hex := h.ex; obtain ⟨P, md, ac, fm, ng, a, n, c, e0⟩ := v; obtain ⟨c0, c1, c2, c3, c4, c5, c6, cb⟩ := h.c; simp only at hf c0 c1 c2 c3 c4 c5 c6 hex; subst hf; have w1 : IntKind.i64.wrap e0 = e0 := IntWalk.i64_in _ (by omega); clear h hz hap cb
  go_enter Tryz.func120, Tryz.ntmps120
  go_wp2_with fail; refine HC.out.mono ?_; rintro e w1 ⟨rfl, b, o, c', hb, g1, g2⟩; obtain ⟨k0, k1, k2, k3, k4, k5, k6, kp⟩ := g1.c; have f6 := kp.fz 6; have HG := Lib.hid (And.intro hb (And.intro g1 g2)); simp only at k0 k1 k2 k3 k4 k5 k6; clear c0 c1 c2 c3 c4 c5 c6 hb g1 g2 kp; go_wp2; go_ret; refine ⟨rfl, b, o, c', HG.out.1, ?_, HG.out.2.2.setCell zb 6 _ (fun _ => ⟨rfl, by omega, by omega⟩)⟩; have g := HG.out.2.1; have kk := chg_cell w1 zb 6 (.int .i32 0); refine ⟨g.c.setEx 0, g.zset _ _, g.ap, g.p, g.md, g.fm, (by simp), fun hh => ?_⟩; obtain ⟨f1, f2, f3, f4, f5, f6'⟩ := g.fin rfl; refine ⟨f1, f2, f3, ?_, f5, f6'⟩
  rcases f4 with f4 | ⟨b', o', e, hw⟩
  · exact Or.inl f4
  · exact Or.inr ⟨b', o', e, hw.chg kk (fun i hi hh => g.ap b' o' e hh.1)⟩
set_option maxHeartbeats 4000000 in
theorem SetMantExp_any (zb xb p : Nat) (v v0 : FV) (X : Nat → Int) (x : Int) (w : World) (h : FNum w xb v X) (hf : v.fm = 1) (hp : v.p = (p : Int)) (hz : FltC w zb v0) (hv0 : v0.a = none ∧ v0.n = 0 ∧ v0.c = 0) (hne : zb ≠ xb) (hap : ∀ o, v.a ≠ some ⟨zb, o, none⟩) (hx : -1099511627776 ≤ x ∧ x ≤ 1099511627776) :
    Calls Tryz.prog 75 #[.pointer (some ⟨zb, 0, none⟩), .pointer (some ⟨xb, 0, none⟩), .int .i64 x] w fun e w' => e = .returned (.pointer (some ⟨zb, 0, none⟩)) ∧
      ∃ w1 b o c, w.heap.size ≤ b ∧ FNum w1 zb { v with a := some ⟨b, o, none⟩, c := c } X ∧ Chg (zRow zb 0 7) w w1 ∧ SERPost w1 zb { v with a := some ⟨b, o, none⟩, c := c } X (v.e + x) false p w' := by
  have HC := Lib.hid (Copy_any zb xb v v0 X w h hf hz hv0 hne hap); have hex := h.ex; obtain ⟨P, md, ac, fm, ng, a, n, c, e0⟩ := v; simp only at hf hp hex; subst hf; have w1 : IntKind.i64.wrap e0 = e0 := IntWalk.i64_in _ (by omega); have w2 : IntKind.i64.wrap (e0 + x) = e0 + x := IntWalk.i64_in _ (by omega); clear h hz hap
  go_enter Tryz.func75, Tryz.ntmps75
  go_wp2_with fail; refine HC.out.mono ?_; rintro e w1 ⟨rfl, b, o, c', hb, g1, g2⟩; obtain ⟨k0, k1, k2, k3, k4, k5, k6, kp⟩ := g1.c
  have HS := Lib.hid (setExpAndRound_any zb p _ X (e0 + x) 0 false w1 g1 (by
    obtain ⟨f1, f2, f3, f4, f5, f6⟩ := g1.fin rfl
    exact ⟨f1, f2, f3, f4, f5, f6⟩) hp (Or.inl rfl) (by simp))
  have HG := Lib.hid (And.intro hb (And.intro g1 g2)); simp only at k0 k1 k2 k3 k4 k5 k6; clear hb g1 g2 kp; go_wp2_with fail; refine HS.out.mono ?_; rintro e w2 ⟨rfl, hS⟩; have HSS := Lib.hid hS; clear hS k0 k1 k2 k3 k4 k5 k6; go_wp2; go_ret; exact ⟨rfl, w1, b, o, c', HG.out.1, HG.out.2.1, HG.out.2.2, HSS.out⟩
end Go.Proofs.YtmgfajamanakcaaGreatDoor
