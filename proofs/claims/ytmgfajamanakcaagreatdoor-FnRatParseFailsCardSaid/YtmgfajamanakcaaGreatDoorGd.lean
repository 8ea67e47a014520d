/-
  lehmerGCD of 1 and of a greater word, walked: 1. Conditions: the cells as IntC says.
-/
import Derived.Test.YtmgfajamanakcaaGreatDoorGc
import Derived.Deep.CutBlock
import Derived.Deep.DeepCutAuto
namespace Go.Proofs.YtmgfajamanakcaaGreatDoor
open Go.RowKit
set_option maxRecDepth 100000
set_option linter.unusedVariables false
theorem newInt_cells (w : World) : IntC (w.alloc (.cells #[.bool false, .slice none 0 0] 122)) w.heap.size 0 false none 0 0 :=
  ⟨cell?_alloc_new w _ 122 0 _ rfl, cell?_alloc_new w _ 122 1 _ rfl, frozen?_alloc_new w _ 122 0, frozen?_alloc_new w _ 122 1⟩
theorem alloc_size (w : World) (o : Obj) : (w.alloc o).heap.size = w.heap.size + 1 := by
  show (w.heap.push _).size = _
  simp
theorem natin_of {w : World} {a : Option Addr} {n c : Nat} {X : Nat → Int} (h : ZOK w a c) (hr : Rd w a n X) (hw : WF X n) (hc : n ≤ c) (hs : n < 549755813888) : NatIn w a n c X := ⟨hr, hw, hc, hs, h.aok⟩
theorem wf_one {x : Int} (hx : U64 x) : WF (fun _ => x) 1 := fun _ _ => hx
/-- What lehmerGCD leaves: 1 in z. -/
def GcdOne (w : World) (zb zo : Nat) (e : Ending) (w' : World) : Prop :=
  ∃ a c, e = .returned (.pointer (some ⟨zb, zo, none⟩)) ∧ IntC w' zb zo false a 1 c ∧ 1 ≤ c ∧ ZOK w' a c ∧ Fresh w a ∧ Rd w' a 1 (fun _ => 1) ∧ Chg (zRow zb zo 2) w w'
set_option maxHeartbeats 8000000 in
theorem lehmer_one (zb zo ab ao bb bo : Nat) (na nb : Bool) (aa ba : Option Addr) (ac bc : Nat) (y : Int) (w : World) (hz : IntC w zb zo false none 0 0) (ha : IntC w ab ao na aa 1 ac) (hb : IntC w bb bo nb ba 1 bc) (hra : Rd w aa 1 (fun _ => 1)) (hrb : Rd w ba 1 (fun _ => y))
    (hac : 1 ≤ ac) (hbc : 1 ≤ bc) (hy : 1 < y) (hy2 : y < 18446744073709551616) (hpz : PB w zb) (hpa : PB w ab) (hpb : PB w bb) (hza : zb ≠ ab) (hzb : zb ≠ bb) :
    Calls Tryz.prog 143 #[.pointer (some ⟨zb, zo, none⟩), .pointer none, .pointer none, .pointer (some ⟨ab, ao, none⟩), .pointer (some ⟨bb, bo, none⟩)] w (GcdOne w zb zo) := by
  have H := Lib.hid (And.intro hz (And.intro ha (And.intro hb (And.intro hra hrb))))
  have HP := Lib.hid (And.intro hpz (And.intro hpa hpb))
  have ltz := hz.lt
  have lta := ha.lt
  have ltb := hb.lt
  have k1 : Chg zNone w (w.alloc (.cells #[.bool false, .slice none 0 0] 122)) := (Chg.refl _ _).alloc _
  have HA := Lib.hid (Abs_new w.heap.size 0 ab ao false na aa 1 ac (fun _ => 1) _ (newInt_cells w) (ha.chg k1 (fun _ _ h => h)) (rd_far hra k1 (fun _ _ _ _ _ h => h)) hac (by omega) (PB.new w _ _) (hpa.chg k1) (fun h => by omega) (fun o ho h => by have := h.1; omega))
  have K1 := Lib.hid k1
  have s1 := alloc_size w (.cells #[.bool false, .slice none 0 0] 122)
  clear hz ha hb hra hrb hpz hpa hpb k1
  go_enter Tryz.func143, Tryz.ntmps143
  go_wp2_with fail
  refine HA.out.mono ?_
  rintro e w2 ⟨a1, c1, rfl, h1, h2, h3, h4, h5, h6⟩
  obtain ⟨pa, oa, rfl, hwa⟩ : ∃ b o, a1 = some ⟨b, o, none⟩ ∧ Words w2 b o 1 (fun _ => 1) := by
    rcases h5 with h | h
    · cases h
    · exact h
  have lpa := lt_of_cell (hwa 0 (by decide))
  clear hwa
  have s2 := h6.size
  have HA2 := Lib.hid (And.intro h1 (And.intro h2 (And.intro h3 (And.intro h4 (And.intro h5 h6)))))
  have K2 := Lib.hid (show Chg zNone w w2 from K1.out.trans h6 (fun b o hb hh => by have := hh.1; omega))
  clear h1 h2 h3 h4 h5 h6
  have k3 : Chg zNone w2 (w2.alloc (.cells #[.bool false, .slice none 0 0] 122)) := (Chg.refl _ _).alloc _
  have K3 := Lib.hid k3
  have k23 := K2.out.trans k3 (fun _ _ _ h => h)
  have HB := Lib.hid (Abs_new w2.heap.size 0 bb bo false nb ba 1 bc (fun _ => y) _ (newInt_cells w2) (H.out.2.2.1.chg k23 (fun _ _ h => h)) (rd_far H.out.2.2.2.2 k23 (fun _ _ _ _ _ h => h)) hbc (by omega) (PB.new w2 _ _) (HP.out.2.2.chg k23) (fun h => by omega) (fun o ho h => by have := h.1; omega))
  have s3 := alloc_size w2 (.cells #[.bool false, .slice none 0 0] 122)
  clear k3 k23
  go_wp2_with fail
  refine HB.out.mono ?_
  rintro e w4 ⟨b1, d1, rfl, h1, h2, h3, h4, h5, h6⟩
  obtain ⟨pb, ob, rfl, hwb⟩ : ∃ b o, b1 = some ⟨b, o, none⟩ ∧ Words w4 b o 1 (fun _ => y) := by
    rcases h5 with h | h
    · cases h
    · exact h
  have lpb := lt_of_cell (hwb 0 (by decide))
  have fpb : w2.heap.size + 1 ≤ pb := by
    rcases h4 with h | ⟨b, o, e, hb⟩
    · cases h
    · injection e with e; injection e with e1 _; omega
  clear hwb
  have s4 := h6.size
  have HB4 := Lib.hid (And.intro h1 (And.intro h2 (And.intro h3 (And.intro h4 (And.intro h5 h6)))))
  clear h1 h2 h3 h4 h5 h6
  have k5 : Chg zNone w4 ((w4.alloc (.cells #[.bool false, .slice none 0 0] 122)).alloc (.cells #[.bool false, .slice none 0 0] 122)) := ((Chg.refl _ _).alloc _).alloc _
  have K5 := Lib.hid k5
  have kA : Chg (zRow w2.heap.size 0 2) w2 ((w4.alloc (.cells #[.bool false, .slice none 0 0] 122)).alloc (.cells #[.bool false, .slice none 0 0] 122)) := ((K3.out.mono (fun _ _ _ h => h.elim)).trans HB4.out.2.2.2.2.2 (fun _ _ _ h => h)).trans k5 (fun _ _ _ h => h.elim)
  have hA6 := HA2.out.1.chg kA (fun o ho h => by have := h.1; omega)
  have zA6 := HA2.out.2.2.1.chg kA (by
    rintro b o ⟨p, e, _⟩ hh
    injection e with e; injection e with e1 _
    have := hh.1; omega)
  have rA6 := rd_far HA2.out.2.2.2.2.1 kA (by
    rintro b o i e _ hh
    injection e with e; injection e with e1 _
    have := hh.1; omega)
  have hB6 := HB4.out.1.chg k5 (fun _ _ h => h)
  have zB6 := HB4.out.2.2.1.chg k5 (fun _ _ _ h => h)
  have rB6 := rd_far HB4.out.2.2.2.2.1 k5 (fun _ _ _ _ _ h => h)
  have Hcv : Hid (cmpV (val (fun _ => (1 : Int)) 1) (val (fun _ => y) 1) = -1) := by
    unfold Hid
    rw [val_one, val_one]; exact cmpV_lt hy
  have HC := Lib.hid (fun k : Nat => (cmp_any _ _ 1 c1 1 d1 (fun _ => 1) (fun _ => y) _ ((natin_of zA6 rA6 (wf_one ⟨by decide, by decide⟩) HA2.out.2.1 (by omega)).drewN k) ((natin_of zB6 rB6 (wf_one ⟨by omega, hy2⟩) HB4.out.2.1 (by omega)).drewN k) (Or.inr (by decide)) (Or.inr (by simp; omega))).mono
    (R' := fun e w' => e = .returned (.int .i64 (-1)) ∧ ∃ m, w' = (((w4.alloc (.cells #[.bool false, .slice none 0 0] 122)).alloc (.cells #[.bool false, .slice none 0 0] 122)).drewN k).drewN m) (by rintro e w' ⟨rfl, m, rfl⟩; exact ⟨by rw [Hcv.out], m, rfl⟩))
  have HX := Lib.hid (And.intro hA6 (And.intro zA6 (And.intro rA6 (And.intro hB6 (And.intro zB6 rB6)))))
  clear zA6 rA6 zB6 rB6 k5 kA
  obtain ⟨x0, x1, x2, x3⟩ := hA6
  obtain ⟨y0, y1, y2, y3⟩ := hB6
  go_wp2_with fail
  go_quiet ((go_at_call 108; exact Calls.quiet_of (HC.out _)))
  have Hw : Hid (Words ((w4.alloc (.cells #[.bool false, .slice none 0 0] 122)).alloc (.cells #[.bool false, .slice none 0 0] 122)) pb ob 1 (fun _ => y) ∧ Words ((w4.alloc (.cells #[.bool false, .slice none 0 0] 122)).alloc (.cells #[.bool false, .slice none 0 0] 122)) pa oa 1 (fun _ => 1) ∧ Room ((w4.alloc (.cells #[.bool false, .slice none 0 0] 122)).alloc (.cells #[.bool false, .slice none 0 0] 122)) pb ob 1) := by
    refine ⟨?_, ?_, ?_⟩
    · rcases HX.out.2.2.2.2.2 with h | ⟨b, o, e, h⟩
      · cases h
      · injection e with e; injection e with e1 e2; subst e1; subst e2; exact h
    · rcases HX.out.2.2.1 with h | ⟨b, o, e, h⟩
      · cases h
      · injection e with e; injection e with e1 e2; subst e1; subst e2; exact h
    · obtain ⟨b, o, e, _, h⟩ := HX.out.2.2.2.2.1.room (by have := HB4.out.2.1; omega)
      injection e with e; injection e with e1 e2; subst e1; subst e2; exact h.le HB4.out.2.1
  have KW : Hid (Chg zNone w ((w4.alloc (.cells #[.bool false, .slice none 0 0] 122)).alloc (.cells #[.bool false, .slice none 0 0] 122))) := by
    refine (K2.out.trans (Z := zNone) (((K3.out.mono (fun _ _ _ h => h.elim)).trans HB4.out.2.2.2.2.2 (fun _ _ _ h => h)).trans K5.out (fun _ _ _ h => h.elim)) ?_)
    intro b o hb hh
    have := hh.1; omega
  obtain ⟨W, hW⟩ : ∃ W, W = (w4.alloc (.cells #[.bool false, .slice none 0 0] 122)).alloc (.cells #[.bool false, .slice none 0 0] 122) := ⟨_, rfl⟩
  rw [← hW] at HX Hw KW HC x0 x1 x2 x3 y0 y1 y2 y3
  have sW : w4.heap.size ≤ W.heap.size := by rw [hW]; exact K5.out.size
  rw [← hW]
  have HW := Lib.hid hW
  clear hW
  have n1 := Hw.out.1 0 (by decide)
  have n2 := Hw.out.2.1 0 (by decide)
  have n3 := (Hw.out.2.2 0 (by decide)).2
  simp only [Nat.add_zero] at n1 n2 n3
  go_wp2_with fail
  go_loopw [11, 12] (fun s11 s12 wc => s11 = .pointer (some ⟨w2.heap.size, 0, none⟩) ∧ s12 = .pointer (some ⟨w.heap.size, 0, none⟩) ∧ wc = W.drewN nq) (fun _ _ _ => 0)
  case atStart => exact ⟨rfl, rfl, rfl⟩
  case round =>
    obtain ⟨rfl, rfl, rfl⟩ := hrel
    go_wp2_with fail
    go_quiet (fail)
    go_wp2_with fail
    go_loopw [23, 24] (fun s23 s24 wc => ∃ n, wc = W.drewN n ∧ ((s23 = .int .u64 y ∧ s24 = .int .u64 1) ∨ (s23 = .int .u64 1 ∧ s24 = .int .u64 0))) (fun _ s24 _ => (intOf s24).toNat)
    case atStart => exact ⟨_, World.drewN_drewN _ _ _, Or.inl ⟨rfl, rfl⟩⟩
    case round =>
      obtain ⟨n, rfl, ⟨rfl, rfl⟩ | ⟨rfl, rfl⟩⟩ := hrel
      · go_wp2_with fail
        go_quiet (fail)
        go_wp2_with fail
        go_roundw
        case rel => exact ⟨_, World.drewN_drewN _ _ _, Or.inr ⟨rfl, by simp [go_sem]⟩⟩
        case measure => simp [intOf]
      · have kD : Chg zNone W (W.drewN n) := (Chg.refl _ _).drewN n
        have kS : Chg (zRow pb ob 1) (W.drewN n) ((W.drewN n).setCell ⟨pb, ob, none⟩ (.int .u64 1)) := chg_cell _ _ _ _
        have kT : Chg (zRow pb ob 1) W ((W.drewN n).setCell ⟨pb, ob, none⟩ (.int .u64 1)) := (kD.mono (fun _ _ _ h => h.elim)).trans kS (fun _ _ _ h => h)
        have kN : Chg zNone w ((W.drewN n).setCell ⟨pb, ob, none⟩ (.int .u64 1)) := KW.out.trans kT (fun b o hb hh => by have := hh.1; omega)
        have HA7 := H.out.2.1.chg kN (fun _ _ h => h)
        have Hz7 := H.out.1.chg kN (fun _ _ h => h)
        have HB7 := HX.out.2.2.2.1.chg kT (fun o ho h => by have := h.1; omega)
        have rB7 : Rd ((W.drewN n).setCell ⟨pb, ob, none⟩ (.int .u64 1)) (some ⟨pb, ob, none⟩) 1 (fun _ => 1) := Or.inr ⟨pb, ob, rfl, fun i hi => by
          obtain rfl : i = 0 := by omega
          exact cs_same n1⟩
        have s7 := alloc_size w4 (.cells #[.bool false, .slice none 0 0] 122)
        have HS := Lib.hid (Set_new zb zo w2.heap.size 0 false false (some ⟨pb, ob, none⟩) 1 d1 (fun _ => 1) _ Hz7 HB7 rB7 HB4.out.2.1 (by omega) (HP.out.1.chg kN) (((PB.new w2 _ _).chg HB4.out.2.2.2.2.2).chg K5.out |> fun h => (HW.out ▸ h : PB W _).chg kT) (fun h => by omega) (fun o ho h => by have := h.1; omega))
        have q0 := (H.out.2.1.chg KW.out (fun _ _ h => h)).1
        have hpab : ¬ pb = ab := by omega
        have KN := Lib.hid kN
        clear kD kS kT kN HA7 Hz7 HB7 rB7 s7 n2
        go_wp2_with fail
        refine HS.out.mono ?_
        rintro e w8 ⟨a8, c8, rfl, g1, g2, g3, g4, g5, g6⟩
        have H8 := Lib.hid (And.intro g1 (And.intro g2 (And.intro g3 (And.intro g4 (And.intro g5 g6)))))
        clear g1 g2 g3 g4 g5 g6
        go_wp2
        go_ret
        obtain ⟨g1, g2, g3, g4, g5, g6⟩ := H8.out
        have hsz := KN.out.size
        refine ⟨a8, c8, rfl, g1, g2, g3, ?_, g5, (KN.out.mono (fun _ _ _ h => h.elim)).trans g6 (fun _ _ _ h => h)⟩
        rcases g4 with h | ⟨b, o, e, hb⟩
        · exact Or.inl h
        · exact Or.inr ⟨b, o, e, by omega⟩
end Go.Proofs.YtmgfajamanakcaaGreatDoor
