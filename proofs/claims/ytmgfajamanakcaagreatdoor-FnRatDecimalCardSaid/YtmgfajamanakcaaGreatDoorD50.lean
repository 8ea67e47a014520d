/- Part of the proof of FnParse: what the functions that it reaches do, as contracts. Conditions: those that each theorem names. -/
import Derived.Test.YtmgfajamanakcaaGreatDoorD40
import Derived.Test.YtmgfajamanakcaaGreatDoorD49
import Derived.Test.YtmgfajamanakcaaGreatDoorD01
import Derived.Test.YtmgfajamanakcaaGreatDoorTie
import Derived.Test.YtmgfajamanakcaaGreatDoorCards
import Derived.SevenTiedAt
import Derived.OpenShut
import Derived.LaidLaws
import Derived.MakeChecks
import Derived.ChangeMaps5
namespace Go.Proofs.YtmgfajamanakcaaGreatDoor
set_option linter.unusedVariables false
set_option linter.unusedSimpArgs false
open Go.ChangeShapes Go.WideShapes Go.ChangeAt Go.RowKit
set_option maxRecDepth 100000
theorem rd_door (os : Os) (args : Array Value) : laidMetH Tryz.prog Rows.fnRatDecimalRow.laid ((World.doorLaid Tryz.prog 400 os).forCall (fun _ _ => 0) ⟨#[], args, []⟩).memory :=
  laidMetH_of_parts3 (fuel := 8) (laidMet_of_run' 8 (by kernel_rfl) (by kernel_rfl)) (by kernel_rfl) (by kernel_rfl)
theorem rd_globals {w : World} (h : laidMetH Tryz.prog Rows.fnRatDecimalRow.laid w) : Glob w := by
  rw [MakeChecks.laidMetH_plain _ _ _ (by kernel_rfl)] at h
  exact glob_of h (by unfold Rows.fnRatDecimalRow Rows.laid_loop_example_pub_g03235_pub_bigall_leafSize; simp) (by unfold Rows.fnRatDecimalRow Rows.laid_loop_example_pub_g03235_pub_bigall_divRecursiveThreshold; simp) (by unfold Rows.fnRatDecimalRow Rows.laid_loop_example_pub_g03235_pub_bigall_karatsubaThreshold; simp) (by unfold Rows.fnRatDecimalRow Rows.laid_loop_example_pub_g03235_pub_bigall_basicSqrThreshold; simp) (by unfold Rows.fnRatDecimalRow Rows.laid_loop_example_pub_g03235_pub_bigall_karatsubaSqrThreshold; simp)
theorem chg_low1 {Z : Zone} {w w' : World} (h : Chg Z w w') {B : Nat} (hB : B ≤ w.heap.size) (hZ : ∀ b o, b < B → ¬ Z b o) : Below B w w' :=
  ⟨h.os, h.tape, h.output, h.size, fun b hb => h.same b (Nat.lt_of_lt_of_le hb hB) (fun o => hZ b o hb)⟩
theorem rd_lifted (os : Os) (started : os.Started) (H : Type) (enc : TypeId × Value → H) :
    ReturnsInHanded {} Tryz.checked os 5 .any (fun w args => (Rows.fnRatDecimalSpec.pre enc Tryz.prog Tryz.f5 [] false w args ∧ laidMetH Tryz.prog Rows.fnRatDecimalRow.laid w) ∧ sizedMet enc Tryz.prog Tryz.f5 (OpenSpec.ofChange Rows.fnRatDecimalSpec) false w args)
      (Rows.fnRatDecimalSpec.post enc Tryz.prog Tryz.f5 false true false false) := by
  refine returnsInHanded_of_change_and (C := Tryz.checked) (X := fun w _ => laidMetH Tryz.prog Rows.fnRatDecimalRow.laid w) (fun _ _ _ hh h => h.of_heap hh) own started (by kernel_rfl) Tryz.func5
    (ChangeSpec.witness_shaped (enc := enc) (C := Tryz.checked) (os := os) (X := fun w _ => laidMetH Tryz.prog Rows.fnRatDecimalRow.laid w) false (World.doorLaid Tryz.prog 400 os) #[.agg #[.bool false, .slice none 0 0, .slice none 0 0], .int .u8 0] 8 rfl (World.shaped_of_RefB (by kernel_rfl) (by kernel_rfl)) (by kernel_rfl) (by kernel_rfl) (by kernel_rfl) (rd_door os _)) ?_
  intro W base args ds gs before hval0 hW _ _ hL _
  have hval : ∀ (j : Nat) t v, Tryz.f5.params[j]? = some t → args[j]? = some v → Value.okWide Tryz.prog W .any base t v := hval0
  have hW' := hW
  obtain ⟨p, q, hA0, hV, rfl, hfz, hnd⟩ := hW
  have hA : DataW.TrodAll enc Tryz.prog W 0 (fun _ => true) true Tryz.f5.params.toList args.toList ds p := hA0
  rw [Tryz.params5] at hA hval
  obtain ⟨v0, vs0, d0, ds0, p0, q0, hargs, rfl, rfl, h0, r0⟩ := trodAll_cons hA
  obtain ⟨v1, vs1, d1, ds1, p1, q1, rfl, rfl, rfl, h1, r1⟩ := trodAll_cons r0
  obtain ⟨rfl, rfl, rfl⟩ := trodAll_nil r1
  obtain rfl : args = #[v0, v1] := by cases args; simp_all
  obtain ⟨xn, ua, un, uc, U, da, dn, dc, D, rfl, hu, hU, hd, hD⟩ := open_frac (hval 0 31 v0 rfl rfl) h0
  obtain ⟨kk, rfl, rfl, rfl, w1⟩ := open_int Tryz.underlying5 (hval 1 5 v1 rfl rfl) h1
  have e1 := bounds_u8 w1
  refine (law5 xn ua un uc U da dn dc D kk W (by omega) (by omega) hu hU hd hD (rd_globals hL)).mono fun e W' ⟨he, hk⟩ => ?_
  subst he
  refine ⟨_, rfl, post_law hW' (chg_low1 hk (Nat.le_refl _) (fun _ _ _ h => h)) ?_ rfl (by kernel_rfl) (by kernel_rfl)⟩
  obtain ⟨g1, g2, g3, g4, g5, rfl⟩ := list_five (trodVars_length hV)
  rfl
theorem rd_holds : Rows.FnRatDecimalSaid :=
  OpenClaim.holds_of_wide 5 Tryz.f5 rfl rfl rfl rfl rfl rfl rfl ⟨rfl, rfl, rfl, rfl, rfl⟩ rfl rfl rfl rfl rfl fnRatDecimal_named Tryz.func5 fnRatDecimal_closed
    fnRatDecimal_inst fnRatDecimal_wrap (fun os started H enc _ => rd_lifted os started H enc)
theorem rd_stand : ([31, 5].all fun u => !Tryz.prog.wantsStandIn u) = true := by kernel_rfl
theorem rd_card : Rows.FnRatDecimalCardSaid :=
  Claim7.holds_tied_plain_at .later [] [.data, .data, .data, .data, .data, .data, .data] true (true, "afd8faaed94fe7cf717e9c1444daa084e5465dd580c5b40265b1581e65e19822") true
    rd_holds (fun _ h => by cases h) fnRatDecimal_text (fun _ h => by cases h) fnRatDecimal_row_tie rfl ⟨rfl, rfl⟩ fnRatDecimal_main rfl
    (fun f fn hf hfn => by
      obtain rfl : f = 5 := Option.some.inj (fnRatDecimal_named.symm.trans hf) |>.symm
      obtain rfl : fn = Tryz.f5 := (Option.some.inj (Tryz.func5.symm.trans hfn)).symm
      exact ⟨fnRatDecimal_looks, fun j t ht => by
        rw [Tryz.params5] at ht
        have hm : t ∈ [31, 5] := by simpa using Array.mem_of_getElem? ht
        exact (show Tryz.prog.wantsStandIn t = false by simpa using List.all_eq_true.1 rd_stand t hm)⟩)
    fnRatDecimal_goes
#print axioms rd_card
end Go.Proofs.YtmgfajamanakcaaGreatDoor
