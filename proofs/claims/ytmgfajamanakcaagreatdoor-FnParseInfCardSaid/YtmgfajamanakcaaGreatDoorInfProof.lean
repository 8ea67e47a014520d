/-
  FnParseInf is proved, as the tied card: for every input the law returns true and its arguments read as before. Conditions: those of the card alone.
-/
import Derived.Test.YtmgfajamanakcaaGreatDoorLaw
import Derived.Test.YtmgfajamanakcaaGreatDoorInfWalks
import Derived.Test.YtmgfajamanakcaaGreatDoorInfFacts
import Derived.Test.YtmgfajamanakcaaGreatDoorTie
import Derived.Test.YtmgfajamanakcaaGreatDoorCards
import Derived.SevenTiedAt
import Derived.OpenShut
namespace Go.Proofs.YtmgfajamanakcaaGreatDoor
open Go.ChangeShapes Go.WideShapes Go.ChangeAt Go.RowKit

theorem inf_door (os : Os) (args : Array Value) : laidMetH Tryz.prog Rows.fnParseInfRow.laid ((World.doorLaid Tryz.prog 144 os).forCall (fun _ _ => 0) ⟨#[], args, []⟩).memory :=
  laidMetH_of_parts3 (fuel := 8) (laidMet_of_run' 8 (by kernel_rfl) (by kernel_rfl)) (by kernel_rfl) (by kernel_rfl)

set_option maxRecDepth 100000 in
theorem inf_lifted (os : Os) (started : os.Started) (H : Type) (enc : TypeId × Value → H) :
    ReturnsInHanded {} Tryz.checked os 8 .any (fun w args => (Rows.fnParseInfSpec.pre enc Tryz.prog Tryz.f8 [] false w args ∧ laidMetH Tryz.prog Rows.fnParseInfRow.laid w) ∧ sizedMet enc Tryz.prog Tryz.f8 (OpenSpec.ofChange Rows.fnParseInfSpec) false w args)
      (Rows.fnParseInfSpec.post enc Tryz.prog Tryz.f8 false true false false) := by
  refine returnsInHanded_of_change_and (C := Tryz.checked) (X := fun w _ => laidMetH Tryz.prog Rows.fnParseInfRow.laid w) (fun _ _ _ hh h => h.of_heap hh) own started (by kernel_rfl) Tryz.func8
    (ChangeSpec.witness_shaped (enc := enc) (C := Tryz.checked) (os := os) (X := fun w _ => laidMetH Tryz.prog Rows.fnParseInfRow.laid w) false (World.doorLaid Tryz.prog 144 os) #[.bool false, .int .u8 0, .int .u8 0, .int .u8 0] 8 rfl (World.shaped_of_RefB (by kernel_rfl) (by kernel_rfl)) (by kernel_rfl) (by kernel_rfl) (by kernel_rfl) (inf_door os _)) ?_
  intro W base args ds gs before hval0 hW _ _ _ _
  have hval : ∀ (j : Nat) t v, Tryz.f8.params[j]? = some t → args[j]? = some v → Value.okWide Tryz.prog W .any base t v := hval0
  have hW' := hW
  obtain ⟨p, q, hA0, hV, rfl, hfz, hnd⟩ := hW
  have hA : DataW.TrodAll enc Tryz.prog W 0 (fun _ => true) true Tryz.f8.params.toList args.toList ds p := hA0
  rw [Tryz.params8] at hA hval
  obtain ⟨v0, vs0, d0, ds0, p0, q0, hargs, rfl, rfl, h0, r0⟩ := trodAll_cons hA
  obtain ⟨v1, vs1, d1, ds1, p1, q1, rfl, rfl, rfl, h1, r1⟩ := trodAll_cons r0
  obtain ⟨v2, vs2, d2, ds2, p2, q2, rfl, rfl, rfl, h2, r2⟩ := trodAll_cons r1
  obtain ⟨v3, vs3, d3, ds3, p3, q3, rfl, rfl, rfl, h3, r3⟩ := trodAll_cons r2
  obtain ⟨rfl, rfl, rfl⟩ := trodAll_nil r3
  obtain rfl : args = #[v0, v1, v2, v3] := by cases args; simp_all
  obtain ⟨b0, rfl, rfl, rfl⟩ := open_bool Tryz.underlying4 (hval 0 4 v0 rfl rfl) h0
  obtain ⟨a1, rfl, rfl, rfl, w1⟩ := open_int Tryz.underlying5 (hval 1 5 v1 rfl rfl) h1
  obtain ⟨a2, rfl, rfl, rfl, w2⟩ := open_int Tryz.underlying5 (hval 2 5 v2 rfl rfl) h2
  obtain ⟨a3, rfl, rfl, rfl, w3⟩ := open_int Tryz.underlying5 (hval 3 5 v3 rfl rfl) h3
  have e1 := bounds_u8 w1
  have e2 := bounds_u8 w2
  have e3 := bounds_u8 w3
  refine (law_inf b0 a1 a2 a3 W (by omega) (by omega) (by omega) (by omega) (by omega) (by omega)).mono fun e W' ⟨he, hb⟩ => ?_
  subst he
  refine ⟨_, rfl, post_law hW' hb ?_ rfl (by kernel_rfl) (by kernel_rfl)⟩
  obtain ⟨g1, g2, g3, g4, g5, g6, g7, rfl⟩ := list_seven (trodVars_length hV)
  rfl

theorem inf_holds : Rows.FnParseInfSaid :=
  OpenClaim.holds_of_wide 8 Tryz.f8 rfl rfl rfl rfl rfl rfl rfl ⟨rfl, rfl, rfl, rfl, rfl⟩ rfl rfl rfl rfl rfl fnParseInf_named Tryz.func8 fnParseInf_closed
    fnParseInf_inst fnParseInf_wrap (fun os started H enc _ => inf_lifted os started H enc)
theorem inf_stand : ([4, 5, 5, 5].all fun u => !Tryz.prog.wantsStandIn u) = true := by kernel_rfl
theorem inf_card : Rows.FnParseInfCardSaid :=
  Claim7.holds_tied_plain_at .later [] [.data, .data, .data, .sentinel, .sentinel, .sentinel, .data, .sentinel, .sentinel, .data, .data, .data, .data] true (true, "afd8faaed94fe7cf717e9c1444daa084e5465dd580c5b40265b1581e65e19822") true
    inf_holds (fun _ h => by cases h) fnParseInf_text (fun _ h => by cases h) fnParseInf_row_tie rfl ⟨rfl, rfl⟩ fnParseInf_main rfl
    (fun f fn hf hfn => by
      obtain rfl : f = 8 := Option.some.inj (fnParseInf_named.symm.trans hf) |>.symm
      obtain rfl : fn = Tryz.f8 := (Option.some.inj (Tryz.func8.symm.trans hfn)).symm
      exact ⟨fnParseInf_looks, fun j t ht => by
        rw [Tryz.params8] at ht
        have hm : t ∈ [4, 5, 5, 5] := by simpa using Array.mem_of_getElem? ht
        exact (show Tryz.prog.wantsStandIn t = false by simpa using List.all_eq_true.1 inf_stand t hm)⟩)
    fnParseInf_goes
#print axioms inf_card
end Go.Proofs.YtmgfajamanakcaaGreatDoor
