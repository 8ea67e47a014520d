/-
  FnParseFails is proved, as the tied card: for every input the law returns true and its arguments read as before. Conditions: those of the card alone.
-/
import Derived.Test.YtmgfajamanakcaaGreatDoorQ48
import Derived.Test.YtmgfajamanakcaaGreatDoorQ49
import Derived.Test.YtmgfajamanakcaaGreatDoorQ39
import Derived.Test.YtmgfajamanakcaaGreatDoorTie
import Derived.Test.YtmgfajamanakcaaGreatDoorCards
import Derived.SevenTiedAt
import Derived.OpenShut
import Derived.LaidLaws
import Derived.MakeChecks
import Derived.ChangeMaps5
namespace Go.Proofs.YtmgfajamanakcaaGreatDoor
set_option linter.unusedSimpArgs false
open Go.ChangeShapes Go.WideShapes Go.ChangeAt Go.RowKit
set_option maxRecDepth 100000
set_option linter.unusedVariables false
theorem pf_lifted (os : Os) (started : os.Started) (H : Type) (enc : TypeId × Value → H) :
    ReturnsInHanded {} Tryz.checked os 7 .any (fun w args => (Rows.fnParseFailsSpec.pre enc Tryz.prog Tryz.f7 [] false w args ∧ laidMetH Tryz.prog Rows.fnParseFailsRow.laid w) ∧ sizedMet enc Tryz.prog Tryz.f7 (OpenSpec.ofChange Rows.fnParseFailsSpec) false w args)
      (Rows.fnParseFailsSpec.post enc Tryz.prog Tryz.f7 false true false false) := by
  refine returnsInHanded_of_change_and (C := Tryz.checked) (X := fun w _ => laidMetH Tryz.prog Rows.fnParseFailsRow.laid w) (fun _ _ _ hh h => h.of_heap hh) own started (by kernel_rfl) Tryz.func7
    (ChangeSpec.witness_shaped (enc := enc) (C := Tryz.checked) (os := os) (X := fun w _ => laidMetH Tryz.prog Rows.fnParseFailsRow.laid w) false (World.doorLaid Tryz.prog 400 os) #[.string ⟨#[]⟩, .int .u8 0] 8 rfl (World.shaped_of_RefB (by kernel_rfl) (by kernel_rfl)) (by kernel_rfl) (by kernel_rfl) (by kernel_rfl) (pf_door os _)) ?_
  intro W base args ds gs before hval0 hW _ _ hL _
  have hval : ∀ (j : Nat) t v, Tryz.f7.params[j]? = some t → args[j]? = some v → Value.okWide Tryz.prog W .any base t v := hval0
  have hW' := hW
  obtain ⟨p, q, hA0, hV, rfl, hfz, hnd⟩ := hW
  have hA : DataW.TrodAll enc Tryz.prog W 0 (fun _ => true) true Tryz.f7.params.toList args.toList ds p := hA0
  rw [Tryz.params7] at hA hval
  obtain ⟨v0, vs0, d0, ds0, p0, q0, hargs, rfl, rfl, h0, r0⟩ := trodAll_cons hA
  obtain ⟨v1, vs1, d1, ds1, p1, q1, rfl, rfl, rfl, h1, r1⟩ := trodAll_cons r0
  obtain ⟨rfl, rfl, rfl⟩ := trodAll_nil r1
  obtain rfl : args = #[v0, v1] := by cases args; simp_all
  obtain ⟨s, rfl, rfl, rfl, hs⟩ := Go.ChangeMaps.open_string Tryz.underlying9 (hval 0 9 v0 rfl rfl) h0
  obtain ⟨b, rfl, rfl, rfl, w1⟩ := open_int Tryz.underlying5 (hval 1 5 v1 rfl rfl) h1
  have e1 := bounds_u8 w1
  obtain ⟨aE, a1, a2, hE⟩ := pf_globals hL
  refine (law7 s b aE a1 a2 W (by omega) (by omega) hE).mono fun e W' ⟨he, hk⟩ => ?_
  subst he
  refine ⟨_, rfl, post_law hW' (hk.below (Nat.le_refl _) (fun _ _ _ h => h)) ?_ rfl (by kernel_rfl) (by kernel_rfl)⟩
  obtain ⟨g1, g2, g3, g4, g5, g6, g7, rfl⟩ := list_seven (trodVars_length hV)
  rfl
theorem pf_holds : Rows.FnParseFailsSaid :=
  OpenClaim.holds_of_wide 7 Tryz.f7 rfl rfl rfl rfl rfl rfl rfl ⟨rfl, rfl, rfl, rfl, rfl⟩ rfl rfl rfl rfl rfl fnParseFails_named Tryz.func7 fnParseFails_closed
    fnParseFails_inst fnParseFails_wrap (fun os started H enc _ => pf_lifted os started H enc)
theorem pf_stand : ([9, 5].all fun u => !Tryz.prog.wantsStandIn u) = true := by kernel_rfl
theorem pf_card : Rows.FnParseFailsCardSaid :=
  Claim7.holds_tied_plain_at .later [] [.data, .data, .data, .sentinel, .sentinel, .sentinel, .data, .sentinel, .sentinel, .data, .data, .data, .data] true (true, "afd8faaed94fe7cf717e9c1444daa084e5465dd580c5b40265b1581e65e19822") true
    pf_holds (fun _ h => by cases h) fnParseFails_text (fun _ h => by cases h) fnParseFails_row_tie rfl ⟨rfl, rfl⟩ fnParseFails_main rfl
    (fun f fn hf hfn => by
      obtain rfl : f = 7 := Option.some.inj (fnParseFails_named.symm.trans hf) |>.symm
      obtain rfl : fn = Tryz.f7 := (Option.some.inj (Tryz.func7.symm.trans hfn)).symm
      exact ⟨fnParseFails_looks, fun j t ht => by
        rw [Tryz.params7] at ht
        have hm : t ∈ [9, 5] := by simpa using Array.mem_of_getElem? ht
        exact (show Tryz.prog.wantsStandIn t = false by simpa using List.all_eq_true.1 pf_stand t hm)⟩)
    fnParseFails_goes
#print axioms pf_card
end Go.Proofs.YtmgfajamanakcaaGreatDoor
