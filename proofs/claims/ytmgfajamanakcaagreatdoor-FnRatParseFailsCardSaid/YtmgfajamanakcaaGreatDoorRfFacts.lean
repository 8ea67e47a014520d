/-
  fnRatParseFails: the closed facts of its row and card, each by the kernel. No condition.
-/
import Derived.Test.YtmgfajamanakcaaGreatDoorRows
import Derived.JoinedOf
import Derived.SevenTiedAt
namespace Go.Proofs.YtmgfajamanakcaaGreatDoor
set_option maxRecDepth 100000
theorem fnRatParseFails_k0 : (Rows.fnRatParseFailsRow.wf (OpenSpec.ofChange Rows.fnRatParseFailsSpec)) = true := by kernel_rfl
theorem fnRatParseFails_k1 : (laidOutB Tryz.prog) = true := by kernel_rfl
theorem fnRatParseFails_k2 : (mapsRowed Tryz.prog) = true := by kernel_rfl
theorem fnRatParseFails_k3 : (Tryz.f10.params.all (Tryz.prog.readableRec ·)) = true := by kernel_rfl
theorem fnRatParseFails_k4 : (namedTie Tryz.prog Rows.fnRatParseFailsRow.named Rows.fnRatParseFailsSpec.vars) = true := by kernel_rfl
theorem fnRatParseFails_k5 : ((Rows.fnRatParseFailsRow.stops == [])) = true := by kernel_rfl
theorem fnRatParseFails_k6 : ((Tryz.prog.stops == [])) = true := by kernel_rfl
theorem fnRatParseFails_k7 : ((Rows.fnRatParseFailsRow.knobs == [])) = true := by kernel_rfl
theorem fnRatParseFails_k8 : ((Tryz.prog.stopKnobs == [])) = true := by kernel_rfl
theorem fnRatParseFails_k9 : ((Rows.fnRatParseFailsRow.inPlace == Tryz.prog.inPlace 10)) = true := by kernel_rfl
theorem fnRatParseFails_k10 : ((Rows.fnRatParseFailsRow.unfollowed == Tryz.prog.unfollowed 10)) = true := by kernel_rfl
theorem fnRatParseFails_k11 : ((Rows.fnRatParseFailsRow.recurses == Tryz.prog.recurses 10)) = true := by kernel_rfl
theorem fnRatParseFails_k12 : ((Rows.fnRatParseFailsRow.named == Tryz.prog.varsNamed 10)) = true := by kernel_rfl
theorem fnRatParseFails_k13 : ((Rows.fnRatParseFailsRow.maps == (Tryz.f10.params.toList ++ Rows.fnRatParseFailsSpec.plain.varTypes Tryz.prog).any (Tryz.prog.mapsRec ·))) = true := by kernel_rfl
theorem fnRatParseFails_k14 : ((Rows.fnRatParseFailsRow.ifaces == (Tryz.f10.params.toList ++ Rows.fnRatParseFailsSpec.plain.varTypes Tryz.prog).any (Tryz.prog.ifacesRec ·))) = true := by kernel_rfl
theorem fnRatParseFails_k15 : ((Rows.fnRatParseFailsRow.mapsOut == Tryz.prog.mapsAmong Tryz.f10.resultTypes.toList)) = true := by kernel_rfl
theorem fnRatParseFails_k16 : ((Rows.fnRatParseFailsRow.loops == (Tryz.f10.params.toList ++ Rows.fnRatParseFailsSpec.plain.varTypes Tryz.prog).any (Tryz.prog.loopsFrom ·))) = true := by kernel_rfl
theorem fnRatParseFails_k17 : ((Rows.fnRatParseFailsRow.wideKeys == (Tryz.f10.params.toList ++ Rows.fnRatParseFailsSpec.plain.varTypes Tryz.prog ++ Tryz.f10.resultTypes.toList).any (Tryz.prog.wideKeysFrom ·))) = true := by kernel_rfl
theorem fnRatParseFails_k18 : (Rows.fnRatParseFailsSpec.vars.all (Tryz.prog.varReadable ·)) = true := by kernel_rfl
theorem fnRatParseFails_k19 : (Tryz.f10.resultTypes.all (fun t => Tryz.prog.readableRec t && decide (t < Tryz.prog.types.size))) = true := by kernel_rfl
theorem fnRatParseFails_k20 : ((Rows.fnRatParseFailsRow.ifacesOut == Tryz.f10.resultTypes.toList.any (Tryz.prog.ifacesRec ·))) = true := by kernel_rfl
theorem fnRatParseFails_k21 : ((Rows.fnRatParseFailsRow.loopsOut == Tryz.f10.resultTypes.toList.any (Tryz.prog.loopsFrom ·))) = true := by kernel_rfl
theorem fnRatParseFails_k22 : ((Rows.fnRatParseFailsRow.plainKeys == Tryz.prog.plainKeys)) = true := by kernel_rfl
theorem fnRatParseFails_k23 : (Rows.fnRatParseFailsRow.shortTexts.isNone) = true := by kernel_rfl
theorem fnRatParseFails_k24 : (Tryz.prog.stopsHeard) = true := by kernel_rfl
theorem fnRatParseFails_k25 : (Tryz.prog.mayEnter) = true := by kernel_rfl
theorem fnRatParseFails_k26 : ((Rows.fnRatParseFailsRow.lifted == Tryz.prog.liftsFinal)) = true := by kernel_rfl
theorem fnRatParseFails_k27 : ((Tryz.prog.make == some Rows.fnRatParseFailsRow.make)) = true := by kernel_rfl
theorem fnRatParseFails_k28 : ((Rows.fnRatParseFailsRow.kinds == (if Rows.fnRatParseFailsRow.domain.isEmpty then [] else Tryz.f10.params.toList.map fun t => match Tryz.prog.underlying t with | some (.int k) => some k | _ => none))) = true := by kernel_rfl
theorem fnRatParseFails_k29 : ((Rows.fnRatParseFailsRow.pinned == Rows.fnRatParseFailsRow.pinnedBy)) = true := by kernel_rfl
theorem fnRatParseFails_k30 : ((Rows.fnRatParseFailsRow.veiled == (Tryz.f10.params.toList ++ Rows.fnRatParseFailsSpec.plain.varTypes Tryz.prog ++ Tryz.f10.resultTypes.toList).any (Tryz.prog.veiledRec ·))) = true := by kernel_rfl
theorem fnRatParseFails_k31 : (Rows.fnRatParseFailsRow.veiledFits Tryz.prog Tryz.f10.params.toList (Tryz.f10.params.toList ++ Rows.fnRatParseFailsSpec.plain.varTypes Tryz.prog ++ Tryz.f10.resultTypes.toList)) = true := by kernel_rfl
theorem fnRatParseFails_closed : joinedFacts Tryz.prog 10 Tryz.f10 Rows.fnRatParseFailsSpec Rows.fnRatParseFailsRow = true := by
  unfold joinedFacts
  simp only [Bool.and_eq_true]
  exact ⟨⟨⟨⟨⟨⟨⟨⟨⟨⟨⟨⟨⟨⟨⟨⟨⟨⟨⟨⟨⟨⟨⟨⟨⟨⟨⟨⟨⟨⟨⟨fnRatParseFails_k0, fnRatParseFails_k1⟩, fnRatParseFails_k2⟩, fnRatParseFails_k3⟩, fnRatParseFails_k4⟩, fnRatParseFails_k5⟩, fnRatParseFails_k6⟩, fnRatParseFails_k7⟩, fnRatParseFails_k8⟩, fnRatParseFails_k9⟩, fnRatParseFails_k10⟩, fnRatParseFails_k11⟩, fnRatParseFails_k12⟩, fnRatParseFails_k13⟩, fnRatParseFails_k14⟩, fnRatParseFails_k15⟩, fnRatParseFails_k16⟩, fnRatParseFails_k17⟩, fnRatParseFails_k18⟩, fnRatParseFails_k19⟩, fnRatParseFails_k20⟩, fnRatParseFails_k21⟩, fnRatParseFails_k22⟩, fnRatParseFails_k23⟩, fnRatParseFails_k24⟩, fnRatParseFails_k25⟩, fnRatParseFails_k26⟩, fnRatParseFails_k27⟩, fnRatParseFails_k28⟩, fnRatParseFails_k29⟩, fnRatParseFails_k30⟩, fnRatParseFails_k31⟩
theorem fnRatParseFails_named : Tryz.prog.funcNamed Rows.fnRatParseFailsRow.func = some 10 := by kernel_rfl
theorem fnRatParseFails_inst : Func.isInstance Tryz.prog Tryz.f10 Rows.fnRatParseFailsRow.origin Rows.fnRatParseFailsRow.targs := of_decide_eq_true (by kernel_rfl)
theorem fnRatParseFails_wrap : Func.isWrapper Tryz.prog Tryz.f10 Rows.fnRatParseFailsRow.wrapper Rows.fnRatParseFailsRow.mainSum := by unfold Func.isWrapper; rw [if_neg (of_decide_eq_false (by kernel_rfl))]; exact ⟨rfl, rfl⟩
theorem fnRatParseFails_text : Rows.fnRatParseFailsRow.wfByText (OpenSpec.ofChange Rows.fnRatParseFailsSpec) = true := by kernel_rfl
theorem fnRatParseFails_main : Tryz.prog.mainIs = some (true, "afd8faaed94fe7cf717e9c1444daa084e5465dd580c5b40265b1581e65e19822".toList) := by kernel_rfl
theorem fnRatParseFails_looks : true = Tryz.prog.looks [] := by kernel_rfl
theorem fnRatParseFails_goes : false = Rows.fnRatParseFailsRow.goesBy Tryz.prog := by kernel_rfl
end Go.Proofs.YtmgfajamanakcaaGreatDoor

