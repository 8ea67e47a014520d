/-
  fnParseFails: the closed facts of its row and card, each by the kernel. No condition.
-/
import Derived.Test.YtmgfajamanakcaaGreatDoorRows
import Derived.JoinedOf
import Derived.SevenTiedAt
namespace Go.Proofs.YtmgfajamanakcaaGreatDoor
set_option maxRecDepth 100000
theorem fnParseFails_k0 : (Rows.fnParseFailsRow.wf (OpenSpec.ofChange Rows.fnParseFailsSpec)) = true := by kernel_rfl
theorem fnParseFails_k1 : (laidOutB Tryz.prog) = true := by kernel_rfl
theorem fnParseFails_k2 : (mapsRowed Tryz.prog) = true := by kernel_rfl
theorem fnParseFails_k3 : (Tryz.f7.params.all (Tryz.prog.readableRec ·)) = true := by kernel_rfl
theorem fnParseFails_k4 : (namedTie Tryz.prog Rows.fnParseFailsRow.named Rows.fnParseFailsSpec.vars) = true := by kernel_rfl
theorem fnParseFails_k5 : ((Rows.fnParseFailsRow.stops == [])) = true := by kernel_rfl
theorem fnParseFails_k6 : ((Tryz.prog.stops == [])) = true := by kernel_rfl
theorem fnParseFails_k7 : ((Rows.fnParseFailsRow.knobs == [])) = true := by kernel_rfl
theorem fnParseFails_k8 : ((Tryz.prog.stopKnobs == [])) = true := by kernel_rfl
theorem fnParseFails_k9 : ((Rows.fnParseFailsRow.inPlace == Tryz.prog.inPlace 7)) = true := by kernel_rfl
theorem fnParseFails_k10 : ((Rows.fnParseFailsRow.unfollowed == Tryz.prog.unfollowed 7)) = true := by kernel_rfl
theorem fnParseFails_k11 : ((Rows.fnParseFailsRow.recurses == Tryz.prog.recurses 7)) = true := by kernel_rfl
theorem fnParseFails_k12 : ((Rows.fnParseFailsRow.named == Tryz.prog.varsNamed 7)) = true := by kernel_rfl
theorem fnParseFails_k13 : ((Rows.fnParseFailsRow.maps == (Tryz.f7.params.toList ++ Rows.fnParseFailsSpec.plain.varTypes Tryz.prog).any (Tryz.prog.mapsRec ·))) = true := by kernel_rfl
theorem fnParseFails_k14 : ((Rows.fnParseFailsRow.ifaces == (Tryz.f7.params.toList ++ Rows.fnParseFailsSpec.plain.varTypes Tryz.prog).any (Tryz.prog.ifacesRec ·))) = true := by kernel_rfl
theorem fnParseFails_k15 : ((Rows.fnParseFailsRow.mapsOut == Tryz.prog.mapsAmong Tryz.f7.resultTypes.toList)) = true := by kernel_rfl
theorem fnParseFails_k16 : ((Rows.fnParseFailsRow.loops == (Tryz.f7.params.toList ++ Rows.fnParseFailsSpec.plain.varTypes Tryz.prog).any (Tryz.prog.loopsFrom ·))) = true := by kernel_rfl
theorem fnParseFails_k17 : ((Rows.fnParseFailsRow.wideKeys == (Tryz.f7.params.toList ++ Rows.fnParseFailsSpec.plain.varTypes Tryz.prog ++ Tryz.f7.resultTypes.toList).any (Tryz.prog.wideKeysFrom ·))) = true := by kernel_rfl
theorem fnParseFails_k18 : (Rows.fnParseFailsSpec.vars.all (Tryz.prog.varReadable ·)) = true := by kernel_rfl
theorem fnParseFails_k19 : (Tryz.f7.resultTypes.all (fun t => Tryz.prog.readableRec t && decide (t < Tryz.prog.types.size))) = true := by kernel_rfl
theorem fnParseFails_k20 : ((Rows.fnParseFailsRow.ifacesOut == Tryz.f7.resultTypes.toList.any (Tryz.prog.ifacesRec ·))) = true := by kernel_rfl
theorem fnParseFails_k21 : ((Rows.fnParseFailsRow.loopsOut == Tryz.f7.resultTypes.toList.any (Tryz.prog.loopsFrom ·))) = true := by kernel_rfl
theorem fnParseFails_k22 : ((Rows.fnParseFailsRow.plainKeys == Tryz.prog.plainKeys)) = true := by kernel_rfl
theorem fnParseFails_k23 : (Rows.fnParseFailsRow.shortTexts.isNone) = true := by kernel_rfl
theorem fnParseFails_k24 : (Tryz.prog.stopsHeard) = true := by kernel_rfl
theorem fnParseFails_k25 : (Tryz.prog.mayEnter) = true := by kernel_rfl
theorem fnParseFails_k26 : ((Rows.fnParseFailsRow.lifted == Tryz.prog.liftsFinal)) = true := by kernel_rfl
theorem fnParseFails_k27 : ((Tryz.prog.make == some Rows.fnParseFailsRow.make)) = true := by kernel_rfl
theorem fnParseFails_k28 : ((Rows.fnParseFailsRow.kinds == (if Rows.fnParseFailsRow.domain.isEmpty then [] else Tryz.f7.params.toList.map fun t => match Tryz.prog.underlying t with | some (.int k) => some k | _ => none))) = true := by kernel_rfl
theorem fnParseFails_k29 : ((Rows.fnParseFailsRow.pinned == Rows.fnParseFailsRow.pinnedBy)) = true := by kernel_rfl
theorem fnParseFails_k30 : ((Rows.fnParseFailsRow.veiled == (Tryz.f7.params.toList ++ Rows.fnParseFailsSpec.plain.varTypes Tryz.prog ++ Tryz.f7.resultTypes.toList).any (Tryz.prog.veiledRec ·))) = true := by kernel_rfl
theorem fnParseFails_k31 : (Rows.fnParseFailsRow.veiledFits Tryz.prog Tryz.f7.params.toList (Tryz.f7.params.toList ++ Rows.fnParseFailsSpec.plain.varTypes Tryz.prog ++ Tryz.f7.resultTypes.toList)) = true := by kernel_rfl
theorem fnParseFails_closed : joinedFacts Tryz.prog 7 Tryz.f7 Rows.fnParseFailsSpec Rows.fnParseFailsRow = true := by
  unfold joinedFacts
  simp only [Bool.and_eq_true]
  exact ⟨⟨⟨⟨⟨⟨⟨⟨⟨⟨⟨⟨⟨⟨⟨⟨⟨⟨⟨⟨⟨⟨⟨⟨⟨⟨⟨⟨⟨⟨⟨fnParseFails_k0, fnParseFails_k1⟩, fnParseFails_k2⟩, fnParseFails_k3⟩, fnParseFails_k4⟩, fnParseFails_k5⟩, fnParseFails_k6⟩, fnParseFails_k7⟩, fnParseFails_k8⟩, fnParseFails_k9⟩, fnParseFails_k10⟩, fnParseFails_k11⟩, fnParseFails_k12⟩, fnParseFails_k13⟩, fnParseFails_k14⟩, fnParseFails_k15⟩, fnParseFails_k16⟩, fnParseFails_k17⟩, fnParseFails_k18⟩, fnParseFails_k19⟩, fnParseFails_k20⟩, fnParseFails_k21⟩, fnParseFails_k22⟩, fnParseFails_k23⟩, fnParseFails_k24⟩, fnParseFails_k25⟩, fnParseFails_k26⟩, fnParseFails_k27⟩, fnParseFails_k28⟩, fnParseFails_k29⟩, fnParseFails_k30⟩, fnParseFails_k31⟩
theorem fnParseFails_named : Tryz.prog.funcNamed Rows.fnParseFailsRow.func = some 7 := by kernel_rfl
theorem fnParseFails_inst : Func.isInstance Tryz.prog Tryz.f7 Rows.fnParseFailsRow.origin Rows.fnParseFailsRow.targs := of_decide_eq_true (by kernel_rfl)
theorem fnParseFails_wrap : Func.isWrapper Tryz.prog Tryz.f7 Rows.fnParseFailsRow.wrapper Rows.fnParseFailsRow.mainSum := by unfold Func.isWrapper; rw [if_neg (of_decide_eq_false (by kernel_rfl))]; exact ⟨rfl, rfl⟩
theorem fnParseFails_text : Rows.fnParseFailsRow.wfByText (OpenSpec.ofChange Rows.fnParseFailsSpec) = true := by kernel_rfl
theorem fnParseFails_main : Tryz.prog.mainIs = some (true, "afd8faaed94fe7cf717e9c1444daa084e5465dd580c5b40265b1581e65e19822".toList) := by kernel_rfl
theorem fnParseFails_looks : true = Tryz.prog.looks [] := by kernel_rfl
theorem fnParseFails_goes : false = Rows.fnParseFailsRow.goesBy Tryz.prog := by kernel_rfl
end Go.Proofs.YtmgfajamanakcaaGreatDoor

