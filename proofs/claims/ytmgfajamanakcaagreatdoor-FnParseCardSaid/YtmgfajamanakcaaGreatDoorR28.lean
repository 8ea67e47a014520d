/- Part of the proof of FnParse: what the functions that it reaches do, as contracts. Conditions: those that each theorem names. -/
import Derived.Test.YtmgfajamanakcaaGreatDoorRows
import Derived.JoinedOf
import Derived.SevenTiedAt
namespace Go.Proofs.YtmgfajamanakcaaGreatDoor
set_option linter.unusedVariables false
set_option linter.unusedSimpArgs false
set_option maxRecDepth 100000
theorem fnParse_k0 : (Rows.fnParseRow.wf (OpenSpec.ofChange Rows.fnParseSpec)) = true := by kernel_rfl
theorem fnParse_k1 : (laidOutB Tryz.prog) = true := by kernel_rfl
theorem fnParse_k2 : (mapsRowed Tryz.prog) = true := by kernel_rfl
theorem fnParse_k3 : (Tryz.f6.params.all (Tryz.prog.readableRec ·)) = true := by kernel_rfl
theorem fnParse_k4 : (namedTie Tryz.prog Rows.fnParseRow.named Rows.fnParseSpec.vars) = true := by kernel_rfl
theorem fnParse_k5 : ((Rows.fnParseRow.stops == [])) = true := by kernel_rfl
theorem fnParse_k6 : ((Tryz.prog.stops == [])) = true := by kernel_rfl
theorem fnParse_k7 : ((Rows.fnParseRow.knobs == [])) = true := by kernel_rfl
theorem fnParse_k8 : ((Tryz.prog.stopKnobs == [])) = true := by kernel_rfl
theorem fnParse_k9 : ((Rows.fnParseRow.inPlace == Tryz.prog.inPlace 6)) = true := by kernel_rfl
theorem fnParse_k10 : ((Rows.fnParseRow.unfollowed == Tryz.prog.unfollowed 6)) = true := by kernel_rfl
theorem fnParse_k11 : ((Rows.fnParseRow.recurses == Tryz.prog.recurses 6)) = true := by kernel_rfl
theorem fnParse_k12 : ((Rows.fnParseRow.named == Tryz.prog.varsNamed 6)) = true := by kernel_rfl
theorem fnParse_k13 : ((Rows.fnParseRow.maps == (Tryz.f6.params.toList ++ Rows.fnParseSpec.plain.varTypes Tryz.prog).any (Tryz.prog.mapsRec ·))) = true := by kernel_rfl
theorem fnParse_k14 : ((Rows.fnParseRow.ifaces == (Tryz.f6.params.toList ++ Rows.fnParseSpec.plain.varTypes Tryz.prog).any (Tryz.prog.ifacesRec ·))) = true := by kernel_rfl
theorem fnParse_k15 : ((Rows.fnParseRow.mapsOut == Tryz.prog.mapsAmong Tryz.f6.resultTypes.toList)) = true := by kernel_rfl
theorem fnParse_k16 : ((Rows.fnParseRow.loops == (Tryz.f6.params.toList ++ Rows.fnParseSpec.plain.varTypes Tryz.prog).any (Tryz.prog.loopsFrom ·))) = true := by kernel_rfl
theorem fnParse_k17 : ((Rows.fnParseRow.wideKeys == (Tryz.f6.params.toList ++ Rows.fnParseSpec.plain.varTypes Tryz.prog ++ Tryz.f6.resultTypes.toList).any (Tryz.prog.wideKeysFrom ·))) = true := by kernel_rfl
theorem fnParse_k18 : (Rows.fnParseSpec.vars.all (Tryz.prog.varReadable ·)) = true := by kernel_rfl
theorem fnParse_k19 : (Tryz.f6.resultTypes.all (fun t => Tryz.prog.readableRec t && decide (t < Tryz.prog.types.size))) = true := by kernel_rfl
theorem fnParse_k20 : ((Rows.fnParseRow.ifacesOut == Tryz.f6.resultTypes.toList.any (Tryz.prog.ifacesRec ·))) = true := by kernel_rfl
theorem fnParse_k21 : ((Rows.fnParseRow.loopsOut == Tryz.f6.resultTypes.toList.any (Tryz.prog.loopsFrom ·))) = true := by kernel_rfl
theorem fnParse_k22 : ((Rows.fnParseRow.plainKeys == Tryz.prog.plainKeys)) = true := by kernel_rfl
theorem fnParse_k23 : (Rows.fnParseRow.shortTexts.isNone) = true := by kernel_rfl
theorem fnParse_k24 : (Tryz.prog.stopsHeard) = true := by kernel_rfl
theorem fnParse_k25 : (Tryz.prog.mayEnter) = true := by kernel_rfl
theorem fnParse_k26 : ((Rows.fnParseRow.lifted == Tryz.prog.liftsFinal)) = true := by kernel_rfl
theorem fnParse_k27 : ((Tryz.prog.make == some Rows.fnParseRow.make)) = true := by kernel_rfl
theorem fnParse_k28 : ((Rows.fnParseRow.kinds == (if Rows.fnParseRow.domain.isEmpty then [] else Tryz.f6.params.toList.map fun t => match Tryz.prog.underlying t with | some (.int k) => some k | _ => none))) = true := by kernel_rfl
theorem fnParse_k29 : ((Rows.fnParseRow.pinned == Rows.fnParseRow.pinnedBy)) = true := by kernel_rfl
theorem fnParse_k30 : ((Rows.fnParseRow.veiled == (Tryz.f6.params.toList ++ Rows.fnParseSpec.plain.varTypes Tryz.prog ++ Tryz.f6.resultTypes.toList).any (Tryz.prog.veiledRec ·))) = true := by kernel_rfl
theorem fnParse_k31 : (Rows.fnParseRow.veiledFits Tryz.prog Tryz.f6.params.toList (Tryz.f6.params.toList ++ Rows.fnParseSpec.plain.varTypes Tryz.prog ++ Tryz.f6.resultTypes.toList)) = true := by kernel_rfl
theorem fnParse_closed : joinedFacts Tryz.prog 6 Tryz.f6 Rows.fnParseSpec Rows.fnParseRow = true := by
  unfold joinedFacts
  simp only [Bool.and_eq_true]
  exact ⟨⟨⟨⟨⟨⟨⟨⟨⟨⟨⟨⟨⟨⟨⟨⟨⟨⟨⟨⟨⟨⟨⟨⟨⟨⟨⟨⟨⟨⟨⟨fnParse_k0, fnParse_k1⟩, fnParse_k2⟩, fnParse_k3⟩, fnParse_k4⟩, fnParse_k5⟩, fnParse_k6⟩, fnParse_k7⟩, fnParse_k8⟩, fnParse_k9⟩, fnParse_k10⟩, fnParse_k11⟩, fnParse_k12⟩, fnParse_k13⟩, fnParse_k14⟩, fnParse_k15⟩, fnParse_k16⟩, fnParse_k17⟩, fnParse_k18⟩, fnParse_k19⟩, fnParse_k20⟩, fnParse_k21⟩, fnParse_k22⟩, fnParse_k23⟩, fnParse_k24⟩, fnParse_k25⟩, fnParse_k26⟩, fnParse_k27⟩, fnParse_k28⟩, fnParse_k29⟩, fnParse_k30⟩, fnParse_k31⟩
theorem fnParse_named : Tryz.prog.funcNamed Rows.fnParseRow.func = some 6 := by kernel_rfl
theorem fnParse_inst : Func.isInstance Tryz.prog Tryz.f6 Rows.fnParseRow.origin Rows.fnParseRow.targs := of_decide_eq_true (by kernel_rfl)
theorem fnParse_wrap : Func.isWrapper Tryz.prog Tryz.f6 Rows.fnParseRow.wrapper Rows.fnParseRow.mainSum := by unfold Func.isWrapper; rw [if_neg (of_decide_eq_false (by kernel_rfl))]; exact ⟨rfl, rfl⟩
theorem fnParse_text : Rows.fnParseRow.wfByText (OpenSpec.ofChange Rows.fnParseSpec) = true := by kernel_rfl
theorem fnParse_main : Tryz.prog.mainIs = some (true, "afd8faaed94fe7cf717e9c1444daa084e5465dd580c5b40265b1581e65e19822".toList) := by kernel_rfl
theorem fnParse_looks : true = Tryz.prog.looks [] := by kernel_rfl
theorem fnParse_goes : false = Rows.fnParseRow.goesBy Tryz.prog := by kernel_rfl
end Go.Proofs.YtmgfajamanakcaaGreatDoor

