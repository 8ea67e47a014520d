/- Part of the proof of FnParse: what the functions that it reaches do, as contracts. Conditions: those that each theorem names. -/
import Derived.Test.YtmgfajamanakcaaGreatDoorRows
import Derived.JoinedOf
import Derived.SevenTiedAt
namespace Go.Proofs.YtmgfajamanakcaaGreatDoor
set_option linter.unusedVariables false
set_option linter.unusedSimpArgs false
set_option maxRecDepth 100000
theorem fnRatText_k0 : (Rows.fnRatTextRow.wf (OpenSpec.ofChange Rows.fnRatTextSpec)) = true := by kernel_rfl
theorem fnRatText_k1 : (laidOutB Tryz.prog) = true := by kernel_rfl
theorem fnRatText_k2 : (mapsRowed Tryz.prog) = true := by kernel_rfl
theorem fnRatText_k3 : (Tryz.f4.params.all (Tryz.prog.readableRec ·)) = true := by kernel_rfl
theorem fnRatText_k4 : (namedTie Tryz.prog Rows.fnRatTextRow.named Rows.fnRatTextSpec.vars) = true := by kernel_rfl
theorem fnRatText_k5 : ((Rows.fnRatTextRow.stops == [])) = true := by kernel_rfl
theorem fnRatText_k6 : ((Tryz.prog.stops == [])) = true := by kernel_rfl
theorem fnRatText_k7 : ((Rows.fnRatTextRow.knobs == [])) = true := by kernel_rfl
theorem fnRatText_k8 : ((Tryz.prog.stopKnobs == [])) = true := by kernel_rfl
theorem fnRatText_k9 : ((Rows.fnRatTextRow.inPlace == Tryz.prog.inPlace 4)) = true := by kernel_rfl
theorem fnRatText_k10 : ((Rows.fnRatTextRow.unfollowed == Tryz.prog.unfollowed 4)) = true := by kernel_rfl
theorem fnRatText_k11 : ((Rows.fnRatTextRow.recurses == Tryz.prog.recurses 4)) = true := by kernel_rfl
theorem fnRatText_k12 : ((Rows.fnRatTextRow.named == Tryz.prog.varsNamed 4)) = true := by kernel_rfl
theorem fnRatText_k13 : ((Rows.fnRatTextRow.maps == (Tryz.f4.params.toList ++ Rows.fnRatTextSpec.plain.varTypes Tryz.prog).any (Tryz.prog.mapsRec ·))) = true := by kernel_rfl
theorem fnRatText_k14 : ((Rows.fnRatTextRow.ifaces == (Tryz.f4.params.toList ++ Rows.fnRatTextSpec.plain.varTypes Tryz.prog).any (Tryz.prog.ifacesRec ·))) = true := by kernel_rfl
theorem fnRatText_k15 : ((Rows.fnRatTextRow.mapsOut == Tryz.prog.mapsAmong Tryz.f4.resultTypes.toList)) = true := by kernel_rfl
theorem fnRatText_k16 : ((Rows.fnRatTextRow.loops == (Tryz.f4.params.toList ++ Rows.fnRatTextSpec.plain.varTypes Tryz.prog).any (Tryz.prog.loopsFrom ·))) = true := by kernel_rfl
theorem fnRatText_k17 : ((Rows.fnRatTextRow.wideKeys == (Tryz.f4.params.toList ++ Rows.fnRatTextSpec.plain.varTypes Tryz.prog ++ Tryz.f4.resultTypes.toList).any (Tryz.prog.wideKeysFrom ·))) = true := by kernel_rfl
theorem fnRatText_k18 : (Rows.fnRatTextSpec.vars.all (Tryz.prog.varReadable ·)) = true := by kernel_rfl
theorem fnRatText_k19 : (Tryz.f4.resultTypes.all (fun t => Tryz.prog.readableRec t && decide (t < Tryz.prog.types.size))) = true := by kernel_rfl
theorem fnRatText_k20 : ((Rows.fnRatTextRow.ifacesOut == Tryz.f4.resultTypes.toList.any (Tryz.prog.ifacesRec ·))) = true := by kernel_rfl
theorem fnRatText_k21 : ((Rows.fnRatTextRow.loopsOut == Tryz.f4.resultTypes.toList.any (Tryz.prog.loopsFrom ·))) = true := by kernel_rfl
theorem fnRatText_k22 : ((Rows.fnRatTextRow.plainKeys == Tryz.prog.plainKeys)) = true := by kernel_rfl
theorem fnRatText_k23 : (Rows.fnRatTextRow.shortTexts.isNone) = true := by kernel_rfl
theorem fnRatText_k24 : (Tryz.prog.stopsHeard) = true := by kernel_rfl
theorem fnRatText_k25 : (Tryz.prog.mayEnter) = true := by kernel_rfl
theorem fnRatText_k26 : ((Rows.fnRatTextRow.lifted == Tryz.prog.liftsFinal)) = true := by kernel_rfl
theorem fnRatText_k27 : ((Tryz.prog.make == some Rows.fnRatTextRow.make)) = true := by kernel_rfl
theorem fnRatText_k28 : ((Rows.fnRatTextRow.kinds == (if Rows.fnRatTextRow.domain.isEmpty then [] else Tryz.f4.params.toList.map fun t => match Tryz.prog.underlying t with | some (.int k) => some k | _ => none))) = true := by kernel_rfl
theorem fnRatText_k29 : ((Rows.fnRatTextRow.pinned == Rows.fnRatTextRow.pinnedBy)) = true := by kernel_rfl
theorem fnRatText_k30 : ((Rows.fnRatTextRow.veiled == (Tryz.f4.params.toList ++ Rows.fnRatTextSpec.plain.varTypes Tryz.prog ++ Tryz.f4.resultTypes.toList).any (Tryz.prog.veiledRec ·))) = true := by kernel_rfl
theorem fnRatText_k31 : (Rows.fnRatTextRow.veiledFits Tryz.prog Tryz.f4.params.toList (Tryz.f4.params.toList ++ Rows.fnRatTextSpec.plain.varTypes Tryz.prog ++ Tryz.f4.resultTypes.toList)) = true := by kernel_rfl
theorem fnRatText_closed : joinedFacts Tryz.prog 4 Tryz.f4 Rows.fnRatTextSpec Rows.fnRatTextRow = true := by
  unfold joinedFacts
  simp only [Bool.and_eq_true]
  exact ⟨⟨⟨⟨⟨⟨⟨⟨⟨⟨⟨⟨⟨⟨⟨⟨⟨⟨⟨⟨⟨⟨⟨⟨⟨⟨⟨⟨⟨⟨⟨fnRatText_k0, fnRatText_k1⟩, fnRatText_k2⟩, fnRatText_k3⟩, fnRatText_k4⟩, fnRatText_k5⟩, fnRatText_k6⟩, fnRatText_k7⟩, fnRatText_k8⟩, fnRatText_k9⟩, fnRatText_k10⟩, fnRatText_k11⟩, fnRatText_k12⟩, fnRatText_k13⟩, fnRatText_k14⟩, fnRatText_k15⟩, fnRatText_k16⟩, fnRatText_k17⟩, fnRatText_k18⟩, fnRatText_k19⟩, fnRatText_k20⟩, fnRatText_k21⟩, fnRatText_k22⟩, fnRatText_k23⟩, fnRatText_k24⟩, fnRatText_k25⟩, fnRatText_k26⟩, fnRatText_k27⟩, fnRatText_k28⟩, fnRatText_k29⟩, fnRatText_k30⟩, fnRatText_k31⟩
theorem fnRatText_named : Tryz.prog.funcNamed Rows.fnRatTextRow.func = some 4 := by kernel_rfl
theorem fnRatText_inst : Func.isInstance Tryz.prog Tryz.f4 Rows.fnRatTextRow.origin Rows.fnRatTextRow.targs := of_decide_eq_true (by kernel_rfl)
theorem fnRatText_wrap : Func.isWrapper Tryz.prog Tryz.f4 Rows.fnRatTextRow.wrapper Rows.fnRatTextRow.mainSum := by unfold Func.isWrapper; rw [if_neg (of_decide_eq_false (by kernel_rfl))]; exact ⟨rfl, rfl⟩
theorem fnRatText_text : Rows.fnRatTextRow.wfByText (OpenSpec.ofChange Rows.fnRatTextSpec) = true := by kernel_rfl
theorem fnRatText_main : Tryz.prog.mainIs = some (true, "afd8faaed94fe7cf717e9c1444daa084e5465dd580c5b40265b1581e65e19822".toList) := by kernel_rfl
theorem fnRatText_looks : true = Tryz.prog.looks [] := by kernel_rfl
theorem fnRatText_goes : false = Rows.fnRatTextRow.goesBy Tryz.prog := by kernel_rfl
end Go.Proofs.YtmgfajamanakcaaGreatDoor

