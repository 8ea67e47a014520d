/- Part of the proof of FnParse: what the functions that it reaches do, as contracts. Conditions: those that each theorem names. -/
import Derived.Test.YtmgfajamanakcaaGreatDoorRows
import Derived.JoinedOf
import Derived.SevenTiedAt
namespace Go.Proofs.YtmgfajamanakcaaGreatDoor
set_option linter.unusedVariables false
set_option linter.unusedSimpArgs false
set_option maxRecDepth 100000
theorem fnRatDecimal_k0 : (Rows.fnRatDecimalRow.wf (OpenSpec.ofChange Rows.fnRatDecimalSpec)) = true := by kernel_rfl
theorem fnRatDecimal_k1 : (laidOutB Tryz.prog) = true := by kernel_rfl
theorem fnRatDecimal_k2 : (mapsRowed Tryz.prog) = true := by kernel_rfl
theorem fnRatDecimal_k3 : (Tryz.f5.params.all (Tryz.prog.readableRec ·)) = true := by kernel_rfl
theorem fnRatDecimal_k4 : (namedTie Tryz.prog Rows.fnRatDecimalRow.named Rows.fnRatDecimalSpec.vars) = true := by kernel_rfl
theorem fnRatDecimal_k5 : ((Rows.fnRatDecimalRow.stops == [])) = true := by kernel_rfl
theorem fnRatDecimal_k6 : ((Tryz.prog.stops == [])) = true := by kernel_rfl
theorem fnRatDecimal_k7 : ((Rows.fnRatDecimalRow.knobs == [])) = true := by kernel_rfl
theorem fnRatDecimal_k8 : ((Tryz.prog.stopKnobs == [])) = true := by kernel_rfl
theorem fnRatDecimal_k9 : ((Rows.fnRatDecimalRow.inPlace == Tryz.prog.inPlace 5)) = true := by kernel_rfl
theorem fnRatDecimal_k10 : ((Rows.fnRatDecimalRow.unfollowed == Tryz.prog.unfollowed 5)) = true := by kernel_rfl
theorem fnRatDecimal_k11 : ((Rows.fnRatDecimalRow.recurses == Tryz.prog.recurses 5)) = true := by kernel_rfl
theorem fnRatDecimal_k12 : ((Rows.fnRatDecimalRow.named == Tryz.prog.varsNamed 5)) = true := by kernel_rfl
theorem fnRatDecimal_k13 : ((Rows.fnRatDecimalRow.maps == (Tryz.f5.params.toList ++ Rows.fnRatDecimalSpec.plain.varTypes Tryz.prog).any (Tryz.prog.mapsRec ·))) = true := by kernel_rfl
theorem fnRatDecimal_k14 : ((Rows.fnRatDecimalRow.ifaces == (Tryz.f5.params.toList ++ Rows.fnRatDecimalSpec.plain.varTypes Tryz.prog).any (Tryz.prog.ifacesRec ·))) = true := by kernel_rfl
theorem fnRatDecimal_k15 : ((Rows.fnRatDecimalRow.mapsOut == Tryz.prog.mapsAmong Tryz.f5.resultTypes.toList)) = true := by kernel_rfl
theorem fnRatDecimal_k16 : ((Rows.fnRatDecimalRow.loops == (Tryz.f5.params.toList ++ Rows.fnRatDecimalSpec.plain.varTypes Tryz.prog).any (Tryz.prog.loopsFrom ·))) = true := by kernel_rfl
theorem fnRatDecimal_k17 : ((Rows.fnRatDecimalRow.wideKeys == (Tryz.f5.params.toList ++ Rows.fnRatDecimalSpec.plain.varTypes Tryz.prog ++ Tryz.f5.resultTypes.toList).any (Tryz.prog.wideKeysFrom ·))) = true := by kernel_rfl
theorem fnRatDecimal_k18 : (Rows.fnRatDecimalSpec.vars.all (Tryz.prog.varReadable ·)) = true := by kernel_rfl
theorem fnRatDecimal_k19 : (Tryz.f5.resultTypes.all (fun t => Tryz.prog.readableRec t && decide (t < Tryz.prog.types.size))) = true := by kernel_rfl
theorem fnRatDecimal_k20 : ((Rows.fnRatDecimalRow.ifacesOut == Tryz.f5.resultTypes.toList.any (Tryz.prog.ifacesRec ·))) = true := by kernel_rfl
theorem fnRatDecimal_k21 : ((Rows.fnRatDecimalRow.loopsOut == Tryz.f5.resultTypes.toList.any (Tryz.prog.loopsFrom ·))) = true := by kernel_rfl
theorem fnRatDecimal_k22 : ((Rows.fnRatDecimalRow.plainKeys == Tryz.prog.plainKeys)) = true := by kernel_rfl
theorem fnRatDecimal_k23 : (Rows.fnRatDecimalRow.shortTexts.isNone) = true := by kernel_rfl
theorem fnRatDecimal_k24 : (Tryz.prog.stopsHeard) = true := by kernel_rfl
theorem fnRatDecimal_k25 : (Tryz.prog.mayEnter) = true := by kernel_rfl
theorem fnRatDecimal_k26 : ((Rows.fnRatDecimalRow.lifted == Tryz.prog.liftsFinal)) = true := by kernel_rfl
theorem fnRatDecimal_k27 : ((Tryz.prog.make == some Rows.fnRatDecimalRow.make)) = true := by kernel_rfl
theorem fnRatDecimal_k28 : ((Rows.fnRatDecimalRow.kinds == (if Rows.fnRatDecimalRow.domain.isEmpty then [] else Tryz.f5.params.toList.map fun t => match Tryz.prog.underlying t with | some (.int k) => some k | _ => none))) = true := by kernel_rfl
theorem fnRatDecimal_k29 : ((Rows.fnRatDecimalRow.pinned == Rows.fnRatDecimalRow.pinnedBy)) = true := by kernel_rfl
theorem fnRatDecimal_k30 : ((Rows.fnRatDecimalRow.veiled == (Tryz.f5.params.toList ++ Rows.fnRatDecimalSpec.plain.varTypes Tryz.prog ++ Tryz.f5.resultTypes.toList).any (Tryz.prog.veiledRec ·))) = true := by kernel_rfl
theorem fnRatDecimal_k31 : (Rows.fnRatDecimalRow.veiledFits Tryz.prog Tryz.f5.params.toList (Tryz.f5.params.toList ++ Rows.fnRatDecimalSpec.plain.varTypes Tryz.prog ++ Tryz.f5.resultTypes.toList)) = true := by kernel_rfl
theorem fnRatDecimal_closed : joinedFacts Tryz.prog 5 Tryz.f5 Rows.fnRatDecimalSpec Rows.fnRatDecimalRow = true := by
  unfold joinedFacts
  simp only [Bool.and_eq_true]
  exact ⟨⟨⟨⟨⟨⟨⟨⟨⟨⟨⟨⟨⟨⟨⟨⟨⟨⟨⟨⟨⟨⟨⟨⟨⟨⟨⟨⟨⟨⟨⟨fnRatDecimal_k0, fnRatDecimal_k1⟩, fnRatDecimal_k2⟩, fnRatDecimal_k3⟩, fnRatDecimal_k4⟩, fnRatDecimal_k5⟩, fnRatDecimal_k6⟩, fnRatDecimal_k7⟩, fnRatDecimal_k8⟩, fnRatDecimal_k9⟩, fnRatDecimal_k10⟩, fnRatDecimal_k11⟩, fnRatDecimal_k12⟩, fnRatDecimal_k13⟩, fnRatDecimal_k14⟩, fnRatDecimal_k15⟩, fnRatDecimal_k16⟩, fnRatDecimal_k17⟩, fnRatDecimal_k18⟩, fnRatDecimal_k19⟩, fnRatDecimal_k20⟩, fnRatDecimal_k21⟩, fnRatDecimal_k22⟩, fnRatDecimal_k23⟩, fnRatDecimal_k24⟩, fnRatDecimal_k25⟩, fnRatDecimal_k26⟩, fnRatDecimal_k27⟩, fnRatDecimal_k28⟩, fnRatDecimal_k29⟩, fnRatDecimal_k30⟩, fnRatDecimal_k31⟩
theorem fnRatDecimal_named : Tryz.prog.funcNamed Rows.fnRatDecimalRow.func = some 5 := by kernel_rfl
theorem fnRatDecimal_inst : Func.isInstance Tryz.prog Tryz.f5 Rows.fnRatDecimalRow.origin Rows.fnRatDecimalRow.targs := of_decide_eq_true (by kernel_rfl)
theorem fnRatDecimal_wrap : Func.isWrapper Tryz.prog Tryz.f5 Rows.fnRatDecimalRow.wrapper Rows.fnRatDecimalRow.mainSum := by unfold Func.isWrapper; rw [if_neg (of_decide_eq_false (by kernel_rfl))]; exact ⟨rfl, rfl⟩
theorem fnRatDecimal_text : Rows.fnRatDecimalRow.wfByText (OpenSpec.ofChange Rows.fnRatDecimalSpec) = true := by kernel_rfl
theorem fnRatDecimal_main : Tryz.prog.mainIs = some (true, "afd8faaed94fe7cf717e9c1444daa084e5465dd580c5b40265b1581e65e19822".toList) := by kernel_rfl
theorem fnRatDecimal_looks : true = Tryz.prog.looks [] := by kernel_rfl
theorem fnRatDecimal_goes : false = Rows.fnRatDecimalRow.goesBy Tryz.prog := by kernel_rfl
end Go.Proofs.YtmgfajamanakcaaGreatDoor

