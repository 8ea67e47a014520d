/-
  fnParseInf: the closed facts of its row and card, each by the kernel. No condition.
-/
import Derived.Test.YtmgfajamanakcaaGreatDoorRows
import Derived.JoinedOf
import Derived.SevenTiedAt
namespace Go.Proofs.YtmgfajamanakcaaGreatDoor
set_option maxRecDepth 100000
theorem fnParseInf_k0 : (Rows.fnParseInfRow.wf (OpenSpec.ofChange Rows.fnParseInfSpec)) = true := by kernel_rfl
theorem fnParseInf_k1 : (laidOutB Tryz.prog) = true := by kernel_rfl
theorem fnParseInf_k2 : (mapsRowed Tryz.prog) = true := by kernel_rfl
theorem fnParseInf_k3 : (Tryz.f8.params.all (Tryz.prog.readableRec ·)) = true := by kernel_rfl
theorem fnParseInf_k4 : (namedTie Tryz.prog Rows.fnParseInfRow.named Rows.fnParseInfSpec.vars) = true := by kernel_rfl
theorem fnParseInf_k5 : ((Rows.fnParseInfRow.stops == [])) = true := by kernel_rfl
theorem fnParseInf_k6 : ((Tryz.prog.stops == [])) = true := by kernel_rfl
theorem fnParseInf_k7 : ((Rows.fnParseInfRow.knobs == [])) = true := by kernel_rfl
theorem fnParseInf_k8 : ((Tryz.prog.stopKnobs == [])) = true := by kernel_rfl
theorem fnParseInf_k9 : ((Rows.fnParseInfRow.inPlace == Tryz.prog.inPlace 8)) = true := by kernel_rfl
theorem fnParseInf_k10 : ((Rows.fnParseInfRow.unfollowed == Tryz.prog.unfollowed 8)) = true := by kernel_rfl
theorem fnParseInf_k11 : ((Rows.fnParseInfRow.recurses == Tryz.prog.recurses 8)) = true := by kernel_rfl
theorem fnParseInf_k12 : ((Rows.fnParseInfRow.named == Tryz.prog.varsNamed 8)) = true := by kernel_rfl
theorem fnParseInf_k13 : ((Rows.fnParseInfRow.maps == (Tryz.f8.params.toList ++ Rows.fnParseInfSpec.plain.varTypes Tryz.prog).any (Tryz.prog.mapsRec ·))) = true := by kernel_rfl
theorem fnParseInf_k14 : ((Rows.fnParseInfRow.ifaces == (Tryz.f8.params.toList ++ Rows.fnParseInfSpec.plain.varTypes Tryz.prog).any (Tryz.prog.ifacesRec ·))) = true := by kernel_rfl
theorem fnParseInf_k15 : ((Rows.fnParseInfRow.mapsOut == Tryz.prog.mapsAmong Tryz.f8.resultTypes.toList)) = true := by kernel_rfl
theorem fnParseInf_k16 : ((Rows.fnParseInfRow.loops == (Tryz.f8.params.toList ++ Rows.fnParseInfSpec.plain.varTypes Tryz.prog).any (Tryz.prog.loopsFrom ·))) = true := by kernel_rfl
theorem fnParseInf_k17 : ((Rows.fnParseInfRow.wideKeys == (Tryz.f8.params.toList ++ Rows.fnParseInfSpec.plain.varTypes Tryz.prog ++ Tryz.f8.resultTypes.toList).any (Tryz.prog.wideKeysFrom ·))) = true := by kernel_rfl
theorem fnParseInf_k18 : (Rows.fnParseInfSpec.vars.all (Tryz.prog.varReadable ·)) = true := by kernel_rfl
theorem fnParseInf_k19 : (Tryz.f8.resultTypes.all (fun t => Tryz.prog.readableRec t && decide (t < Tryz.prog.types.size))) = true := by kernel_rfl
theorem fnParseInf_k20 : ((Rows.fnParseInfRow.ifacesOut == Tryz.f8.resultTypes.toList.any (Tryz.prog.ifacesRec ·))) = true := by kernel_rfl
theorem fnParseInf_k21 : ((Rows.fnParseInfRow.loopsOut == Tryz.f8.resultTypes.toList.any (Tryz.prog.loopsFrom ·))) = true := by kernel_rfl
theorem fnParseInf_k22 : ((Rows.fnParseInfRow.plainKeys == Tryz.prog.plainKeys)) = true := by kernel_rfl
theorem fnParseInf_k23 : (Rows.fnParseInfRow.shortTexts.isNone) = true := by kernel_rfl
theorem fnParseInf_k24 : (Tryz.prog.stopsHeard) = true := by kernel_rfl
theorem fnParseInf_k25 : (Tryz.prog.mayEnter) = true := by kernel_rfl
theorem fnParseInf_k26 : ((Rows.fnParseInfRow.lifted == Tryz.prog.liftsFinal)) = true := by kernel_rfl
theorem fnParseInf_k27 : ((Tryz.prog.make == some Rows.fnParseInfRow.make)) = true := by kernel_rfl
theorem fnParseInf_k28 : ((Rows.fnParseInfRow.kinds == (if Rows.fnParseInfRow.domain.isEmpty then [] else Tryz.f8.params.toList.map fun t => match Tryz.prog.underlying t with | some (.int k) => some k | _ => none))) = true := by kernel_rfl
theorem fnParseInf_k29 : ((Rows.fnParseInfRow.pinned == Rows.fnParseInfRow.pinnedBy)) = true := by kernel_rfl
theorem fnParseInf_k30 : ((Rows.fnParseInfRow.veiled == (Tryz.f8.params.toList ++ Rows.fnParseInfSpec.plain.varTypes Tryz.prog ++ Tryz.f8.resultTypes.toList).any (Tryz.prog.veiledRec ·))) = true := by kernel_rfl
theorem fnParseInf_k31 : (Rows.fnParseInfRow.veiledFits Tryz.prog Tryz.f8.params.toList (Tryz.f8.params.toList ++ Rows.fnParseInfSpec.plain.varTypes Tryz.prog ++ Tryz.f8.resultTypes.toList)) = true := by kernel_rfl
theorem fnParseInf_closed : joinedFacts Tryz.prog 8 Tryz.f8 Rows.fnParseInfSpec Rows.fnParseInfRow = true := by
  unfold joinedFacts
  simp only [Bool.and_eq_true]
  exact ⟨⟨⟨⟨⟨⟨⟨⟨⟨⟨⟨⟨⟨⟨⟨⟨⟨⟨⟨⟨⟨⟨⟨⟨⟨⟨⟨⟨⟨⟨⟨fnParseInf_k0, fnParseInf_k1⟩, fnParseInf_k2⟩, fnParseInf_k3⟩, fnParseInf_k4⟩, fnParseInf_k5⟩, fnParseInf_k6⟩, fnParseInf_k7⟩, fnParseInf_k8⟩, fnParseInf_k9⟩, fnParseInf_k10⟩, fnParseInf_k11⟩, fnParseInf_k12⟩, fnParseInf_k13⟩, fnParseInf_k14⟩, fnParseInf_k15⟩, fnParseInf_k16⟩, fnParseInf_k17⟩, fnParseInf_k18⟩, fnParseInf_k19⟩, fnParseInf_k20⟩, fnParseInf_k21⟩, fnParseInf_k22⟩, fnParseInf_k23⟩, fnParseInf_k24⟩, fnParseInf_k25⟩, fnParseInf_k26⟩, fnParseInf_k27⟩, fnParseInf_k28⟩, fnParseInf_k29⟩, fnParseInf_k30⟩, fnParseInf_k31⟩
theorem fnParseInf_named : Tryz.prog.funcNamed Rows.fnParseInfRow.func = some 8 := by kernel_rfl
theorem fnParseInf_inst : Func.isInstance Tryz.prog Tryz.f8 Rows.fnParseInfRow.origin Rows.fnParseInfRow.targs := of_decide_eq_true (by kernel_rfl)
theorem fnParseInf_wrap : Func.isWrapper Tryz.prog Tryz.f8 Rows.fnParseInfRow.wrapper Rows.fnParseInfRow.mainSum := by unfold Func.isWrapper; rw [if_neg (of_decide_eq_false (by kernel_rfl))]; exact ⟨rfl, rfl⟩
theorem fnParseInf_text : Rows.fnParseInfRow.wfByText (OpenSpec.ofChange Rows.fnParseInfSpec) = true := by kernel_rfl
theorem fnParseInf_main : Tryz.prog.mainIs = some (true, "afd8faaed94fe7cf717e9c1444daa084e5465dd580c5b40265b1581e65e19822".toList) := by kernel_rfl
theorem fnParseInf_looks : true = Tryz.prog.looks [] := by kernel_rfl
theorem fnParseInf_goes : false = Rows.fnParseInfRow.goesBy Tryz.prog := by kernel_rfl
end Go.Proofs.YtmgfajamanakcaaGreatDoor

