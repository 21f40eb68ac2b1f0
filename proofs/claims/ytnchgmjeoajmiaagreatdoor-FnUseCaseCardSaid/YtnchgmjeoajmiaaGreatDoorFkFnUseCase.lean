/- The closed facts of the row of FnUseCase. (Printed by wip/rowgen.py.) -/
import Derived.Test.YtnchgmjeoajmiaaGreatDoorRows
import Derived.JoinedOf
namespace Go.Proofs.YtnchgmjeoajmiaaGreatDoor
set_option linter.unusedVariables false
set_option maxRecDepth 100000 in
theorem fnUseCase_k0 : (Rows.fnUseCaseRow.wf (OpenSpec.ofChange Rows.fnUseCaseSpec)) = true := by kernel_rfl
set_option maxRecDepth 100000 in
theorem fnUseCase_k3 : (Tryz.f6.params.all (Tryz.pinned.checked.prog.readableRec ·)) = true := by kernel_rfl
set_option maxRecDepth 100000 in
theorem fnUseCase_k4 : (namedTie Tryz.pinned.checked.prog Rows.fnUseCaseRow.named Rows.fnUseCaseSpec.vars) = true := by kernel_rfl
set_option maxRecDepth 100000 in
theorem fnUseCase_k5 : ((Rows.fnUseCaseRow.stops == [])) = true := by kernel_rfl
set_option maxRecDepth 100000 in
theorem fnUseCase_k6 : ((Tryz.pinned.checked.prog.stops == [])) = true := by kernel_rfl
set_option maxRecDepth 100000 in
theorem fnUseCase_k7 : ((Rows.fnUseCaseRow.knobs == [])) = true := by kernel_rfl
set_option maxRecDepth 100000 in
theorem fnUseCase_k8 : ((Tryz.pinned.checked.prog.stopKnobs == [])) = true := by kernel_rfl
set_option maxRecDepth 100000 in
theorem fnUseCase_k9 : ((Rows.fnUseCaseRow.inPlace == Tryz.pinned.checked.prog.inPlace 6)) = true := by kernel_rfl
set_option maxRecDepth 100000 in
theorem fnUseCase_k10 : ((Rows.fnUseCaseRow.unfollowed == Tryz.pinned.checked.prog.unfollowed 6)) = true := by kernel_rfl
set_option maxRecDepth 100000 in
theorem fnUseCase_k11 : ((Rows.fnUseCaseRow.recurses == Tryz.pinned.checked.prog.recurses 6)) = true := by kernel_rfl
set_option maxRecDepth 100000 in
theorem fnUseCase_k12 : ((Rows.fnUseCaseRow.named == Tryz.pinned.checked.prog.varsNamed 6)) = true := by kernel_rfl
set_option maxRecDepth 100000 in
theorem fnUseCase_k13 : ((Rows.fnUseCaseRow.maps == (Tryz.f6.params.toList ++ Rows.fnUseCaseSpec.plain.varTypes Tryz.pinned.checked.prog).any (Tryz.pinned.checked.prog.mapsRec ·))) = true := by kernel_rfl
set_option maxRecDepth 100000 in
theorem fnUseCase_k14 : ((Rows.fnUseCaseRow.ifaces == (Tryz.f6.params.toList ++ Rows.fnUseCaseSpec.plain.varTypes Tryz.pinned.checked.prog).any (Tryz.pinned.checked.prog.ifacesRec ·))) = true := by kernel_rfl
set_option maxRecDepth 100000 in
theorem fnUseCase_k15 : ((Rows.fnUseCaseRow.mapsOut == Tryz.pinned.checked.prog.mapsAmong Tryz.f6.resultTypes.toList)) = true := by kernel_rfl
set_option maxRecDepth 100000 in
theorem fnUseCase_k16 : ((Rows.fnUseCaseRow.loops == (Tryz.f6.params.toList ++ Rows.fnUseCaseSpec.plain.varTypes Tryz.pinned.checked.prog).any (Tryz.pinned.checked.prog.loopsFrom ·))) = true := by kernel_rfl
set_option maxRecDepth 100000 in
theorem fnUseCase_k17 : ((Rows.fnUseCaseRow.wideKeys == (Tryz.f6.params.toList ++ Rows.fnUseCaseSpec.plain.varTypes Tryz.pinned.checked.prog ++ Tryz.f6.resultTypes.toList).any (Tryz.pinned.checked.prog.wideKeysFrom ·))) = true := by kernel_rfl
set_option maxRecDepth 100000 in
theorem fnUseCase_k18 : (Rows.fnUseCaseSpec.vars.all (Tryz.pinned.checked.prog.varReadable ·)) = true := by kernel_rfl
set_option maxRecDepth 100000 in
theorem fnUseCase_k19 : (Tryz.f6.resultTypes.all (fun t => Tryz.pinned.checked.prog.readableRec t && decide (t < Tryz.pinned.checked.prog.types.size))) = true := by kernel_rfl
set_option maxRecDepth 100000 in
theorem fnUseCase_k20 : ((Rows.fnUseCaseRow.ifacesOut == Tryz.f6.resultTypes.toList.any (Tryz.pinned.checked.prog.ifacesRec ·))) = true := by kernel_rfl
set_option maxRecDepth 100000 in
theorem fnUseCase_k21 : ((Rows.fnUseCaseRow.loopsOut == Tryz.f6.resultTypes.toList.any (Tryz.pinned.checked.prog.loopsFrom ·))) = true := by kernel_rfl
set_option maxRecDepth 100000 in
theorem fnUseCase_k22 : ((Rows.fnUseCaseRow.plainKeys == Tryz.pinned.checked.prog.plainKeys)) = true := by kernel_rfl
set_option maxRecDepth 100000 in
theorem fnUseCase_k23 : (Rows.fnUseCaseRow.shortTexts.isNone) = true := by kernel_rfl
set_option maxRecDepth 100000 in
theorem fnUseCase_k24 : (Tryz.pinned.checked.prog.stopsHeard) = true := by kernel_rfl
set_option maxRecDepth 100000 in
theorem fnUseCase_k25 : (Tryz.pinned.checked.prog.mayEnter) = true := by kernel_rfl
set_option maxRecDepth 100000 in
theorem fnUseCase_k26 : ((Rows.fnUseCaseRow.lifted == Tryz.pinned.checked.prog.liftsFinal)) = true := by kernel_rfl
set_option maxRecDepth 100000 in
theorem fnUseCase_k27 : ((Tryz.pinned.checked.prog.make == some Rows.fnUseCaseRow.make)) = true := by kernel_rfl
set_option maxRecDepth 100000 in
theorem fnUseCase_k28 : ((Rows.fnUseCaseRow.kinds == (if Rows.fnUseCaseRow.domain.isEmpty then [] else Tryz.f6.params.toList.map fun t => match Tryz.pinned.checked.prog.underlying t with | some (.int k) => some k | _ => none))) = true := by kernel_rfl
set_option maxRecDepth 100000 in
theorem fnUseCase_k29 : ((Rows.fnUseCaseRow.pinned == Rows.fnUseCaseRow.pinnedBy)) = true := by kernel_rfl
set_option maxRecDepth 100000 in
theorem fnUseCase_k30 : ((Rows.fnUseCaseRow.veiled == (Tryz.f6.params.toList ++ Rows.fnUseCaseSpec.plain.varTypes Tryz.pinned.checked.prog ++ Tryz.f6.resultTypes.toList).any (Tryz.pinned.checked.prog.veiledRec ·))) = true := by kernel_rfl
set_option maxRecDepth 100000 in
theorem fnUseCase_k31 : (Rows.fnUseCaseRow.veiledFits Tryz.pinned.checked.prog Tryz.f6.params.toList (Tryz.f6.params.toList ++ Rows.fnUseCaseSpec.plain.varTypes Tryz.pinned.checked.prog ++ Tryz.f6.resultTypes.toList)) = true := by kernel_rfl
end Go.Proofs.YtnchgmjeoajmiaaGreatDoor
