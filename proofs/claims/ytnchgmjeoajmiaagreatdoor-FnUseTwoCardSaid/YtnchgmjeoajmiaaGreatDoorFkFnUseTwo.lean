/- The closed facts of the row of FnUseTwo. (Printed by wip/rowgen.py.) -/
import Derived.Test.YtnchgmjeoajmiaaGreatDoorRows
import Derived.JoinedOf
namespace Go.Proofs.YtnchgmjeoajmiaaGreatDoor
set_option linter.unusedVariables false
set_option maxRecDepth 100000 in
theorem fnUseTwo_k0 : (Rows.fnUseTwoRow.wf (OpenSpec.ofChange Rows.fnUseTwoSpec)) = true := by kernel_rfl
set_option maxRecDepth 100000 in
theorem fnUseTwo_k3 : (Tryz.f11.params.all (Tryz.pinned.checked.prog.readableRec ·)) = true := by kernel_rfl
set_option maxRecDepth 100000 in
theorem fnUseTwo_k4 : (namedTie Tryz.pinned.checked.prog Rows.fnUseTwoRow.named Rows.fnUseTwoSpec.vars) = true := by kernel_rfl
set_option maxRecDepth 100000 in
theorem fnUseTwo_k5 : ((Rows.fnUseTwoRow.stops == [])) = true := by kernel_rfl
set_option maxRecDepth 100000 in
theorem fnUseTwo_k6 : ((Tryz.pinned.checked.prog.stops == [])) = true := by kernel_rfl
set_option maxRecDepth 100000 in
theorem fnUseTwo_k7 : ((Rows.fnUseTwoRow.knobs == [])) = true := by kernel_rfl
set_option maxRecDepth 100000 in
theorem fnUseTwo_k8 : ((Tryz.pinned.checked.prog.stopKnobs == [])) = true := by kernel_rfl
set_option maxRecDepth 100000 in
theorem fnUseTwo_k9 : ((Rows.fnUseTwoRow.inPlace == Tryz.pinned.checked.prog.inPlace 11)) = true := by kernel_rfl
set_option maxRecDepth 100000 in
theorem fnUseTwo_k10 : ((Rows.fnUseTwoRow.unfollowed == Tryz.pinned.checked.prog.unfollowed 11)) = true := by kernel_rfl
set_option maxRecDepth 100000 in
theorem fnUseTwo_k11 : ((Rows.fnUseTwoRow.recurses == Tryz.pinned.checked.prog.recurses 11)) = true := by kernel_rfl
set_option maxRecDepth 100000 in
theorem fnUseTwo_k12 : ((Rows.fnUseTwoRow.named == Tryz.pinned.checked.prog.varsNamed 11)) = true := by kernel_rfl
set_option maxRecDepth 100000 in
theorem fnUseTwo_k13 : ((Rows.fnUseTwoRow.maps == (Tryz.f11.params.toList ++ Rows.fnUseTwoSpec.plain.varTypes Tryz.pinned.checked.prog).any (Tryz.pinned.checked.prog.mapsRec ·))) = true := by kernel_rfl
set_option maxRecDepth 100000 in
theorem fnUseTwo_k14 : ((Rows.fnUseTwoRow.ifaces == (Tryz.f11.params.toList ++ Rows.fnUseTwoSpec.plain.varTypes Tryz.pinned.checked.prog).any (Tryz.pinned.checked.prog.ifacesRec ·))) = true := by kernel_rfl
set_option maxRecDepth 100000 in
theorem fnUseTwo_k15 : ((Rows.fnUseTwoRow.mapsOut == Tryz.pinned.checked.prog.mapsAmong Tryz.f11.resultTypes.toList)) = true := by kernel_rfl
set_option maxRecDepth 100000 in
theorem fnUseTwo_k16 : ((Rows.fnUseTwoRow.loops == (Tryz.f11.params.toList ++ Rows.fnUseTwoSpec.plain.varTypes Tryz.pinned.checked.prog).any (Tryz.pinned.checked.prog.loopsFrom ·))) = true := by kernel_rfl
set_option maxRecDepth 100000 in
theorem fnUseTwo_k17 : ((Rows.fnUseTwoRow.wideKeys == (Tryz.f11.params.toList ++ Rows.fnUseTwoSpec.plain.varTypes Tryz.pinned.checked.prog ++ Tryz.f11.resultTypes.toList).any (Tryz.pinned.checked.prog.wideKeysFrom ·))) = true := by kernel_rfl
set_option maxRecDepth 100000 in
theorem fnUseTwo_k18 : (Rows.fnUseTwoSpec.vars.all (Tryz.pinned.checked.prog.varReadable ·)) = true := by kernel_rfl
set_option maxRecDepth 100000 in
theorem fnUseTwo_k19 : (Tryz.f11.resultTypes.all (fun t => Tryz.pinned.checked.prog.readableRec t && decide (t < Tryz.pinned.checked.prog.types.size))) = true := by kernel_rfl
set_option maxRecDepth 100000 in
theorem fnUseTwo_k20 : ((Rows.fnUseTwoRow.ifacesOut == Tryz.f11.resultTypes.toList.any (Tryz.pinned.checked.prog.ifacesRec ·))) = true := by kernel_rfl
set_option maxRecDepth 100000 in
theorem fnUseTwo_k21 : ((Rows.fnUseTwoRow.loopsOut == Tryz.f11.resultTypes.toList.any (Tryz.pinned.checked.prog.loopsFrom ·))) = true := by kernel_rfl
set_option maxRecDepth 100000 in
theorem fnUseTwo_k22 : ((Rows.fnUseTwoRow.plainKeys == Tryz.pinned.checked.prog.plainKeys)) = true := by kernel_rfl
set_option maxRecDepth 100000 in
theorem fnUseTwo_k23 : (Rows.fnUseTwoRow.shortTexts.isNone) = true := by kernel_rfl
set_option maxRecDepth 100000 in
theorem fnUseTwo_k24 : (Tryz.pinned.checked.prog.stopsHeard) = true := by kernel_rfl
set_option maxRecDepth 100000 in
theorem fnUseTwo_k25 : (Tryz.pinned.checked.prog.mayEnter) = true := by kernel_rfl
set_option maxRecDepth 100000 in
theorem fnUseTwo_k26 : ((Rows.fnUseTwoRow.lifted == Tryz.pinned.checked.prog.liftsFinal)) = true := by kernel_rfl
set_option maxRecDepth 100000 in
theorem fnUseTwo_k27 : ((Tryz.pinned.checked.prog.make == some Rows.fnUseTwoRow.make)) = true := by kernel_rfl
set_option maxRecDepth 100000 in
theorem fnUseTwo_k28 : ((Rows.fnUseTwoRow.kinds == (if Rows.fnUseTwoRow.domain.isEmpty then [] else Tryz.f11.params.toList.map fun t => match Tryz.pinned.checked.prog.underlying t with | some (.int k) => some k | _ => none))) = true := by kernel_rfl
set_option maxRecDepth 100000 in
theorem fnUseTwo_k29 : ((Rows.fnUseTwoRow.pinned == Rows.fnUseTwoRow.pinnedBy)) = true := by kernel_rfl
set_option maxRecDepth 100000 in
theorem fnUseTwo_k30 : ((Rows.fnUseTwoRow.veiled == (Tryz.f11.params.toList ++ Rows.fnUseTwoSpec.plain.varTypes Tryz.pinned.checked.prog ++ Tryz.f11.resultTypes.toList).any (Tryz.pinned.checked.prog.veiledRec ·))) = true := by kernel_rfl
set_option maxRecDepth 100000 in
theorem fnUseTwo_k31 : (Rows.fnUseTwoRow.veiledFits Tryz.pinned.checked.prog Tryz.f11.params.toList (Tryz.f11.params.toList ++ Rows.fnUseTwoSpec.plain.varTypes Tryz.pinned.checked.prog ++ Tryz.f11.resultTypes.toList)) = true := by kernel_rfl
end Go.Proofs.YtnchgmjeoajmiaaGreatDoor
