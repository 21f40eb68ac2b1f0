/- The closed facts of the row of FnUseName. (Printed by wip/rowgen.py.) -/
import Derived.Test.YtnchgmjeoajmiaaGreatDoorRows
import Derived.JoinedOf
namespace Go.Proofs.YtnchgmjeoajmiaaGreatDoor
set_option linter.unusedVariables false
set_option maxRecDepth 100000 in
theorem fnUseName_k0 : (Rows.fnUseNameRow.wf (OpenSpec.ofChange Rows.fnUseNameSpec)) = true := by kernel_rfl
set_option maxRecDepth 100000 in
theorem fnUseName_k3 : (Tryz.f8.params.all (Tryz.pinned.checked.prog.readableRec ·)) = true := by kernel_rfl
set_option maxRecDepth 100000 in
theorem fnUseName_k4 : (namedTie Tryz.pinned.checked.prog Rows.fnUseNameRow.named Rows.fnUseNameSpec.vars) = true := by kernel_rfl
set_option maxRecDepth 100000 in
theorem fnUseName_k5 : ((Rows.fnUseNameRow.stops == [])) = true := by kernel_rfl
set_option maxRecDepth 100000 in
theorem fnUseName_k6 : ((Tryz.pinned.checked.prog.stops == [])) = true := by kernel_rfl
set_option maxRecDepth 100000 in
theorem fnUseName_k7 : ((Rows.fnUseNameRow.knobs == [])) = true := by kernel_rfl
set_option maxRecDepth 100000 in
theorem fnUseName_k8 : ((Tryz.pinned.checked.prog.stopKnobs == [])) = true := by kernel_rfl
set_option maxRecDepth 100000 in
theorem fnUseName_k9 : ((Rows.fnUseNameRow.inPlace == Tryz.pinned.checked.prog.inPlace 8)) = true := by kernel_rfl
set_option maxRecDepth 100000 in
theorem fnUseName_k10 : ((Rows.fnUseNameRow.unfollowed == Tryz.pinned.checked.prog.unfollowed 8)) = true := by kernel_rfl
set_option maxRecDepth 100000 in
theorem fnUseName_k11 : ((Rows.fnUseNameRow.recurses == Tryz.pinned.checked.prog.recurses 8)) = true := by kernel_rfl
set_option maxRecDepth 100000 in
theorem fnUseName_k12 : ((Rows.fnUseNameRow.named == Tryz.pinned.checked.prog.varsNamed 8)) = true := by kernel_rfl
set_option maxRecDepth 100000 in
theorem fnUseName_k13 : ((Rows.fnUseNameRow.maps == (Tryz.f8.params.toList ++ Rows.fnUseNameSpec.plain.varTypes Tryz.pinned.checked.prog).any (Tryz.pinned.checked.prog.mapsRec ·))) = true := by kernel_rfl
set_option maxRecDepth 100000 in
theorem fnUseName_k14 : ((Rows.fnUseNameRow.ifaces == (Tryz.f8.params.toList ++ Rows.fnUseNameSpec.plain.varTypes Tryz.pinned.checked.prog).any (Tryz.pinned.checked.prog.ifacesRec ·))) = true := by kernel_rfl
set_option maxRecDepth 100000 in
theorem fnUseName_k15 : ((Rows.fnUseNameRow.mapsOut == Tryz.pinned.checked.prog.mapsAmong Tryz.f8.resultTypes.toList)) = true := by kernel_rfl
set_option maxRecDepth 100000 in
theorem fnUseName_k16 : ((Rows.fnUseNameRow.loops == (Tryz.f8.params.toList ++ Rows.fnUseNameSpec.plain.varTypes Tryz.pinned.checked.prog).any (Tryz.pinned.checked.prog.loopsFrom ·))) = true := by kernel_rfl
set_option maxRecDepth 100000 in
theorem fnUseName_k17 : ((Rows.fnUseNameRow.wideKeys == (Tryz.f8.params.toList ++ Rows.fnUseNameSpec.plain.varTypes Tryz.pinned.checked.prog ++ Tryz.f8.resultTypes.toList).any (Tryz.pinned.checked.prog.wideKeysFrom ·))) = true := by kernel_rfl
set_option maxRecDepth 100000 in
theorem fnUseName_k18 : (Rows.fnUseNameSpec.vars.all (Tryz.pinned.checked.prog.varReadable ·)) = true := by kernel_rfl
set_option maxRecDepth 100000 in
theorem fnUseName_k19 : (Tryz.f8.resultTypes.all (fun t => Tryz.pinned.checked.prog.readableRec t && decide (t < Tryz.pinned.checked.prog.types.size))) = true := by kernel_rfl
set_option maxRecDepth 100000 in
theorem fnUseName_k20 : ((Rows.fnUseNameRow.ifacesOut == Tryz.f8.resultTypes.toList.any (Tryz.pinned.checked.prog.ifacesRec ·))) = true := by kernel_rfl
set_option maxRecDepth 100000 in
theorem fnUseName_k21 : ((Rows.fnUseNameRow.loopsOut == Tryz.f8.resultTypes.toList.any (Tryz.pinned.checked.prog.loopsFrom ·))) = true := by kernel_rfl
set_option maxRecDepth 100000 in
theorem fnUseName_k22 : ((Rows.fnUseNameRow.plainKeys == Tryz.pinned.checked.prog.plainKeys)) = true := by kernel_rfl
set_option maxRecDepth 100000 in
theorem fnUseName_k23 : (Rows.fnUseNameRow.shortTexts.isNone) = true := by kernel_rfl
set_option maxRecDepth 100000 in
theorem fnUseName_k24 : (Tryz.pinned.checked.prog.stopsHeard) = true := by kernel_rfl
set_option maxRecDepth 100000 in
theorem fnUseName_k25 : (Tryz.pinned.checked.prog.mayEnter) = true := by kernel_rfl
set_option maxRecDepth 100000 in
theorem fnUseName_k26 : ((Rows.fnUseNameRow.lifted == Tryz.pinned.checked.prog.liftsFinal)) = true := by kernel_rfl
set_option maxRecDepth 100000 in
theorem fnUseName_k27 : ((Tryz.pinned.checked.prog.make == some Rows.fnUseNameRow.make)) = true := by kernel_rfl
set_option maxRecDepth 100000 in
theorem fnUseName_k28 : ((Rows.fnUseNameRow.kinds == (if Rows.fnUseNameRow.domain.isEmpty then [] else Tryz.f8.params.toList.map fun t => match Tryz.pinned.checked.prog.underlying t with | some (.int k) => some k | _ => none))) = true := by kernel_rfl
set_option maxRecDepth 100000 in
theorem fnUseName_k29 : ((Rows.fnUseNameRow.pinned == Rows.fnUseNameRow.pinnedBy)) = true := by kernel_rfl
set_option maxRecDepth 100000 in
theorem fnUseName_k30 : ((Rows.fnUseNameRow.veiled == (Tryz.f8.params.toList ++ Rows.fnUseNameSpec.plain.varTypes Tryz.pinned.checked.prog ++ Tryz.f8.resultTypes.toList).any (Tryz.pinned.checked.prog.veiledRec ·))) = true := by kernel_rfl
set_option maxRecDepth 100000 in
theorem fnUseName_k31 : (Rows.fnUseNameRow.veiledFits Tryz.pinned.checked.prog Tryz.f8.params.toList (Tryz.f8.params.toList ++ Rows.fnUseNameSpec.plain.varTypes Tryz.pinned.checked.prog ++ Tryz.f8.resultTypes.toList)) = true := by kernel_rfl
end Go.Proofs.YtnchgmjeoajmiaaGreatDoor
