/- The closed facts of the row of FnUseStar. (Printed by wip/rowgen.py.) -/
import Derived.Test.YtnchgmjeoajmiaaGreatDoorRows
import Derived.JoinedOf
namespace Go.Proofs.YtnchgmjeoajmiaaGreatDoor
set_option linter.unusedVariables false
set_option maxRecDepth 100000 in
theorem fnUseStar_k0 : (Rows.fnUseStarRow.wf (OpenSpec.ofChange Rows.fnUseStarSpec)) = true := by kernel_rfl
set_option maxRecDepth 100000 in
theorem fnUseStar_k3 : (Tryz.f10.params.all (Tryz.pinned.checked.prog.readableRec ·)) = true := by kernel_rfl
set_option maxRecDepth 100000 in
theorem fnUseStar_k4 : (namedTie Tryz.pinned.checked.prog Rows.fnUseStarRow.named Rows.fnUseStarSpec.vars) = true := by kernel_rfl
set_option maxRecDepth 100000 in
theorem fnUseStar_k5 : ((Rows.fnUseStarRow.stops == [])) = true := by kernel_rfl
set_option maxRecDepth 100000 in
theorem fnUseStar_k6 : ((Tryz.pinned.checked.prog.stops == [])) = true := by kernel_rfl
set_option maxRecDepth 100000 in
theorem fnUseStar_k7 : ((Rows.fnUseStarRow.knobs == [])) = true := by kernel_rfl
set_option maxRecDepth 100000 in
theorem fnUseStar_k8 : ((Tryz.pinned.checked.prog.stopKnobs == [])) = true := by kernel_rfl
set_option maxRecDepth 100000 in
theorem fnUseStar_k9 : ((Rows.fnUseStarRow.inPlace == Tryz.pinned.checked.prog.inPlace 10)) = true := by kernel_rfl
set_option maxRecDepth 100000 in
theorem fnUseStar_k10 : ((Rows.fnUseStarRow.unfollowed == Tryz.pinned.checked.prog.unfollowed 10)) = true := by kernel_rfl
set_option maxRecDepth 100000 in
theorem fnUseStar_k11 : ((Rows.fnUseStarRow.recurses == Tryz.pinned.checked.prog.recurses 10)) = true := by kernel_rfl
set_option maxRecDepth 100000 in
theorem fnUseStar_k12 : ((Rows.fnUseStarRow.named == Tryz.pinned.checked.prog.varsNamed 10)) = true := by kernel_rfl
set_option maxRecDepth 100000 in
theorem fnUseStar_k13 : ((Rows.fnUseStarRow.maps == (Tryz.f10.params.toList ++ Rows.fnUseStarSpec.plain.varTypes Tryz.pinned.checked.prog).any (Tryz.pinned.checked.prog.mapsRec ·))) = true := by kernel_rfl
set_option maxRecDepth 100000 in
theorem fnUseStar_k14 : ((Rows.fnUseStarRow.ifaces == (Tryz.f10.params.toList ++ Rows.fnUseStarSpec.plain.varTypes Tryz.pinned.checked.prog).any (Tryz.pinned.checked.prog.ifacesRec ·))) = true := by kernel_rfl
set_option maxRecDepth 100000 in
theorem fnUseStar_k15 : ((Rows.fnUseStarRow.mapsOut == Tryz.pinned.checked.prog.mapsAmong Tryz.f10.resultTypes.toList)) = true := by kernel_rfl
set_option maxRecDepth 100000 in
theorem fnUseStar_k16 : ((Rows.fnUseStarRow.loops == (Tryz.f10.params.toList ++ Rows.fnUseStarSpec.plain.varTypes Tryz.pinned.checked.prog).any (Tryz.pinned.checked.prog.loopsFrom ·))) = true := by kernel_rfl
set_option maxRecDepth 100000 in
theorem fnUseStar_k17 : ((Rows.fnUseStarRow.wideKeys == (Tryz.f10.params.toList ++ Rows.fnUseStarSpec.plain.varTypes Tryz.pinned.checked.prog ++ Tryz.f10.resultTypes.toList).any (Tryz.pinned.checked.prog.wideKeysFrom ·))) = true := by kernel_rfl
set_option maxRecDepth 100000 in
theorem fnUseStar_k18 : (Rows.fnUseStarSpec.vars.all (Tryz.pinned.checked.prog.varReadable ·)) = true := by kernel_rfl
set_option maxRecDepth 100000 in
theorem fnUseStar_k19 : (Tryz.f10.resultTypes.all (fun t => Tryz.pinned.checked.prog.readableRec t && decide (t < Tryz.pinned.checked.prog.types.size))) = true := by kernel_rfl
set_option maxRecDepth 100000 in
theorem fnUseStar_k20 : ((Rows.fnUseStarRow.ifacesOut == Tryz.f10.resultTypes.toList.any (Tryz.pinned.checked.prog.ifacesRec ·))) = true := by kernel_rfl
set_option maxRecDepth 100000 in
theorem fnUseStar_k21 : ((Rows.fnUseStarRow.loopsOut == Tryz.f10.resultTypes.toList.any (Tryz.pinned.checked.prog.loopsFrom ·))) = true := by kernel_rfl
set_option maxRecDepth 100000 in
theorem fnUseStar_k22 : ((Rows.fnUseStarRow.plainKeys == Tryz.pinned.checked.prog.plainKeys)) = true := by kernel_rfl
set_option maxRecDepth 100000 in
theorem fnUseStar_k23 : (Rows.fnUseStarRow.shortTexts.isNone) = true := by kernel_rfl
set_option maxRecDepth 100000 in
theorem fnUseStar_k24 : (Tryz.pinned.checked.prog.stopsHeard) = true := by kernel_rfl
set_option maxRecDepth 100000 in
theorem fnUseStar_k25 : (Tryz.pinned.checked.prog.mayEnter) = true := by kernel_rfl
set_option maxRecDepth 100000 in
theorem fnUseStar_k26 : ((Rows.fnUseStarRow.lifted == Tryz.pinned.checked.prog.liftsFinal)) = true := by kernel_rfl
set_option maxRecDepth 100000 in
theorem fnUseStar_k27 : ((Tryz.pinned.checked.prog.make == some Rows.fnUseStarRow.make)) = true := by kernel_rfl
set_option maxRecDepth 100000 in
theorem fnUseStar_k28 : ((Rows.fnUseStarRow.kinds == (if Rows.fnUseStarRow.domain.isEmpty then [] else Tryz.f10.params.toList.map fun t => match Tryz.pinned.checked.prog.underlying t with | some (.int k) => some k | _ => none))) = true := by kernel_rfl
set_option maxRecDepth 100000 in
theorem fnUseStar_k29 : ((Rows.fnUseStarRow.pinned == Rows.fnUseStarRow.pinnedBy)) = true := by kernel_rfl
set_option maxRecDepth 100000 in
theorem fnUseStar_k30 : ((Rows.fnUseStarRow.veiled == (Tryz.f10.params.toList ++ Rows.fnUseStarSpec.plain.varTypes Tryz.pinned.checked.prog ++ Tryz.f10.resultTypes.toList).any (Tryz.pinned.checked.prog.veiledRec ·))) = true := by kernel_rfl
set_option maxRecDepth 100000 in
theorem fnUseStar_k31 : (Rows.fnUseStarRow.veiledFits Tryz.pinned.checked.prog Tryz.f10.params.toList (Tryz.f10.params.toList ++ Rows.fnUseStarSpec.plain.varTypes Tryz.pinned.checked.prog ++ Tryz.f10.resultTypes.toList)) = true := by kernel_rfl
end Go.Proofs.YtnchgmjeoajmiaaGreatDoor
