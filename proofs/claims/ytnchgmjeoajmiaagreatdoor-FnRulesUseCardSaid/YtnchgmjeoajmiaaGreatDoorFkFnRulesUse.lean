/- The closed facts of the row of FnRulesUse. (Printed by wip/rowgen.py.) -/
import Derived.Test.YtnchgmjeoajmiaaGreatDoorRows
import Derived.JoinedOf
namespace Go.Proofs.YtnchgmjeoajmiaaGreatDoor
set_option linter.unusedVariables false
set_option maxRecDepth 100000 in
theorem fnRulesUse_k0 : (Rows.fnRulesUseRow.wf (OpenSpec.ofChange Rows.fnRulesUseSpec)) = true := by kernel_rfl
set_option maxRecDepth 100000 in
theorem fnRulesUse_k3 : (Tryz.f14.params.all (Tryz.pinned.checked.prog.readableRec ·)) = true := by kernel_rfl
set_option maxRecDepth 100000 in
theorem fnRulesUse_k4 : (namedTie Tryz.pinned.checked.prog Rows.fnRulesUseRow.named Rows.fnRulesUseSpec.vars) = true := by kernel_rfl
set_option maxRecDepth 100000 in
theorem fnRulesUse_k5 : ((Rows.fnRulesUseRow.stops == [])) = true := by kernel_rfl
set_option maxRecDepth 100000 in
theorem fnRulesUse_k6 : ((Tryz.pinned.checked.prog.stops == [])) = true := by kernel_rfl
set_option maxRecDepth 100000 in
theorem fnRulesUse_k7 : ((Rows.fnRulesUseRow.knobs == [])) = true := by kernel_rfl
set_option maxRecDepth 100000 in
theorem fnRulesUse_k8 : ((Tryz.pinned.checked.prog.stopKnobs == [])) = true := by kernel_rfl
set_option maxRecDepth 100000 in
theorem fnRulesUse_k9 : ((Rows.fnRulesUseRow.inPlace == Tryz.pinned.checked.prog.inPlace 14)) = true := by kernel_rfl
set_option maxRecDepth 100000 in
theorem fnRulesUse_k10 : ((Rows.fnRulesUseRow.unfollowed == Tryz.pinned.checked.prog.unfollowed 14)) = true := by kernel_rfl
set_option maxRecDepth 100000 in
theorem fnRulesUse_k11 : ((Rows.fnRulesUseRow.recurses == Tryz.pinned.checked.prog.recurses 14)) = true := by kernel_rfl
set_option maxRecDepth 100000 in
theorem fnRulesUse_k12 : ((Rows.fnRulesUseRow.named == Tryz.pinned.checked.prog.varsNamed 14)) = true := by kernel_rfl
set_option maxRecDepth 100000 in
theorem fnRulesUse_k13 : ((Rows.fnRulesUseRow.maps == (Tryz.f14.params.toList ++ Rows.fnRulesUseSpec.plain.varTypes Tryz.pinned.checked.prog).any (Tryz.pinned.checked.prog.mapsRec ·))) = true := by kernel_rfl
set_option maxRecDepth 100000 in
theorem fnRulesUse_k14 : ((Rows.fnRulesUseRow.ifaces == (Tryz.f14.params.toList ++ Rows.fnRulesUseSpec.plain.varTypes Tryz.pinned.checked.prog).any (Tryz.pinned.checked.prog.ifacesRec ·))) = true := by kernel_rfl
set_option maxRecDepth 100000 in
theorem fnRulesUse_k15 : ((Rows.fnRulesUseRow.mapsOut == Tryz.pinned.checked.prog.mapsAmong Tryz.f14.resultTypes.toList)) = true := by kernel_rfl
set_option maxRecDepth 100000 in
theorem fnRulesUse_k16 : ((Rows.fnRulesUseRow.loops == (Tryz.f14.params.toList ++ Rows.fnRulesUseSpec.plain.varTypes Tryz.pinned.checked.prog).any (Tryz.pinned.checked.prog.loopsFrom ·))) = true := by kernel_rfl
set_option maxRecDepth 100000 in
theorem fnRulesUse_k17 : ((Rows.fnRulesUseRow.wideKeys == (Tryz.f14.params.toList ++ Rows.fnRulesUseSpec.plain.varTypes Tryz.pinned.checked.prog ++ Tryz.f14.resultTypes.toList).any (Tryz.pinned.checked.prog.wideKeysFrom ·))) = true := by kernel_rfl
set_option maxRecDepth 100000 in
theorem fnRulesUse_k18 : (Rows.fnRulesUseSpec.vars.all (Tryz.pinned.checked.prog.varReadable ·)) = true := by kernel_rfl
set_option maxRecDepth 100000 in
theorem fnRulesUse_k19 : (Tryz.f14.resultTypes.all (fun t => Tryz.pinned.checked.prog.readableRec t && decide (t < Tryz.pinned.checked.prog.types.size))) = true := by kernel_rfl
set_option maxRecDepth 100000 in
theorem fnRulesUse_k20 : ((Rows.fnRulesUseRow.ifacesOut == Tryz.f14.resultTypes.toList.any (Tryz.pinned.checked.prog.ifacesRec ·))) = true := by kernel_rfl
set_option maxRecDepth 100000 in
theorem fnRulesUse_k21 : ((Rows.fnRulesUseRow.loopsOut == Tryz.f14.resultTypes.toList.any (Tryz.pinned.checked.prog.loopsFrom ·))) = true := by kernel_rfl
set_option maxRecDepth 100000 in
theorem fnRulesUse_k22 : ((Rows.fnRulesUseRow.plainKeys == Tryz.pinned.checked.prog.plainKeys)) = true := by kernel_rfl
set_option maxRecDepth 100000 in
theorem fnRulesUse_k23 : (Rows.fnRulesUseRow.shortTexts.isNone) = true := by kernel_rfl
set_option maxRecDepth 100000 in
theorem fnRulesUse_k24 : (Tryz.pinned.checked.prog.stopsHeard) = true := by kernel_rfl
set_option maxRecDepth 100000 in
theorem fnRulesUse_k25 : (Tryz.pinned.checked.prog.mayEnter) = true := by kernel_rfl
set_option maxRecDepth 100000 in
theorem fnRulesUse_k26 : ((Rows.fnRulesUseRow.lifted == Tryz.pinned.checked.prog.liftsFinal)) = true := by kernel_rfl
set_option maxRecDepth 100000 in
theorem fnRulesUse_k27 : ((Tryz.pinned.checked.prog.make == some Rows.fnRulesUseRow.make)) = true := by kernel_rfl
set_option maxRecDepth 100000 in
theorem fnRulesUse_k28 : ((Rows.fnRulesUseRow.kinds == (if Rows.fnRulesUseRow.domain.isEmpty then [] else Tryz.f14.params.toList.map fun t => match Tryz.pinned.checked.prog.underlying t with | some (.int k) => some k | _ => none))) = true := by kernel_rfl
set_option maxRecDepth 100000 in
theorem fnRulesUse_k29 : ((Rows.fnRulesUseRow.pinned == Rows.fnRulesUseRow.pinnedBy)) = true := by kernel_rfl
set_option maxRecDepth 100000 in
theorem fnRulesUse_k30 : ((Rows.fnRulesUseRow.veiled == (Tryz.f14.params.toList ++ Rows.fnRulesUseSpec.plain.varTypes Tryz.pinned.checked.prog ++ Tryz.f14.resultTypes.toList).any (Tryz.pinned.checked.prog.veiledRec ·))) = true := by kernel_rfl
set_option maxRecDepth 100000 in
theorem fnRulesUse_k31 : (Rows.fnRulesUseRow.veiledFits Tryz.pinned.checked.prog Tryz.f14.params.toList (Tryz.f14.params.toList ++ Rows.fnRulesUseSpec.plain.varTypes Tryz.pinned.checked.prog ++ Tryz.f14.resultTypes.toList)) = true := by kernel_rfl
end Go.Proofs.YtnchgmjeoajmiaaGreatDoor
