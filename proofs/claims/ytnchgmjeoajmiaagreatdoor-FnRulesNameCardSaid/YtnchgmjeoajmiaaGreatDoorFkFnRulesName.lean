/- The closed facts of the row of FnRulesName. (Printed by wip/rowgen.py.) -/
import Derived.Test.YtnchgmjeoajmiaaGreatDoorRows
import Derived.JoinedOf
namespace Go.Proofs.YtnchgmjeoajmiaaGreatDoor
set_option linter.unusedVariables false
set_option maxRecDepth 100000 in
theorem fnRulesName_k0 : (Rows.fnRulesNameRow.wf (OpenSpec.ofChange Rows.fnRulesNameSpec)) = true := by kernel_rfl
set_option maxRecDepth 100000 in
theorem fnRulesName_k3 : (Tryz.f13.params.all (Tryz.pinned.checked.prog.readableRec ·)) = true := by kernel_rfl
set_option maxRecDepth 100000 in
theorem fnRulesName_k4 : (namedTie Tryz.pinned.checked.prog Rows.fnRulesNameRow.named Rows.fnRulesNameSpec.vars) = true := by kernel_rfl
set_option maxRecDepth 100000 in
theorem fnRulesName_k5 : ((Rows.fnRulesNameRow.stops == [])) = true := by kernel_rfl
set_option maxRecDepth 100000 in
theorem fnRulesName_k6 : ((Tryz.pinned.checked.prog.stops == [])) = true := by kernel_rfl
set_option maxRecDepth 100000 in
theorem fnRulesName_k7 : ((Rows.fnRulesNameRow.knobs == [])) = true := by kernel_rfl
set_option maxRecDepth 100000 in
theorem fnRulesName_k8 : ((Tryz.pinned.checked.prog.stopKnobs == [])) = true := by kernel_rfl
set_option maxRecDepth 100000 in
theorem fnRulesName_k9 : ((Rows.fnRulesNameRow.inPlace == Tryz.pinned.checked.prog.inPlace 13)) = true := by kernel_rfl
set_option maxRecDepth 100000 in
theorem fnRulesName_k10 : ((Rows.fnRulesNameRow.unfollowed == Tryz.pinned.checked.prog.unfollowed 13)) = true := by kernel_rfl
set_option maxRecDepth 100000 in
theorem fnRulesName_k11 : ((Rows.fnRulesNameRow.recurses == Tryz.pinned.checked.prog.recurses 13)) = true := by kernel_rfl
set_option maxRecDepth 100000 in
theorem fnRulesName_k12 : ((Rows.fnRulesNameRow.named == Tryz.pinned.checked.prog.varsNamed 13)) = true := by kernel_rfl
set_option maxRecDepth 100000 in
theorem fnRulesName_k13 : ((Rows.fnRulesNameRow.maps == (Tryz.f13.params.toList ++ Rows.fnRulesNameSpec.plain.varTypes Tryz.pinned.checked.prog).any (Tryz.pinned.checked.prog.mapsRec ·))) = true := by kernel_rfl
set_option maxRecDepth 100000 in
theorem fnRulesName_k14 : ((Rows.fnRulesNameRow.ifaces == (Tryz.f13.params.toList ++ Rows.fnRulesNameSpec.plain.varTypes Tryz.pinned.checked.prog).any (Tryz.pinned.checked.prog.ifacesRec ·))) = true := by kernel_rfl
set_option maxRecDepth 100000 in
theorem fnRulesName_k15 : ((Rows.fnRulesNameRow.mapsOut == Tryz.pinned.checked.prog.mapsAmong Tryz.f13.resultTypes.toList)) = true := by kernel_rfl
set_option maxRecDepth 100000 in
theorem fnRulesName_k16 : ((Rows.fnRulesNameRow.loops == (Tryz.f13.params.toList ++ Rows.fnRulesNameSpec.plain.varTypes Tryz.pinned.checked.prog).any (Tryz.pinned.checked.prog.loopsFrom ·))) = true := by kernel_rfl
set_option maxRecDepth 100000 in
theorem fnRulesName_k17 : ((Rows.fnRulesNameRow.wideKeys == (Tryz.f13.params.toList ++ Rows.fnRulesNameSpec.plain.varTypes Tryz.pinned.checked.prog ++ Tryz.f13.resultTypes.toList).any (Tryz.pinned.checked.prog.wideKeysFrom ·))) = true := by kernel_rfl
set_option maxRecDepth 100000 in
theorem fnRulesName_k18 : (Rows.fnRulesNameSpec.vars.all (Tryz.pinned.checked.prog.varReadable ·)) = true := by kernel_rfl
set_option maxRecDepth 100000 in
theorem fnRulesName_k19 : (Tryz.f13.resultTypes.all (fun t => Tryz.pinned.checked.prog.readableRec t && decide (t < Tryz.pinned.checked.prog.types.size))) = true := by kernel_rfl
set_option maxRecDepth 100000 in
theorem fnRulesName_k20 : ((Rows.fnRulesNameRow.ifacesOut == Tryz.f13.resultTypes.toList.any (Tryz.pinned.checked.prog.ifacesRec ·))) = true := by kernel_rfl
set_option maxRecDepth 100000 in
theorem fnRulesName_k21 : ((Rows.fnRulesNameRow.loopsOut == Tryz.f13.resultTypes.toList.any (Tryz.pinned.checked.prog.loopsFrom ·))) = true := by kernel_rfl
set_option maxRecDepth 100000 in
theorem fnRulesName_k22 : ((Rows.fnRulesNameRow.plainKeys == Tryz.pinned.checked.prog.plainKeys)) = true := by kernel_rfl
set_option maxRecDepth 100000 in
theorem fnRulesName_k23 : (Rows.fnRulesNameRow.shortTexts.isNone) = true := by kernel_rfl
set_option maxRecDepth 100000 in
theorem fnRulesName_k24 : (Tryz.pinned.checked.prog.stopsHeard) = true := by kernel_rfl
set_option maxRecDepth 100000 in
theorem fnRulesName_k25 : (Tryz.pinned.checked.prog.mayEnter) = true := by kernel_rfl
set_option maxRecDepth 100000 in
theorem fnRulesName_k26 : ((Rows.fnRulesNameRow.lifted == Tryz.pinned.checked.prog.liftsFinal)) = true := by kernel_rfl
set_option maxRecDepth 100000 in
theorem fnRulesName_k27 : ((Tryz.pinned.checked.prog.make == some Rows.fnRulesNameRow.make)) = true := by kernel_rfl
set_option maxRecDepth 100000 in
theorem fnRulesName_k28 : ((Rows.fnRulesNameRow.kinds == (if Rows.fnRulesNameRow.domain.isEmpty then [] else Tryz.f13.params.toList.map fun t => match Tryz.pinned.checked.prog.underlying t with | some (.int k) => some k | _ => none))) = true := by kernel_rfl
set_option maxRecDepth 100000 in
theorem fnRulesName_k29 : ((Rows.fnRulesNameRow.pinned == Rows.fnRulesNameRow.pinnedBy)) = true := by kernel_rfl
set_option maxRecDepth 100000 in
theorem fnRulesName_k30 : ((Rows.fnRulesNameRow.veiled == (Tryz.f13.params.toList ++ Rows.fnRulesNameSpec.plain.varTypes Tryz.pinned.checked.prog ++ Tryz.f13.resultTypes.toList).any (Tryz.pinned.checked.prog.veiledRec ·))) = true := by kernel_rfl
set_option maxRecDepth 100000 in
theorem fnRulesName_k31 : (Rows.fnRulesNameRow.veiledFits Tryz.pinned.checked.prog Tryz.f13.params.toList (Tryz.f13.params.toList ++ Rows.fnRulesNameSpec.plain.varTypes Tryz.pinned.checked.prog ++ Tryz.f13.resultTypes.toList)) = true := by kernel_rfl
end Go.Proofs.YtnchgmjeoajmiaaGreatDoor
