/- The closed facts of the row of FnRulesAddress. (Printed by wip/rowgen.py.) -/
import Derived.Test.YtnchgmjeoajmiaaGreatDoorRows
import Derived.JoinedOf
namespace Go.Proofs.YtnchgmjeoajmiaaGreatDoor
set_option linter.unusedVariables false
set_option maxRecDepth 100000 in
theorem fnRulesAddress_k0 : (Rows.fnRulesAddressRow.wf (OpenSpec.ofChange Rows.fnRulesAddressSpec)) = true := by kernel_rfl
set_option maxRecDepth 100000 in
theorem fnRulesAddress_k3 : (Tryz.f12.params.all (Tryz.pinned.checked.prog.readableRec ·)) = true := by kernel_rfl
set_option maxRecDepth 100000 in
theorem fnRulesAddress_k4 : (namedTie Tryz.pinned.checked.prog Rows.fnRulesAddressRow.named Rows.fnRulesAddressSpec.vars) = true := by kernel_rfl
set_option maxRecDepth 100000 in
theorem fnRulesAddress_k5 : ((Rows.fnRulesAddressRow.stops == [])) = true := by kernel_rfl
set_option maxRecDepth 100000 in
theorem fnRulesAddress_k6 : ((Tryz.pinned.checked.prog.stops == [])) = true := by kernel_rfl
set_option maxRecDepth 100000 in
theorem fnRulesAddress_k7 : ((Rows.fnRulesAddressRow.knobs == [])) = true := by kernel_rfl
set_option maxRecDepth 100000 in
theorem fnRulesAddress_k8 : ((Tryz.pinned.checked.prog.stopKnobs == [])) = true := by kernel_rfl
set_option maxRecDepth 100000 in
theorem fnRulesAddress_k9 : ((Rows.fnRulesAddressRow.inPlace == Tryz.pinned.checked.prog.inPlace 12)) = true := by kernel_rfl
set_option maxRecDepth 100000 in
theorem fnRulesAddress_k10 : ((Rows.fnRulesAddressRow.unfollowed == Tryz.pinned.checked.prog.unfollowed 12)) = true := by kernel_rfl
set_option maxRecDepth 100000 in
theorem fnRulesAddress_k11 : ((Rows.fnRulesAddressRow.recurses == Tryz.pinned.checked.prog.recurses 12)) = true := by kernel_rfl
set_option maxRecDepth 100000 in
theorem fnRulesAddress_k12 : ((Rows.fnRulesAddressRow.named == Tryz.pinned.checked.prog.varsNamed 12)) = true := by kernel_rfl
set_option maxRecDepth 100000 in
theorem fnRulesAddress_k13 : ((Rows.fnRulesAddressRow.maps == (Tryz.f12.params.toList ++ Rows.fnRulesAddressSpec.plain.varTypes Tryz.pinned.checked.prog).any (Tryz.pinned.checked.prog.mapsRec ·))) = true := by kernel_rfl
set_option maxRecDepth 100000 in
theorem fnRulesAddress_k14 : ((Rows.fnRulesAddressRow.ifaces == (Tryz.f12.params.toList ++ Rows.fnRulesAddressSpec.plain.varTypes Tryz.pinned.checked.prog).any (Tryz.pinned.checked.prog.ifacesRec ·))) = true := by kernel_rfl
set_option maxRecDepth 100000 in
theorem fnRulesAddress_k15 : ((Rows.fnRulesAddressRow.mapsOut == Tryz.pinned.checked.prog.mapsAmong Tryz.f12.resultTypes.toList)) = true := by kernel_rfl
set_option maxRecDepth 100000 in
theorem fnRulesAddress_k16 : ((Rows.fnRulesAddressRow.loops == (Tryz.f12.params.toList ++ Rows.fnRulesAddressSpec.plain.varTypes Tryz.pinned.checked.prog).any (Tryz.pinned.checked.prog.loopsFrom ·))) = true := by kernel_rfl
set_option maxRecDepth 100000 in
theorem fnRulesAddress_k17 : ((Rows.fnRulesAddressRow.wideKeys == (Tryz.f12.params.toList ++ Rows.fnRulesAddressSpec.plain.varTypes Tryz.pinned.checked.prog ++ Tryz.f12.resultTypes.toList).any (Tryz.pinned.checked.prog.wideKeysFrom ·))) = true := by kernel_rfl
set_option maxRecDepth 100000 in
theorem fnRulesAddress_k18 : (Rows.fnRulesAddressSpec.vars.all (Tryz.pinned.checked.prog.varReadable ·)) = true := by kernel_rfl
set_option maxRecDepth 100000 in
theorem fnRulesAddress_k19 : (Tryz.f12.resultTypes.all (fun t => Tryz.pinned.checked.prog.readableRec t && decide (t < Tryz.pinned.checked.prog.types.size))) = true := by kernel_rfl
set_option maxRecDepth 100000 in
theorem fnRulesAddress_k20 : ((Rows.fnRulesAddressRow.ifacesOut == Tryz.f12.resultTypes.toList.any (Tryz.pinned.checked.prog.ifacesRec ·))) = true := by kernel_rfl
set_option maxRecDepth 100000 in
theorem fnRulesAddress_k21 : ((Rows.fnRulesAddressRow.loopsOut == Tryz.f12.resultTypes.toList.any (Tryz.pinned.checked.prog.loopsFrom ·))) = true := by kernel_rfl
set_option maxRecDepth 100000 in
theorem fnRulesAddress_k22 : ((Rows.fnRulesAddressRow.plainKeys == Tryz.pinned.checked.prog.plainKeys)) = true := by kernel_rfl
set_option maxRecDepth 100000 in
theorem fnRulesAddress_k23 : (Rows.fnRulesAddressRow.shortTexts.isNone) = true := by kernel_rfl
set_option maxRecDepth 100000 in
theorem fnRulesAddress_k24 : (Tryz.pinned.checked.prog.stopsHeard) = true := by kernel_rfl
set_option maxRecDepth 100000 in
theorem fnRulesAddress_k25 : (Tryz.pinned.checked.prog.mayEnter) = true := by kernel_rfl
set_option maxRecDepth 100000 in
theorem fnRulesAddress_k26 : ((Rows.fnRulesAddressRow.lifted == Tryz.pinned.checked.prog.liftsFinal)) = true := by kernel_rfl
set_option maxRecDepth 100000 in
theorem fnRulesAddress_k27 : ((Tryz.pinned.checked.prog.make == some Rows.fnRulesAddressRow.make)) = true := by kernel_rfl
set_option maxRecDepth 100000 in
theorem fnRulesAddress_k28 : ((Rows.fnRulesAddressRow.kinds == (if Rows.fnRulesAddressRow.domain.isEmpty then [] else Tryz.f12.params.toList.map fun t => match Tryz.pinned.checked.prog.underlying t with | some (.int k) => some k | _ => none))) = true := by kernel_rfl
set_option maxRecDepth 100000 in
theorem fnRulesAddress_k29 : ((Rows.fnRulesAddressRow.pinned == Rows.fnRulesAddressRow.pinnedBy)) = true := by kernel_rfl
set_option maxRecDepth 100000 in
theorem fnRulesAddress_k30 : ((Rows.fnRulesAddressRow.veiled == (Tryz.f12.params.toList ++ Rows.fnRulesAddressSpec.plain.varTypes Tryz.pinned.checked.prog ++ Tryz.f12.resultTypes.toList).any (Tryz.pinned.checked.prog.veiledRec ·))) = true := by kernel_rfl
set_option maxRecDepth 100000 in
theorem fnRulesAddress_k31 : (Rows.fnRulesAddressRow.veiledFits Tryz.pinned.checked.prog Tryz.f12.params.toList (Tryz.f12.params.toList ++ Rows.fnRulesAddressSpec.plain.varTypes Tryz.pinned.checked.prog ++ Tryz.f12.resultTypes.toList)) = true := by kernel_rfl
end Go.Proofs.YtnchgmjeoajmiaaGreatDoor
