/- The closed facts of the row of FnUseAddress. (Printed by wip/rowgen.py.) -/
import Derived.Test.YtnchgmjeoajmiaaGreatDoorRows
import Derived.JoinedOf
namespace Go.Proofs.YtnchgmjeoajmiaaGreatDoor
set_option linter.unusedVariables false
set_option maxRecDepth 100000 in
theorem fnUseAddress_k0 : (Rows.fnUseAddressRow.wf (OpenSpec.ofChange Rows.fnUseAddressSpec)) = true := by kernel_rfl
set_option maxRecDepth 100000 in
theorem fnUseAddress_k3 : (Tryz.f5.params.all (Tryz.pinned.checked.prog.readableRec ·)) = true := by kernel_rfl
set_option maxRecDepth 100000 in
theorem fnUseAddress_k4 : (namedTie Tryz.pinned.checked.prog Rows.fnUseAddressRow.named Rows.fnUseAddressSpec.vars) = true := by kernel_rfl
set_option maxRecDepth 100000 in
theorem fnUseAddress_k5 : ((Rows.fnUseAddressRow.stops == [])) = true := by kernel_rfl
set_option maxRecDepth 100000 in
theorem fnUseAddress_k6 : ((Tryz.pinned.checked.prog.stops == [])) = true := by kernel_rfl
set_option maxRecDepth 100000 in
theorem fnUseAddress_k7 : ((Rows.fnUseAddressRow.knobs == [])) = true := by kernel_rfl
set_option maxRecDepth 100000 in
theorem fnUseAddress_k8 : ((Tryz.pinned.checked.prog.stopKnobs == [])) = true := by kernel_rfl
set_option maxRecDepth 100000 in
theorem fnUseAddress_k9 : ((Rows.fnUseAddressRow.inPlace == Tryz.pinned.checked.prog.inPlace 5)) = true := by kernel_rfl
set_option maxRecDepth 100000 in
theorem fnUseAddress_k10 : ((Rows.fnUseAddressRow.unfollowed == Tryz.pinned.checked.prog.unfollowed 5)) = true := by kernel_rfl
set_option maxRecDepth 100000 in
theorem fnUseAddress_k11 : ((Rows.fnUseAddressRow.recurses == Tryz.pinned.checked.prog.recurses 5)) = true := by kernel_rfl
set_option maxRecDepth 100000 in
theorem fnUseAddress_k12 : ((Rows.fnUseAddressRow.named == Tryz.pinned.checked.prog.varsNamed 5)) = true := by kernel_rfl
set_option maxRecDepth 100000 in
theorem fnUseAddress_k13 : ((Rows.fnUseAddressRow.maps == (Tryz.f5.params.toList ++ Rows.fnUseAddressSpec.plain.varTypes Tryz.pinned.checked.prog).any (Tryz.pinned.checked.prog.mapsRec ·))) = true := by kernel_rfl
set_option maxRecDepth 100000 in
theorem fnUseAddress_k14 : ((Rows.fnUseAddressRow.ifaces == (Tryz.f5.params.toList ++ Rows.fnUseAddressSpec.plain.varTypes Tryz.pinned.checked.prog).any (Tryz.pinned.checked.prog.ifacesRec ·))) = true := by kernel_rfl
set_option maxRecDepth 100000 in
theorem fnUseAddress_k15 : ((Rows.fnUseAddressRow.mapsOut == Tryz.pinned.checked.prog.mapsAmong Tryz.f5.resultTypes.toList)) = true := by kernel_rfl
set_option maxRecDepth 100000 in
theorem fnUseAddress_k16 : ((Rows.fnUseAddressRow.loops == (Tryz.f5.params.toList ++ Rows.fnUseAddressSpec.plain.varTypes Tryz.pinned.checked.prog).any (Tryz.pinned.checked.prog.loopsFrom ·))) = true := by kernel_rfl
set_option maxRecDepth 100000 in
theorem fnUseAddress_k17 : ((Rows.fnUseAddressRow.wideKeys == (Tryz.f5.params.toList ++ Rows.fnUseAddressSpec.plain.varTypes Tryz.pinned.checked.prog ++ Tryz.f5.resultTypes.toList).any (Tryz.pinned.checked.prog.wideKeysFrom ·))) = true := by kernel_rfl
set_option maxRecDepth 100000 in
theorem fnUseAddress_k18 : (Rows.fnUseAddressSpec.vars.all (Tryz.pinned.checked.prog.varReadable ·)) = true := by kernel_rfl
set_option maxRecDepth 100000 in
theorem fnUseAddress_k19 : (Tryz.f5.resultTypes.all (fun t => Tryz.pinned.checked.prog.readableRec t && decide (t < Tryz.pinned.checked.prog.types.size))) = true := by kernel_rfl
set_option maxRecDepth 100000 in
theorem fnUseAddress_k20 : ((Rows.fnUseAddressRow.ifacesOut == Tryz.f5.resultTypes.toList.any (Tryz.pinned.checked.prog.ifacesRec ·))) = true := by kernel_rfl
set_option maxRecDepth 100000 in
theorem fnUseAddress_k21 : ((Rows.fnUseAddressRow.loopsOut == Tryz.f5.resultTypes.toList.any (Tryz.pinned.checked.prog.loopsFrom ·))) = true := by kernel_rfl
set_option maxRecDepth 100000 in
theorem fnUseAddress_k22 : ((Rows.fnUseAddressRow.plainKeys == Tryz.pinned.checked.prog.plainKeys)) = true := by kernel_rfl
set_option maxRecDepth 100000 in
theorem fnUseAddress_k23 : (Rows.fnUseAddressRow.shortTexts.isNone) = true := by kernel_rfl
set_option maxRecDepth 100000 in
theorem fnUseAddress_k24 : (Tryz.pinned.checked.prog.stopsHeard) = true := by kernel_rfl
set_option maxRecDepth 100000 in
theorem fnUseAddress_k25 : (Tryz.pinned.checked.prog.mayEnter) = true := by kernel_rfl
set_option maxRecDepth 100000 in
theorem fnUseAddress_k26 : ((Rows.fnUseAddressRow.lifted == Tryz.pinned.checked.prog.liftsFinal)) = true := by kernel_rfl
set_option maxRecDepth 100000 in
theorem fnUseAddress_k27 : ((Tryz.pinned.checked.prog.make == some Rows.fnUseAddressRow.make)) = true := by kernel_rfl
set_option maxRecDepth 100000 in
theorem fnUseAddress_k28 : ((Rows.fnUseAddressRow.kinds == (if Rows.fnUseAddressRow.domain.isEmpty then [] else Tryz.f5.params.toList.map fun t => match Tryz.pinned.checked.prog.underlying t with | some (.int k) => some k | _ => none))) = true := by kernel_rfl
set_option maxRecDepth 100000 in
theorem fnUseAddress_k29 : ((Rows.fnUseAddressRow.pinned == Rows.fnUseAddressRow.pinnedBy)) = true := by kernel_rfl
set_option maxRecDepth 100000 in
theorem fnUseAddress_k30 : ((Rows.fnUseAddressRow.veiled == (Tryz.f5.params.toList ++ Rows.fnUseAddressSpec.plain.varTypes Tryz.pinned.checked.prog ++ Tryz.f5.resultTypes.toList).any (Tryz.pinned.checked.prog.veiledRec ·))) = true := by kernel_rfl
set_option maxRecDepth 100000 in
theorem fnUseAddress_k31 : (Rows.fnUseAddressRow.veiledFits Tryz.pinned.checked.prog Tryz.f5.params.toList (Tryz.f5.params.toList ++ Rows.fnUseAddressSpec.plain.varTypes Tryz.pinned.checked.prog ++ Tryz.f5.resultTypes.toList)) = true := by kernel_rfl
end Go.Proofs.YtnchgmjeoajmiaaGreatDoor
