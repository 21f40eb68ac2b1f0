/- The closed facts of the row of FnUseOrder. (Printed by wip/rowgen.py.) -/
import Derived.Test.YtnchgmjeoajmiaaGreatDoorRows
import Derived.JoinedOf
namespace Go.Proofs.YtnchgmjeoajmiaaGreatDoor
set_option linter.unusedVariables false
set_option maxRecDepth 100000 in
theorem fnUseOrder_k0 : (Rows.fnUseOrderRow.wf (OpenSpec.ofChange Rows.fnUseOrderSpec)) = true := by kernel_rfl
set_option maxRecDepth 100000 in
theorem fnUseOrder_k3 : (Tryz.f9.params.all (Tryz.pinned.checked.prog.readableRec ·)) = true := by kernel_rfl
set_option maxRecDepth 100000 in
theorem fnUseOrder_k4 : (namedTie Tryz.pinned.checked.prog Rows.fnUseOrderRow.named Rows.fnUseOrderSpec.vars) = true := by kernel_rfl
set_option maxRecDepth 100000 in
theorem fnUseOrder_k5 : ((Rows.fnUseOrderRow.stops == [])) = true := by kernel_rfl
set_option maxRecDepth 100000 in
theorem fnUseOrder_k6 : ((Tryz.pinned.checked.prog.stops == [])) = true := by kernel_rfl
set_option maxRecDepth 100000 in
theorem fnUseOrder_k7 : ((Rows.fnUseOrderRow.knobs == [])) = true := by kernel_rfl
set_option maxRecDepth 100000 in
theorem fnUseOrder_k8 : ((Tryz.pinned.checked.prog.stopKnobs == [])) = true := by kernel_rfl
set_option maxRecDepth 100000 in
theorem fnUseOrder_k9 : ((Rows.fnUseOrderRow.inPlace == Tryz.pinned.checked.prog.inPlace 9)) = true := by kernel_rfl
set_option maxRecDepth 100000 in
theorem fnUseOrder_k10 : ((Rows.fnUseOrderRow.unfollowed == Tryz.pinned.checked.prog.unfollowed 9)) = true := by kernel_rfl
set_option maxRecDepth 100000 in
theorem fnUseOrder_k11 : ((Rows.fnUseOrderRow.recurses == Tryz.pinned.checked.prog.recurses 9)) = true := by kernel_rfl
set_option maxRecDepth 100000 in
theorem fnUseOrder_k12 : ((Rows.fnUseOrderRow.named == Tryz.pinned.checked.prog.varsNamed 9)) = true := by kernel_rfl
set_option maxRecDepth 100000 in
theorem fnUseOrder_k13 : ((Rows.fnUseOrderRow.maps == (Tryz.f9.params.toList ++ Rows.fnUseOrderSpec.plain.varTypes Tryz.pinned.checked.prog).any (Tryz.pinned.checked.prog.mapsRec ·))) = true := by kernel_rfl
set_option maxRecDepth 100000 in
theorem fnUseOrder_k14 : ((Rows.fnUseOrderRow.ifaces == (Tryz.f9.params.toList ++ Rows.fnUseOrderSpec.plain.varTypes Tryz.pinned.checked.prog).any (Tryz.pinned.checked.prog.ifacesRec ·))) = true := by kernel_rfl
set_option maxRecDepth 100000 in
theorem fnUseOrder_k15 : ((Rows.fnUseOrderRow.mapsOut == Tryz.pinned.checked.prog.mapsAmong Tryz.f9.resultTypes.toList)) = true := by kernel_rfl
set_option maxRecDepth 100000 in
theorem fnUseOrder_k16 : ((Rows.fnUseOrderRow.loops == (Tryz.f9.params.toList ++ Rows.fnUseOrderSpec.plain.varTypes Tryz.pinned.checked.prog).any (Tryz.pinned.checked.prog.loopsFrom ·))) = true := by kernel_rfl
set_option maxRecDepth 100000 in
theorem fnUseOrder_k17 : ((Rows.fnUseOrderRow.wideKeys == (Tryz.f9.params.toList ++ Rows.fnUseOrderSpec.plain.varTypes Tryz.pinned.checked.prog ++ Tryz.f9.resultTypes.toList).any (Tryz.pinned.checked.prog.wideKeysFrom ·))) = true := by kernel_rfl
set_option maxRecDepth 100000 in
theorem fnUseOrder_k18 : (Rows.fnUseOrderSpec.vars.all (Tryz.pinned.checked.prog.varReadable ·)) = true := by kernel_rfl
set_option maxRecDepth 100000 in
theorem fnUseOrder_k19 : (Tryz.f9.resultTypes.all (fun t => Tryz.pinned.checked.prog.readableRec t && decide (t < Tryz.pinned.checked.prog.types.size))) = true := by kernel_rfl
set_option maxRecDepth 100000 in
theorem fnUseOrder_k20 : ((Rows.fnUseOrderRow.ifacesOut == Tryz.f9.resultTypes.toList.any (Tryz.pinned.checked.prog.ifacesRec ·))) = true := by kernel_rfl
set_option maxRecDepth 100000 in
theorem fnUseOrder_k21 : ((Rows.fnUseOrderRow.loopsOut == Tryz.f9.resultTypes.toList.any (Tryz.pinned.checked.prog.loopsFrom ·))) = true := by kernel_rfl
set_option maxRecDepth 100000 in
theorem fnUseOrder_k22 : ((Rows.fnUseOrderRow.plainKeys == Tryz.pinned.checked.prog.plainKeys)) = true := by kernel_rfl
set_option maxRecDepth 100000 in
theorem fnUseOrder_k23 : (Rows.fnUseOrderRow.shortTexts.isNone) = true := by kernel_rfl
set_option maxRecDepth 100000 in
theorem fnUseOrder_k24 : (Tryz.pinned.checked.prog.stopsHeard) = true := by kernel_rfl
set_option maxRecDepth 100000 in
theorem fnUseOrder_k25 : (Tryz.pinned.checked.prog.mayEnter) = true := by kernel_rfl
set_option maxRecDepth 100000 in
theorem fnUseOrder_k26 : ((Rows.fnUseOrderRow.lifted == Tryz.pinned.checked.prog.liftsFinal)) = true := by kernel_rfl
set_option maxRecDepth 100000 in
theorem fnUseOrder_k27 : ((Tryz.pinned.checked.prog.make == some Rows.fnUseOrderRow.make)) = true := by kernel_rfl
set_option maxRecDepth 100000 in
theorem fnUseOrder_k28 : ((Rows.fnUseOrderRow.kinds == (if Rows.fnUseOrderRow.domain.isEmpty then [] else Tryz.f9.params.toList.map fun t => match Tryz.pinned.checked.prog.underlying t with | some (.int k) => some k | _ => none))) = true := by kernel_rfl
set_option maxRecDepth 100000 in
theorem fnUseOrder_k29 : ((Rows.fnUseOrderRow.pinned == Rows.fnUseOrderRow.pinnedBy)) = true := by kernel_rfl
set_option maxRecDepth 100000 in
theorem fnUseOrder_k30 : ((Rows.fnUseOrderRow.veiled == (Tryz.f9.params.toList ++ Rows.fnUseOrderSpec.plain.varTypes Tryz.pinned.checked.prog ++ Tryz.f9.resultTypes.toList).any (Tryz.pinned.checked.prog.veiledRec ·))) = true := by kernel_rfl
set_option maxRecDepth 100000 in
theorem fnUseOrder_k31 : (Rows.fnUseOrderRow.veiledFits Tryz.pinned.checked.prog Tryz.f9.params.toList (Tryz.f9.params.toList ++ Rows.fnUseOrderSpec.plain.varTypes Tryz.pinned.checked.prog ++ Tryz.f9.resultTypes.toList)) = true := by kernel_rfl
end Go.Proofs.YtnchgmjeoajmiaaGreatDoor
