/- The closed facts of the row of FnProxyCGI. (Printed by wip/rowgen.py.) -/
import Derived.Test.YtnchgmjeoajmiaaGreatDoorRows
import Derived.JoinedOf
namespace Go.Proofs.YtnchgmjeoajmiaaGreatDoor
set_option linter.unusedVariables false
set_option maxRecDepth 100000 in
theorem fnProxyCGI_k0 : (Rows.fnProxyCGIRow.wf (OpenSpec.ofChange Rows.fnProxyCGISpec)) = true := by kernel_rfl
set_option maxRecDepth 100000 in
theorem fnProxyCGI_k3 : (Tryz.f3.params.all (Tryz.pinned.checked.prog.readableRec ·)) = true := by kernel_rfl
set_option maxRecDepth 100000 in
theorem fnProxyCGI_k4 : (namedTie Tryz.pinned.checked.prog Rows.fnProxyCGIRow.named Rows.fnProxyCGISpec.vars) = true := by kernel_rfl
set_option maxRecDepth 100000 in
theorem fnProxyCGI_k5 : ((Rows.fnProxyCGIRow.stops == [])) = true := by kernel_rfl
set_option maxRecDepth 100000 in
theorem fnProxyCGI_k6 : ((Tryz.pinned.checked.prog.stops == [])) = true := by kernel_rfl
set_option maxRecDepth 100000 in
theorem fnProxyCGI_k7 : ((Rows.fnProxyCGIRow.knobs == [])) = true := by kernel_rfl
set_option maxRecDepth 100000 in
theorem fnProxyCGI_k8 : ((Tryz.pinned.checked.prog.stopKnobs == [])) = true := by kernel_rfl
set_option maxRecDepth 100000 in
theorem fnProxyCGI_k9 : ((Rows.fnProxyCGIRow.inPlace == Tryz.pinned.checked.prog.inPlace 3)) = true := by kernel_rfl
set_option maxRecDepth 100000 in
theorem fnProxyCGI_k10 : ((Rows.fnProxyCGIRow.unfollowed == Tryz.pinned.checked.prog.unfollowed 3)) = true := by kernel_rfl
set_option maxRecDepth 100000 in
theorem fnProxyCGI_k11 : ((Rows.fnProxyCGIRow.recurses == Tryz.pinned.checked.prog.recurses 3)) = true := by kernel_rfl
set_option maxRecDepth 100000 in
theorem fnProxyCGI_k12 : ((Rows.fnProxyCGIRow.named == Tryz.pinned.checked.prog.varsNamed 3)) = true := by kernel_rfl
set_option maxRecDepth 100000 in
theorem fnProxyCGI_k13 : ((Rows.fnProxyCGIRow.maps == (Tryz.f3.params.toList ++ Rows.fnProxyCGISpec.plain.varTypes Tryz.pinned.checked.prog).any (Tryz.pinned.checked.prog.mapsRec ·))) = true := by kernel_rfl
set_option maxRecDepth 100000 in
theorem fnProxyCGI_k14 : ((Rows.fnProxyCGIRow.ifaces == (Tryz.f3.params.toList ++ Rows.fnProxyCGISpec.plain.varTypes Tryz.pinned.checked.prog).any (Tryz.pinned.checked.prog.ifacesRec ·))) = true := by kernel_rfl
set_option maxRecDepth 100000 in
theorem fnProxyCGI_k15 : ((Rows.fnProxyCGIRow.mapsOut == Tryz.pinned.checked.prog.mapsAmong Tryz.f3.resultTypes.toList)) = true := by kernel_rfl
set_option maxRecDepth 100000 in
theorem fnProxyCGI_k16 : ((Rows.fnProxyCGIRow.loops == (Tryz.f3.params.toList ++ Rows.fnProxyCGISpec.plain.varTypes Tryz.pinned.checked.prog).any (Tryz.pinned.checked.prog.loopsFrom ·))) = true := by kernel_rfl
set_option maxRecDepth 100000 in
theorem fnProxyCGI_k17 : ((Rows.fnProxyCGIRow.wideKeys == (Tryz.f3.params.toList ++ Rows.fnProxyCGISpec.plain.varTypes Tryz.pinned.checked.prog ++ Tryz.f3.resultTypes.toList).any (Tryz.pinned.checked.prog.wideKeysFrom ·))) = true := by kernel_rfl
set_option maxRecDepth 100000 in
theorem fnProxyCGI_k18 : (Rows.fnProxyCGISpec.vars.all (Tryz.pinned.checked.prog.varReadable ·)) = true := by kernel_rfl
set_option maxRecDepth 100000 in
theorem fnProxyCGI_k19 : (Tryz.f3.resultTypes.all (fun t => Tryz.pinned.checked.prog.readableRec t && decide (t < Tryz.pinned.checked.prog.types.size))) = true := by kernel_rfl
set_option maxRecDepth 100000 in
theorem fnProxyCGI_k20 : ((Rows.fnProxyCGIRow.ifacesOut == Tryz.f3.resultTypes.toList.any (Tryz.pinned.checked.prog.ifacesRec ·))) = true := by kernel_rfl
set_option maxRecDepth 100000 in
theorem fnProxyCGI_k21 : ((Rows.fnProxyCGIRow.loopsOut == Tryz.f3.resultTypes.toList.any (Tryz.pinned.checked.prog.loopsFrom ·))) = true := by kernel_rfl
set_option maxRecDepth 100000 in
theorem fnProxyCGI_k22 : ((Rows.fnProxyCGIRow.plainKeys == Tryz.pinned.checked.prog.plainKeys)) = true := by kernel_rfl
set_option maxRecDepth 100000 in
theorem fnProxyCGI_k23 : (Rows.fnProxyCGIRow.shortTexts.isNone) = true := by kernel_rfl
set_option maxRecDepth 100000 in
theorem fnProxyCGI_k24 : (Tryz.pinned.checked.prog.stopsHeard) = true := by kernel_rfl
set_option maxRecDepth 100000 in
theorem fnProxyCGI_k25 : (Tryz.pinned.checked.prog.mayEnter) = true := by kernel_rfl
set_option maxRecDepth 100000 in
theorem fnProxyCGI_k26 : ((Rows.fnProxyCGIRow.lifted == Tryz.pinned.checked.prog.liftsFinal)) = true := by kernel_rfl
set_option maxRecDepth 100000 in
theorem fnProxyCGI_k27 : ((Tryz.pinned.checked.prog.make == some Rows.fnProxyCGIRow.make)) = true := by kernel_rfl
set_option maxRecDepth 100000 in
theorem fnProxyCGI_k28 : ((Rows.fnProxyCGIRow.kinds == (if Rows.fnProxyCGIRow.domain.isEmpty then [] else Tryz.f3.params.toList.map fun t => match Tryz.pinned.checked.prog.underlying t with | some (.int k) => some k | _ => none))) = true := by kernel_rfl
set_option maxRecDepth 100000 in
theorem fnProxyCGI_k29 : ((Rows.fnProxyCGIRow.pinned == Rows.fnProxyCGIRow.pinnedBy)) = true := by kernel_rfl
set_option maxRecDepth 100000 in
theorem fnProxyCGI_k30 : ((Rows.fnProxyCGIRow.veiled == (Tryz.f3.params.toList ++ Rows.fnProxyCGISpec.plain.varTypes Tryz.pinned.checked.prog ++ Tryz.f3.resultTypes.toList).any (Tryz.pinned.checked.prog.veiledRec ·))) = true := by kernel_rfl
set_option maxRecDepth 100000 in
theorem fnProxyCGI_k31 : (Rows.fnProxyCGIRow.veiledFits Tryz.pinned.checked.prog Tryz.f3.params.toList (Tryz.f3.params.toList ++ Rows.fnProxyCGISpec.plain.varTypes Tryz.pinned.checked.prog ++ Tryz.f3.resultTypes.toList)) = true := by kernel_rfl
end Go.Proofs.YtnchgmjeoajmiaaGreatDoor
