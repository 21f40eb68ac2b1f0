/- The closed facts of the row of FnProxyNone. (Printed by wip/rowgen.py.) -/
import Derived.Test.YtnchgmjeoajmiaaGreatDoorRows
import Derived.JoinedOf
namespace Go.Proofs.YtnchgmjeoajmiaaGreatDoor
set_option linter.unusedVariables false
set_option maxRecDepth 100000 in
theorem fnProxyNone_k0 : (Rows.fnProxyNoneRow.wf (OpenSpec.ofChange Rows.fnProxyNoneSpec)) = true := by kernel_rfl
set_option maxRecDepth 100000 in
theorem fnProxyNone_k3 : (Tryz.f4.params.all (Tryz.pinned.checked.prog.readableRec ·)) = true := by kernel_rfl
set_option maxRecDepth 100000 in
theorem fnProxyNone_k4 : (namedTie Tryz.pinned.checked.prog Rows.fnProxyNoneRow.named Rows.fnProxyNoneSpec.vars) = true := by kernel_rfl
set_option maxRecDepth 100000 in
theorem fnProxyNone_k5 : ((Rows.fnProxyNoneRow.stops == [])) = true := by kernel_rfl
set_option maxRecDepth 100000 in
theorem fnProxyNone_k6 : ((Tryz.pinned.checked.prog.stops == [])) = true := by kernel_rfl
set_option maxRecDepth 100000 in
theorem fnProxyNone_k7 : ((Rows.fnProxyNoneRow.knobs == [])) = true := by kernel_rfl
set_option maxRecDepth 100000 in
theorem fnProxyNone_k8 : ((Tryz.pinned.checked.prog.stopKnobs == [])) = true := by kernel_rfl
set_option maxRecDepth 100000 in
theorem fnProxyNone_k9 : ((Rows.fnProxyNoneRow.inPlace == Tryz.pinned.checked.prog.inPlace 4)) = true := by kernel_rfl
set_option maxRecDepth 100000 in
theorem fnProxyNone_k10 : ((Rows.fnProxyNoneRow.unfollowed == Tryz.pinned.checked.prog.unfollowed 4)) = true := by kernel_rfl
set_option maxRecDepth 100000 in
theorem fnProxyNone_k11 : ((Rows.fnProxyNoneRow.recurses == Tryz.pinned.checked.prog.recurses 4)) = true := by kernel_rfl
set_option maxRecDepth 100000 in
theorem fnProxyNone_k12 : ((Rows.fnProxyNoneRow.named == Tryz.pinned.checked.prog.varsNamed 4)) = true := by kernel_rfl
set_option maxRecDepth 100000 in
theorem fnProxyNone_k13 : ((Rows.fnProxyNoneRow.maps == (Tryz.f4.params.toList ++ Rows.fnProxyNoneSpec.plain.varTypes Tryz.pinned.checked.prog).any (Tryz.pinned.checked.prog.mapsRec ·))) = true := by kernel_rfl
set_option maxRecDepth 100000 in
theorem fnProxyNone_k14 : ((Rows.fnProxyNoneRow.ifaces == (Tryz.f4.params.toList ++ Rows.fnProxyNoneSpec.plain.varTypes Tryz.pinned.checked.prog).any (Tryz.pinned.checked.prog.ifacesRec ·))) = true := by kernel_rfl
set_option maxRecDepth 100000 in
theorem fnProxyNone_k15 : ((Rows.fnProxyNoneRow.mapsOut == Tryz.pinned.checked.prog.mapsAmong Tryz.f4.resultTypes.toList)) = true := by kernel_rfl
set_option maxRecDepth 100000 in
theorem fnProxyNone_k16 : ((Rows.fnProxyNoneRow.loops == (Tryz.f4.params.toList ++ Rows.fnProxyNoneSpec.plain.varTypes Tryz.pinned.checked.prog).any (Tryz.pinned.checked.prog.loopsFrom ·))) = true := by kernel_rfl
set_option maxRecDepth 100000 in
theorem fnProxyNone_k17 : ((Rows.fnProxyNoneRow.wideKeys == (Tryz.f4.params.toList ++ Rows.fnProxyNoneSpec.plain.varTypes Tryz.pinned.checked.prog ++ Tryz.f4.resultTypes.toList).any (Tryz.pinned.checked.prog.wideKeysFrom ·))) = true := by kernel_rfl
set_option maxRecDepth 100000 in
theorem fnProxyNone_k18 : (Rows.fnProxyNoneSpec.vars.all (Tryz.pinned.checked.prog.varReadable ·)) = true := by kernel_rfl
set_option maxRecDepth 100000 in
theorem fnProxyNone_k19 : (Tryz.f4.resultTypes.all (fun t => Tryz.pinned.checked.prog.readableRec t && decide (t < Tryz.pinned.checked.prog.types.size))) = true := by kernel_rfl
set_option maxRecDepth 100000 in
theorem fnProxyNone_k20 : ((Rows.fnProxyNoneRow.ifacesOut == Tryz.f4.resultTypes.toList.any (Tryz.pinned.checked.prog.ifacesRec ·))) = true := by kernel_rfl
set_option maxRecDepth 100000 in
theorem fnProxyNone_k21 : ((Rows.fnProxyNoneRow.loopsOut == Tryz.f4.resultTypes.toList.any (Tryz.pinned.checked.prog.loopsFrom ·))) = true := by kernel_rfl
set_option maxRecDepth 100000 in
theorem fnProxyNone_k22 : ((Rows.fnProxyNoneRow.plainKeys == Tryz.pinned.checked.prog.plainKeys)) = true := by kernel_rfl
set_option maxRecDepth 100000 in
theorem fnProxyNone_k23 : (Rows.fnProxyNoneRow.shortTexts.isNone) = true := by kernel_rfl
set_option maxRecDepth 100000 in
theorem fnProxyNone_k24 : (Tryz.pinned.checked.prog.stopsHeard) = true := by kernel_rfl
set_option maxRecDepth 100000 in
theorem fnProxyNone_k25 : (Tryz.pinned.checked.prog.mayEnter) = true := by kernel_rfl
set_option maxRecDepth 100000 in
theorem fnProxyNone_k26 : ((Rows.fnProxyNoneRow.lifted == Tryz.pinned.checked.prog.liftsFinal)) = true := by kernel_rfl
set_option maxRecDepth 100000 in
theorem fnProxyNone_k27 : ((Tryz.pinned.checked.prog.make == some Rows.fnProxyNoneRow.make)) = true := by kernel_rfl
set_option maxRecDepth 100000 in
theorem fnProxyNone_k28 : ((Rows.fnProxyNoneRow.kinds == (if Rows.fnProxyNoneRow.domain.isEmpty then [] else Tryz.f4.params.toList.map fun t => match Tryz.pinned.checked.prog.underlying t with | some (.int k) => some k | _ => none))) = true := by kernel_rfl
set_option maxRecDepth 100000 in
theorem fnProxyNone_k29 : ((Rows.fnProxyNoneRow.pinned == Rows.fnProxyNoneRow.pinnedBy)) = true := by kernel_rfl
set_option maxRecDepth 100000 in
theorem fnProxyNone_k30 : ((Rows.fnProxyNoneRow.veiled == (Tryz.f4.params.toList ++ Rows.fnProxyNoneSpec.plain.varTypes Tryz.pinned.checked.prog ++ Tryz.f4.resultTypes.toList).any (Tryz.pinned.checked.prog.veiledRec ·))) = true := by kernel_rfl
set_option maxRecDepth 100000 in
theorem fnProxyNone_k31 : (Rows.fnProxyNoneRow.veiledFits Tryz.pinned.checked.prog Tryz.f4.params.toList (Tryz.f4.params.toList ++ Rows.fnProxyNoneSpec.plain.varTypes Tryz.pinned.checked.prog ++ Tryz.f4.resultTypes.toList)) = true := by kernel_rfl
end Go.Proofs.YtnchgmjeoajmiaaGreatDoor
