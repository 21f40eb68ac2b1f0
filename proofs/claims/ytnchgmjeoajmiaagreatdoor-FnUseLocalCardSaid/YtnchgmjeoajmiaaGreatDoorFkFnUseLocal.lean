/- The closed facts of the row of FnUseLocal. (Printed by wip/rowgen.py.) -/
import Derived.Test.YtnchgmjeoajmiaaGreatDoorRows
import Derived.JoinedOf
namespace Go.Proofs.YtnchgmjeoajmiaaGreatDoor
set_option linter.unusedVariables false
set_option maxRecDepth 100000 in
theorem fnUseLocal_k0 : (Rows.fnUseLocalRow.wf (OpenSpec.ofChange Rows.fnUseLocalSpec)) = true := by kernel_rfl
set_option maxRecDepth 100000 in
theorem fnUseLocal_k3 : (Tryz.f7.params.all (Tryz.pinned.checked.prog.readableRec ·)) = true := by kernel_rfl
set_option maxRecDepth 100000 in
theorem fnUseLocal_k4 : (namedTie Tryz.pinned.checked.prog Rows.fnUseLocalRow.named Rows.fnUseLocalSpec.vars) = true := by kernel_rfl
set_option maxRecDepth 100000 in
theorem fnUseLocal_k5 : ((Rows.fnUseLocalRow.stops == [])) = true := by kernel_rfl
set_option maxRecDepth 100000 in
theorem fnUseLocal_k6 : ((Tryz.pinned.checked.prog.stops == [])) = true := by kernel_rfl
set_option maxRecDepth 100000 in
theorem fnUseLocal_k7 : ((Rows.fnUseLocalRow.knobs == [])) = true := by kernel_rfl
set_option maxRecDepth 100000 in
theorem fnUseLocal_k8 : ((Tryz.pinned.checked.prog.stopKnobs == [])) = true := by kernel_rfl
set_option maxRecDepth 100000 in
theorem fnUseLocal_k9 : ((Rows.fnUseLocalRow.inPlace == Tryz.pinned.checked.prog.inPlace 7)) = true := by kernel_rfl
set_option maxRecDepth 100000 in
theorem fnUseLocal_k10 : ((Rows.fnUseLocalRow.unfollowed == Tryz.pinned.checked.prog.unfollowed 7)) = true := by kernel_rfl
set_option maxRecDepth 100000 in
theorem fnUseLocal_k11 : ((Rows.fnUseLocalRow.recurses == Tryz.pinned.checked.prog.recurses 7)) = true := by kernel_rfl
set_option maxRecDepth 100000 in
theorem fnUseLocal_k12 : ((Rows.fnUseLocalRow.named == Tryz.pinned.checked.prog.varsNamed 7)) = true := by kernel_rfl
set_option maxRecDepth 100000 in
theorem fnUseLocal_k13 : ((Rows.fnUseLocalRow.maps == (Tryz.f7.params.toList ++ Rows.fnUseLocalSpec.plain.varTypes Tryz.pinned.checked.prog).any (Tryz.pinned.checked.prog.mapsRec ·))) = true := by kernel_rfl
set_option maxRecDepth 100000 in
theorem fnUseLocal_k14 : ((Rows.fnUseLocalRow.ifaces == (Tryz.f7.params.toList ++ Rows.fnUseLocalSpec.plain.varTypes Tryz.pinned.checked.prog).any (Tryz.pinned.checked.prog.ifacesRec ·))) = true := by kernel_rfl
set_option maxRecDepth 100000 in
theorem fnUseLocal_k15 : ((Rows.fnUseLocalRow.mapsOut == Tryz.pinned.checked.prog.mapsAmong Tryz.f7.resultTypes.toList)) = true := by kernel_rfl
set_option maxRecDepth 100000 in
theorem fnUseLocal_k16 : ((Rows.fnUseLocalRow.loops == (Tryz.f7.params.toList ++ Rows.fnUseLocalSpec.plain.varTypes Tryz.pinned.checked.prog).any (Tryz.pinned.checked.prog.loopsFrom ·))) = true := by kernel_rfl
set_option maxRecDepth 100000 in
theorem fnUseLocal_k17 : ((Rows.fnUseLocalRow.wideKeys == (Tryz.f7.params.toList ++ Rows.fnUseLocalSpec.plain.varTypes Tryz.pinned.checked.prog ++ Tryz.f7.resultTypes.toList).any (Tryz.pinned.checked.prog.wideKeysFrom ·))) = true := by kernel_rfl
set_option maxRecDepth 100000 in
theorem fnUseLocal_k18 : (Rows.fnUseLocalSpec.vars.all (Tryz.pinned.checked.prog.varReadable ·)) = true := by kernel_rfl
set_option maxRecDepth 100000 in
theorem fnUseLocal_k19 : (Tryz.f7.resultTypes.all (fun t => Tryz.pinned.checked.prog.readableRec t && decide (t < Tryz.pinned.checked.prog.types.size))) = true := by kernel_rfl
set_option maxRecDepth 100000 in
theorem fnUseLocal_k20 : ((Rows.fnUseLocalRow.ifacesOut == Tryz.f7.resultTypes.toList.any (Tryz.pinned.checked.prog.ifacesRec ·))) = true := by kernel_rfl
set_option maxRecDepth 100000 in
theorem fnUseLocal_k21 : ((Rows.fnUseLocalRow.loopsOut == Tryz.f7.resultTypes.toList.any (Tryz.pinned.checked.prog.loopsFrom ·))) = true := by kernel_rfl
set_option maxRecDepth 100000 in
theorem fnUseLocal_k22 : ((Rows.fnUseLocalRow.plainKeys == Tryz.pinned.checked.prog.plainKeys)) = true := by kernel_rfl
set_option maxRecDepth 100000 in
theorem fnUseLocal_k23 : (Rows.fnUseLocalRow.shortTexts.isNone) = true := by kernel_rfl
set_option maxRecDepth 100000 in
theorem fnUseLocal_k24 : (Tryz.pinned.checked.prog.stopsHeard) = true := by kernel_rfl
set_option maxRecDepth 100000 in
theorem fnUseLocal_k25 : (Tryz.pinned.checked.prog.mayEnter) = true := by kernel_rfl
set_option maxRecDepth 100000 in
theorem fnUseLocal_k26 : ((Rows.fnUseLocalRow.lifted == Tryz.pinned.checked.prog.liftsFinal)) = true := by kernel_rfl
set_option maxRecDepth 100000 in
theorem fnUseLocal_k27 : ((Tryz.pinned.checked.prog.make == some Rows.fnUseLocalRow.make)) = true := by kernel_rfl
set_option maxRecDepth 100000 in
theorem fnUseLocal_k28 : ((Rows.fnUseLocalRow.kinds == (if Rows.fnUseLocalRow.domain.isEmpty then [] else Tryz.f7.params.toList.map fun t => match Tryz.pinned.checked.prog.underlying t with | some (.int k) => some k | _ => none))) = true := by kernel_rfl
set_option maxRecDepth 100000 in
theorem fnUseLocal_k29 : ((Rows.fnUseLocalRow.pinned == Rows.fnUseLocalRow.pinnedBy)) = true := by kernel_rfl
set_option maxRecDepth 100000 in
theorem fnUseLocal_k30 : ((Rows.fnUseLocalRow.veiled == (Tryz.f7.params.toList ++ Rows.fnUseLocalSpec.plain.varTypes Tryz.pinned.checked.prog ++ Tryz.f7.resultTypes.toList).any (Tryz.pinned.checked.prog.veiledRec ·))) = true := by kernel_rfl
set_option maxRecDepth 100000 in
theorem fnUseLocal_k31 : (Rows.fnUseLocalRow.veiledFits Tryz.pinned.checked.prog Tryz.f7.params.toList (Tryz.f7.params.toList ++ Rows.fnUseLocalSpec.plain.varTypes Tryz.pinned.checked.prog ++ Tryz.f7.resultTypes.toList)) = true := by kernel_rfl
end Go.Proofs.YtnchgmjeoajmiaaGreatDoor
