/- In a CGI handler the proxy for http is an error where it would be used, and that for https is not: FnProxyCGI returns true at every input, and what came in reads behind the call as before. The condition: the listed package-level variables hold, when the call begins, what their own texts lay (the tied card). -/
import Derived.Test.YtnchgmjeoajmiaaGreatDoorTie
import Derived.Test.YtnchgmjeoajmiaaGreatDoorCards
import Derived.Test.YtnchgmjeoajmiaaGreatDoorYFnProxyCGI
import Derived.Test.YtnchgmjeoajmiaaGreatDoorNc
import Derived.Test.YtnchgmjeoajmiaaGreatDoorNf
import Derived.Test.YtnchgmjeoajmiaaGreatDoorFkFnProxyCGI
import Derived.WalkKit
import Derived.ProofKit
import Derived.OpenShut
import Derived.ShutString
import Derived.Below
import Derived.Carry
import Derived.LaidMore
import Derived.Lay
import Derived.SevenTiedAt
import Derived.Stop.Joined
/-! RowFnProxyCGI -/
namespace Go.Proofs.YtnchgmjeoajmiaaGreatDoor
open Go.ChangeShapes Go.WideShapes Go.ChangeAt Go.RowKit
open Go.ChangeMaps (open_string shut_string)
set_option linter.unusedVariables false
set_option linter.unusedSimpArgs false
theorem fnProxyCGI_own : ownKnob Tryz.prog.godebug = none := by kernel_rfl
theorem fnProxyCGI_laidOut : laidOutB Tryz.prog = true := by kernel_rfl
set_option maxRecDepth 100000 in
theorem fnProxyCGI_lifted (os : Os) (started : os.Started) (H : Type) (enc : TypeId × Value → H) :
    ReturnsInHanded {} Tryz.checked os 3 .any (fun w args => (Rows.fnProxyCGISpec.pre enc Tryz.prog Tryz.f3 Rows.fnProxyCGIRow.domain false w args ∧ laidMetH Tryz.prog Rows.fnProxyCGIRow.laid w) ∧ sizedMet enc Tryz.prog Tryz.f3 (OpenSpec.ofChange Rows.fnProxyCGISpec) false w args)
      (Rows.fnProxyCGISpec.post enc Tryz.prog Tryz.f3 false true false false) := by
  refine returnsInHanded_of_change_and (C := Tryz.checked) (X := fun w _ => laidMetH Tryz.prog Rows.fnProxyCGIRow.laid w) (fun _ _ _ hh h => h.of_heap hh) fnProxyCGI_own started (by kernel_rfl) Tryz.func3
    (ChangeSpec.witness_shaped (enc := enc) (C := Tryz.checked) (os := os) (X := fun w _ => laidMetH Tryz.prog Rows.fnProxyCGIRow.laid w) false (proxW os Rows.fnProxyCGIRow.laid) #[.string ByteArray.empty, .string ByteArray.empty, .string ByteArray.empty] 8 (proxW_os _ _)
      (World.shaped_of_ZipB (by kernel_rfl) (by kernel_rfl)) (by kernel_rfl) (by kernel_rfl) (by kernel_rfl)
      (by rw [MakeChecks.laidMetH_plain _ _ _ (by kernel_rfl)]; exact laidMet_proxW _ (by kernel_rfl) (by kernel_rfl) (by kernel_rfl) (by kernel_rfl) (by kernel_rfl) (by kernel_rfl))) ?_
  intro W base args ds gs before hval0 hW hcnd _ hL _
  have hval : ∀ (j : Nat) t v, Tryz.f3.params[j]? = some t → args[j]? = some v → Value.okWide Tryz.prog W .any base t v := hval0
  have hW' := hW
  obtain ⟨p, q, hA0, hV, rfl, hfz, hnd⟩ := hW
  have hA : DataW.TrodAll enc Tryz.prog W 0 (fun _ => true) true Tryz.f3.params.toList args.toList ds p := hA0
  rw [Tryz.params3] at hA hval
  obtain ⟨v0, vs0, d0, ds0, p0, q0, hargs, rfl, rfl, h0, r0⟩ := trodAll_cons hA
  obtain ⟨v1, vs1, d1, ds1, p1, q1, rfl, rfl, rfl, h1, r1⟩ := trodAll_cons r0
  obtain ⟨v2, vs2, d2, ds2, p2, q2, rfl, rfl, rfl, h2, r2⟩ := trodAll_cons r1
  obtain ⟨rfl, rfl, rfl⟩ := trodAll_nil r2
  obtain rfl : args = #[v0, v1, v2] := by cases args; simp_all
  obtain ⟨g1, g2, rfl⟩ : ∃ g1 g2, gs = [g1, g2] := two_vars (show DataW.TrodVars enc Tryz.prog W (fun _ => true) ["loop.example/pub-g01468/pub/neturl.table", "loop.example/pub-g01468/pub/httpproxy.portMap"] gs q from hV)
  obtain ⟨a0, rfl, rfl, rfl, y0⟩ := open_string Tryz.underlying9 (hval 0 9 v0 rfl rfl) h0
  obtain ⟨a1, rfl, rfl, rfl, y1⟩ := open_string Tryz.underlying9 (hval 1 9 v1 rfl rfl) h1
  obtain ⟨a2, rfl, rfl, rfl, y2⟩ := open_string Tryz.underlying9 (hval 2 9 v2 rfl rfl) h2
  rw [MakeChecks.laidMetH_plain _ _ _ (by kernel_rfl)] at hL
  obtain ⟨p4, p6, G⟩ := gw_of hL (by simp [Rows.fnProxyCGIRow]) (by simp [Rows.fnProxyCGIRow]) (by simp [Rows.fnProxyCGIRow]) (by simp [Rows.fnProxyCGIRow])
  have U := ut_of hL (by simp [Rows.fnProxyCGIRow])
  have pm := pm_of hL (by simp [Rows.fnProxyCGIRow])
  refine (fnProxyCGI_calls p4 p6 a0 a1 a2 W G U pm).mono fun e W' ⟨he, bel⟩ => ?_
  subst he
  exact ⟨_, rfl, _, _, _, [], _, _, hW', trodAll_mk1 (shut_bool Tryz.underlying4 _), (trodAll_cons_mk (shut_string Tryz.underlying9 y0) (trodAll_cons_mk (shut_string Tryz.underlying9 y1) (trodAll_cons_mk (shut_string Tryz.underlying9 y2) trodAll_mk0))), vars_kept fnProxyCGI_laidOut bel two_types hV, bel.frame _, fun h => by cases h⟩
set_option maxRecDepth 1000000 in
theorem fnProxyCGI_holds : Rows.FnProxyCGISaid :=
  OpenClaim.holds_of_wide 3 Tryz.f3 rfl rfl rfl rfl rfl rfl rfl ⟨rfl, rfl, rfl, rfl, rfl⟩ rfl rfl rfl rfl rfl (by kernel_rfl) Tryz.func3 (joined_of fnProxyCGI_k0 fact_laid fact_maps fnProxyCGI_k3 fnProxyCGI_k4 fnProxyCGI_k5 fnProxyCGI_k6 fnProxyCGI_k7 fnProxyCGI_k8 fnProxyCGI_k9 fnProxyCGI_k10 fnProxyCGI_k11 fnProxyCGI_k12 fnProxyCGI_k13 fnProxyCGI_k14 fnProxyCGI_k15 fnProxyCGI_k16 fnProxyCGI_k17 fnProxyCGI_k18 fnProxyCGI_k19 fnProxyCGI_k20 fnProxyCGI_k21 fnProxyCGI_k22 fnProxyCGI_k23 fnProxyCGI_k24 fnProxyCGI_k25 fnProxyCGI_k26 fnProxyCGI_k27 fnProxyCGI_k28 fnProxyCGI_k29 fnProxyCGI_k30 fnProxyCGI_k31)
    (of_decide_eq_true (by kernel_rfl)) (by unfold Func.isWrapper; first | (rw [if_pos (by decide +kernel)]; kernel_rfl) | (rw [if_neg (by decide +kernel)]; exact ⟨rfl, rfl⟩))
    (fun os started H enc _ => fnProxyCGI_lifted os started H enc)
theorem fnProxyCGI_card : Rows.FnProxyCGICardSaid :=
  Claim7.holds_tied_plain_at .later [] [.data, .listed, .data, .called, .called, .data, .mapped, .zero, .pinned, .pinned] true (true, "255450aa6630a7317d4c7b85c8647b543eb43c66b87a2c3c8df52c519baec2f0") false fnProxyCGI_holds (fun _ h => by cases h) (by kernel_rfl) (fun _ h => by cases h) fnProxyCGI_row_tie rfl ⟨rfl, rfl⟩ (by kernel_rfl) rfl
    (fun f fn hf hfn => by
      obtain rfl : f = 3 := Option.some.inj ((show Tryz.prog.funcNamed "loop.example/pub-g01468/laws.FnProxyCGI" = some 3 by kernel_rfl).symm.trans hf) |>.symm
      obtain rfl : fn = Tryz.f3 := (Option.some.inj (Tryz.func3.symm.trans hfn)).symm
      exact ⟨by kernel_rfl, fun j t ht => by
        rw [Tryz.params3] at ht
        have hm : t ∈ [9, 9, 9] := by simpa using Array.mem_of_getElem? ht
        have hall : ([9, 9, 9].all fun u => !Tryz.prog.wantsStandIn u) = true := by kernel_rfl
        exact (show Tryz.prog.wantsStandIn t = false by simpa using List.all_eq_true.1 hall t hm)⟩)
    (by kernel_rfl)
end Go.Proofs.YtnchgmjeoajmiaaGreatDoor
