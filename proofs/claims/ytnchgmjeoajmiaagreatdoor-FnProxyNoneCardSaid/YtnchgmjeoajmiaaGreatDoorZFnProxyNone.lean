/- Without a proxy for its scheme a request has none, and neither has one of another scheme: FnProxyNone returns true at every input, and what came in reads behind the call as before. The condition: the listed package-level variables hold, when the call begins, what their own texts lay (the tied card). -/
import Derived.Test.YtnchgmjeoajmiaaGreatDoorTie
import Derived.Test.YtnchgmjeoajmiaaGreatDoorCards
import Derived.Test.YtnchgmjeoajmiaaGreatDoorYFnProxyNone
import Derived.Test.YtnchgmjeoajmiaaGreatDoorNc
import Derived.Test.YtnchgmjeoajmiaaGreatDoorNf
import Derived.Test.YtnchgmjeoajmiaaGreatDoorFkFnProxyNone
import Derived.WalkKit
import Derived.ProofKit
import Derived.OpenShut
import Derived.ShutString
import Derived.Below
import Derived.Carry
import Derived.LaidMore
import Derived.Lay
import Derived.SevenTiedAt
import Derived.Stop.Joined
/-! RowFnProxyNone -/
namespace Go.Proofs.YtnchgmjeoajmiaaGreatDoor
open Go.ChangeShapes Go.WideShapes Go.ChangeAt Go.RowKit
open Go.ChangeMaps (open_string shut_string)
set_option linter.unusedVariables false
set_option linter.unusedSimpArgs false
theorem fnProxyNone_own : ownKnob Tryz.prog.godebug = none := by kernel_rfl
theorem fnProxyNone_laidOut : laidOutB Tryz.prog = true := by kernel_rfl
set_option maxRecDepth 100000 in
theorem fnProxyNone_lifted (os : Os) (started : os.Started) (H : Type) (enc : TypeId × Value → H) :
    ReturnsInHanded {} Tryz.checked os 4 .any (fun w args => (Rows.fnProxyNoneSpec.pre enc Tryz.prog Tryz.f4 Rows.fnProxyNoneRow.domain false w args ∧ laidMetH Tryz.prog Rows.fnProxyNoneRow.laid w) ∧ sizedMet enc Tryz.prog Tryz.f4 (OpenSpec.ofChange Rows.fnProxyNoneSpec) false w args)
      (Rows.fnProxyNoneSpec.post enc Tryz.prog Tryz.f4 false true false false) := by
  refine returnsInHanded_of_change_and (C := Tryz.checked) (X := fun w _ => laidMetH Tryz.prog Rows.fnProxyNoneRow.laid w) (fun _ _ _ hh h => h.of_heap hh) fnProxyNone_own started (by kernel_rfl) Tryz.func4
    (ChangeSpec.witness_shaped (enc := enc) (C := Tryz.checked) (os := os) (X := fun w _ => laidMetH Tryz.prog Rows.fnProxyNoneRow.laid w) false (proxW os Rows.fnProxyNoneRow.laid) #[.string ByteArray.empty, .string ByteArray.empty, .string ByteArray.empty, .string ByteArray.empty] 8 (proxW_os _ _)
      (World.shaped_of_ZipB (by kernel_rfl) (by kernel_rfl)) (by kernel_rfl) (by kernel_rfl) (by kernel_rfl)
      (by rw [MakeChecks.laidMetH_plain _ _ _ (by kernel_rfl)]; exact laidMet_proxW _ (by kernel_rfl) (by kernel_rfl) (by kernel_rfl) (by kernel_rfl) (by kernel_rfl) (by kernel_rfl))) ?_
  intro W base args ds gs before hval0 hW hcnd _ hL _
  have hval : ∀ (j : Nat) t v, Tryz.f4.params[j]? = some t → args[j]? = some v → Value.okWide Tryz.prog W .any base t v := hval0
  have hW' := hW
  obtain ⟨p, q, hA0, hV, rfl, hfz, hnd⟩ := hW
  have hA : DataW.TrodAll enc Tryz.prog W 0 (fun _ => true) true Tryz.f4.params.toList args.toList ds p := hA0
  rw [Tryz.params4] at hA hval
  obtain ⟨v0, vs0, d0, ds0, p0, q0, hargs, rfl, rfl, h0, r0⟩ := trodAll_cons hA
  obtain ⟨v1, vs1, d1, ds1, p1, q1, rfl, rfl, rfl, h1, r1⟩ := trodAll_cons r0
  obtain ⟨v2, vs2, d2, ds2, p2, q2, rfl, rfl, rfl, h2, r2⟩ := trodAll_cons r1
  obtain ⟨v3, vs3, d3, ds3, p3, q3, rfl, rfl, rfl, h3, r3⟩ := trodAll_cons r2
  obtain ⟨rfl, rfl, rfl⟩ := trodAll_nil r3
  obtain rfl : args = #[v0, v1, v2, v3] := by cases args; simp_all
  obtain ⟨g1, g2, rfl⟩ : ∃ g1 g2, gs = [g1, g2] := two_vars (show DataW.TrodVars enc Tryz.prog W (fun _ => true) ["loop.example/pub-g01468/pub/neturl.table", "loop.example/pub-g01468/pub/httpproxy.portMap"] gs q from hV)
  obtain ⟨a0, rfl, rfl, rfl, y0⟩ := open_string Tryz.underlying9 (hval 0 9 v0 rfl rfl) h0
  obtain ⟨a1, rfl, rfl, rfl, y1⟩ := open_string Tryz.underlying9 (hval 1 9 v1 rfl rfl) h1
  obtain ⟨a2, rfl, rfl, rfl, y2⟩ := open_string Tryz.underlying9 (hval 2 9 v2 rfl rfl) h2
  obtain ⟨a3, rfl, rfl, rfl, y3⟩ := open_string Tryz.underlying9 (hval 3 9 v3 rfl rfl) h3
  rw [MakeChecks.laidMetH_plain _ _ _ (by kernel_rfl)] at hL
  obtain ⟨p4, p6, G⟩ := gw_of hL (by simp [Rows.fnProxyNoneRow]) (by simp [Rows.fnProxyNoneRow]) (by simp [Rows.fnProxyNoneRow]) (by simp [Rows.fnProxyNoneRow])
  have U := ut_of hL (by simp [Rows.fnProxyNoneRow])
  have pm := pm_of hL (by simp [Rows.fnProxyNoneRow])
  refine (fnProxyNone_calls p4 p6 a0 a1 a2 a3 W G U pm).mono fun e W' ⟨he, bel⟩ => ?_
  subst he
  exact ⟨_, rfl, _, _, _, [], _, _, hW', trodAll_mk1 (shut_bool Tryz.underlying4 _), (trodAll_cons_mk (shut_string Tryz.underlying9 y0) (trodAll_cons_mk (shut_string Tryz.underlying9 y1) (trodAll_cons_mk (shut_string Tryz.underlying9 y2) (trodAll_cons_mk (shut_string Tryz.underlying9 y3) trodAll_mk0)))), vars_kept fnProxyNone_laidOut bel two_types hV, bel.frame _, fun h => by cases h⟩
set_option maxRecDepth 1000000 in
theorem fnProxyNone_holds : Rows.FnProxyNoneSaid :=
  OpenClaim.holds_of_wide 4 Tryz.f4 rfl rfl rfl rfl rfl rfl rfl ⟨rfl, rfl, rfl, rfl, rfl⟩ rfl rfl rfl rfl rfl (by kernel_rfl) Tryz.func4 (joined_of fnProxyNone_k0 fact_laid fact_maps fnProxyNone_k3 fnProxyNone_k4 fnProxyNone_k5 fnProxyNone_k6 fnProxyNone_k7 fnProxyNone_k8 fnProxyNone_k9 fnProxyNone_k10 fnProxyNone_k11 fnProxyNone_k12 fnProxyNone_k13 fnProxyNone_k14 fnProxyNone_k15 fnProxyNone_k16 fnProxyNone_k17 fnProxyNone_k18 fnProxyNone_k19 fnProxyNone_k20 fnProxyNone_k21 fnProxyNone_k22 fnProxyNone_k23 fnProxyNone_k24 fnProxyNone_k25 fnProxyNone_k26 fnProxyNone_k27 fnProxyNone_k28 fnProxyNone_k29 fnProxyNone_k30 fnProxyNone_k31)
    (of_decide_eq_true (by kernel_rfl)) (by unfold Func.isWrapper; first | (rw [if_pos (by decide +kernel)]; kernel_rfl) | (rw [if_neg (by decide +kernel)]; exact ⟨rfl, rfl⟩))
    (fun os started H enc _ => fnProxyNone_lifted os started H enc)
theorem fnProxyNone_card : Rows.FnProxyNoneCardSaid :=
  Claim7.holds_tied_plain_at .later [] [.data, .listed, .data, .called, .called, .data, .mapped, .zero, .pinned, .pinned] true (true, "255450aa6630a7317d4c7b85c8647b543eb43c66b87a2c3c8df52c519baec2f0") false fnProxyNone_holds (fun _ h => by cases h) (by kernel_rfl) (fun _ h => by cases h) fnProxyNone_row_tie rfl ⟨rfl, rfl⟩ (by kernel_rfl) rfl
    (fun f fn hf hfn => by
      obtain rfl : f = 4 := Option.some.inj ((show Tryz.prog.funcNamed "loop.example/pub-g01468/laws.FnProxyNone" = some 4 by kernel_rfl).symm.trans hf) |>.symm
      obtain rfl : fn = Tryz.f4 := (Option.some.inj (Tryz.func4.symm.trans hfn)).symm
      exact ⟨by kernel_rfl, fun j t ht => by
        rw [Tryz.params4] at ht
        have hm : t ∈ [9, 9, 9, 9] := by simpa using Array.mem_of_getElem? ht
        have hall : ([9, 9, 9, 9].all fun u => !Tryz.prog.wantsStandIn u) = true := by kernel_rfl
        exact (show Tryz.prog.wantsStandIn t = false by simpa using List.all_eq_true.1 hall t hm)⟩)
    (by kernel_rfl)
end Go.Proofs.YtnchgmjeoajmiaaGreatDoor
