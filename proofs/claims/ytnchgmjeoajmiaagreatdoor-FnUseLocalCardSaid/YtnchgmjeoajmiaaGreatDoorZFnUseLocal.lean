/- Requests to localhost and to loopback addresses never go through the proxy: FnUseLocal returns true at every input, and what came in reads behind the call as before. The condition: the listed package-level variables hold, when the call begins, what their own texts lay (the tied card). -/
import Derived.Test.YtnchgmjeoajmiaaGreatDoorTie
import Derived.Test.YtnchgmjeoajmiaaGreatDoorCards
import Derived.Test.YtnchgmjeoajmiaaGreatDoorYFnUseLocal
import Derived.Test.YtnchgmjeoajmiaaGreatDoorMc
import Derived.Test.YtnchgmjeoajmiaaGreatDoorFkFnUseLocal
import Derived.WalkKit
import Derived.ProofKit
import Derived.OpenShut
import Derived.ShutString
import Derived.Below
import Derived.Carry
import Derived.LaidMore
import Derived.Lay
import Derived.SevenTiedAt
import Derived.Stop.Joined
/-! RowFnUseLocal -/
namespace Go.Proofs.YtnchgmjeoajmiaaGreatDoor
open Go.ChangeShapes Go.WideShapes Go.ChangeAt Go.RowKit
open Go.ChangeMaps (open_string shut_string)
set_option linter.unusedVariables false
set_option linter.unusedSimpArgs false
theorem fnUseLocal_own : ownKnob Tryz.prog.godebug = none := by kernel_rfl
theorem fnUseLocal_laidOut : laidOutB Tryz.prog = true := by kernel_rfl
set_option maxRecDepth 100000 in
theorem fnUseLocal_lifted (os : Os) (started : os.Started) (H : Type) (enc : TypeId × Value → H) :
    ReturnsInHanded {} Tryz.checked os 7 .any (fun w args => (Rows.fnUseLocalSpec.pre enc Tryz.prog Tryz.f7 Rows.fnUseLocalRow.domain false w args ∧ laidMetH Tryz.prog Rows.fnUseLocalRow.laid w) ∧ sizedMet enc Tryz.prog Tryz.f7 (OpenSpec.ofChange Rows.fnUseLocalSpec) false w args)
      (Rows.fnUseLocalSpec.post enc Tryz.prog Tryz.f7 false true false false) := by
  refine returnsInHanded_of_change_and (C := Tryz.checked) (X := fun w _ => laidMetH Tryz.prog Rows.fnUseLocalRow.laid w) (fun _ _ _ hh h => h.of_heap hh) fnUseLocal_own started (by kernel_rfl) Tryz.func7
    (ChangeSpec.witness_shaped (enc := enc) (C := Tryz.checked) (os := os) (X := fun w _ => laidMetH Tryz.prog Rows.fnUseLocalRow.laid w) false (World.laidAll Tryz.prog os Rows.fnUseLocalRow.laid) #[.slice none 0 0, .slice none 0 0, .string ByteArray.empty] 8 (World.laidAll_os _ _ _)
      (World.shaped_of_ZipB (by kernel_rfl) (by kernel_rfl)) (by kernel_rfl) (by kernel_rfl) (by kernel_rfl)
      (by rw [MakeChecks.laidMetH_plain _ _ _ (by kernel_rfl)]; exact laidMet_laidAll _ (by kernel_rfl) (by kernel_rfl))) ?_
  intro W base args ds gs before hval0 hW hcnd _ hL _
  have hval : ∀ (j : Nat) t v, Tryz.f7.params[j]? = some t → args[j]? = some v → Value.okWide Tryz.prog W .any base t v := hval0
  have hW' := hW
  obtain ⟨p, q, hA0, hV, rfl, hfz, hnd⟩ := hW
  have hA : DataW.TrodAll enc Tryz.prog W 0 (fun _ => true) true Tryz.f7.params.toList args.toList ds p := hA0
  rw [Tryz.params7] at hA hval
  obtain ⟨v0, vs0, d0, ds0, p0, q0, hargs, rfl, rfl, h0, r0⟩ := trodAll_cons hA
  obtain ⟨v1, vs1, d1, ds1, p1, q1, rfl, rfl, rfl, h1, r1⟩ := trodAll_cons r0
  obtain ⟨v2, vs2, d2, ds2, p2, q2, rfl, rfl, rfl, h2, r2⟩ := trodAll_cons r1
  obtain ⟨rfl, rfl, rfl⟩ := trodAll_nil r2
  obtain rfl : args = #[v0, v1, v2] := by cases args; simp_all
  obtain ⟨gd, rfl⟩ : ∃ gd, gs = [gd] := by
    have hn : gs.length = 1 := (show DataW.TrodVars enc Tryz.prog W (fun _ => true) Rows.fnUseLocalSpec.vars gs q → gs.length = 1 from fun h => by
      match gs, h with
      | [], h => exact h.elim
      | [_], _ => rfl
      | _ :: _ :: _, h =>
        obtain ⟨_, _, _, _, _, _, _, _, _, _, hr, _⟩ := h
        exact hr.elim) hV
    match gs, hn with
    | [gd], _ => exact ⟨gd, rfl⟩
  have k0 := h0
  have lt0 : ∀ x ∈ p0, x.block < W.heap.size := by obtain ⟨m, hm⟩ := k0; exact DataW.trod_lt m _ _ _ hm
  obtain ⟨ao0, ln0, cp0, rfl⟩ := okWide_slice Tryz.underlying30 (hval 0 30 v0 rfl rfl)
  obtain ⟨A0, c0, rs0, ev0, hc0, hC0⟩ : ∃ A c rs, (Value.slice ao0 ln0 cp0) = .slice A rs.length c ∧ rs.length ≤ c ∧ YtnchgmjeoajmiaaGreatDoorW.PrintWords.Kd.C P.k42 W A rs.length rs := by
    obtain ⟨fuel, hf⟩ := h0
    exact open_rules (by simpa [Value.cells] using hf)
  rw [ev0] at k0 hW' ⊢
  have k1 := h1
  have lt1 : ∀ x ∈ p1, x.block < W.heap.size := by obtain ⟨m, hm⟩ := k1; exact DataW.trod_lt m _ _ _ hm
  obtain ⟨ao1, ln1, cp1, rfl⟩ := okWide_slice Tryz.underlying31 (hval 1 31 v1 rfl rfl)
  obtain ⟨A1, c1, rs1, ev1, hc1, hC1⟩ : ∃ A c rs, (Value.slice ao1 ln1 cp1) = .slice A rs.length c ∧ rs.length ≤ c ∧ (YtnchgmjeoajmiaaGreatDoorW.PrintWords.Kd.int .i64).C W A rs.length rs := by
    obtain ⟨fuel, hf⟩ := h1
    exact open_nums (by simpa [Value.cells] using hf)
  rw [ev1] at k1 hW' ⊢
  obtain ⟨a2, rfl, rfl, rfl, y2⟩ := open_string Tryz.underlying9 (hval 2 9 v2 rfl rfl) h2
  rw [MakeChecks.laidMetH_plain _ _ _ (by kernel_rfl)] at hL
  obtain ⟨p4, p6, G⟩ := gw_of hL (by simp [Rows.fnUseLocalRow]) (by simp [Rows.fnUseLocalRow]) (by simp [Rows.fnUseLocalRow]) (by simp [Rows.fnUseLocalRow]) (by simp [Rows.fnUseLocalRow])
  refine (fnUseLocal_calls p4 p6 A0 c0 rs0 A1 c1 rs1 a2 W G hc0 hC0 hc1 hC1).mono fun e W' ⟨he, bel⟩ => ?_
  subst he
  exact ⟨_, rfl, _, _, _, [], _, _, hW', trodAll_mk1 (shut_bool Tryz.underlying4 _), (trodAll_cons_mk (Below.trod fnUseLocal_laidOut (by kernel_rfl) (of_decide_eq_true (by kernel_rfl)) k0 bel lt0) (trodAll_cons_mk (Below.trod fnUseLocal_laidOut (by kernel_rfl) (of_decide_eq_true (by kernel_rfl)) k1 bel lt1) (trodAll_cons_mk (shut_string Tryz.underlying9 y2) trodAll_mk0))), var_kept (t0 := 246) fnUseLocal_laidOut bel table_type (by kernel_rfl) (of_decide_eq_true (by kernel_rfl)) hV, bel.frame _, fun h => by cases h⟩
set_option maxRecDepth 1000000 in
theorem fnUseLocal_holds : Rows.FnUseLocalSaid :=
  OpenClaim.holds_of_wide 7 Tryz.f7 rfl rfl rfl rfl rfl rfl rfl ⟨rfl, rfl, rfl, rfl, rfl⟩ rfl rfl rfl rfl rfl (by kernel_rfl) Tryz.func7 (joined_of fnUseLocal_k0 fact_laid fact_maps fnUseLocal_k3 fnUseLocal_k4 fnUseLocal_k5 fnUseLocal_k6 fnUseLocal_k7 fnUseLocal_k8 fnUseLocal_k9 fnUseLocal_k10 fnUseLocal_k11 fnUseLocal_k12 fnUseLocal_k13 fnUseLocal_k14 fnUseLocal_k15 fnUseLocal_k16 fnUseLocal_k17 fnUseLocal_k18 fnUseLocal_k19 fnUseLocal_k20 fnUseLocal_k21 fnUseLocal_k22 fnUseLocal_k23 fnUseLocal_k24 fnUseLocal_k25 fnUseLocal_k26 fnUseLocal_k27 fnUseLocal_k28 fnUseLocal_k29 fnUseLocal_k30 fnUseLocal_k31)
    (of_decide_eq_true (by kernel_rfl)) (by unfold Func.isWrapper; first | (rw [if_pos (by decide +kernel)]; kernel_rfl) | (rw [if_neg (by decide +kernel)]; exact ⟨rfl, rfl⟩))
    (fun os started H enc _ => fnUseLocal_lifted os started H enc)
theorem fnUseLocal_card : Rows.FnUseLocalCardSaid :=
  Claim7.holds_tied_plain_at .later [] [.data, .data, .data, .data, .listed, .data, .called, .called, .data, .zero, .pinned, .pinned] true (true, "255450aa6630a7317d4c7b85c8647b543eb43c66b87a2c3c8df52c519baec2f0") false fnUseLocal_holds (fun _ h => by cases h) (by kernel_rfl) (fun _ h => by cases h) fnUseLocal_row_tie rfl ⟨rfl, rfl⟩ (by kernel_rfl) rfl
    (fun f fn hf hfn => by
      obtain rfl : f = 7 := Option.some.inj ((show Tryz.prog.funcNamed "loop.example/pub-g01468/laws.FnUseLocal" = some 7 by kernel_rfl).symm.trans hf) |>.symm
      obtain rfl : fn = Tryz.f7 := (Option.some.inj (Tryz.func7.symm.trans hfn)).symm
      exact ⟨by kernel_rfl, fun j t ht => by
        rw [Tryz.params7] at ht
        have hm : t ∈ [30, 31, 9] := by simpa using Array.mem_of_getElem? ht
        have hall : ([30, 31, 9].all fun u => !Tryz.prog.wantsStandIn u) = true := by kernel_rfl
        exact (show Tryz.prog.wantsStandIn t = false by simpa using List.all_eq_true.1 hall t hm)⟩)
    (by kernel_rfl)
end Go.Proofs.YtnchgmjeoajmiaaGreatDoor
