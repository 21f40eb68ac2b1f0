/- A rule over names is told to match a name and a port just where it is for them: FnRulesName returns true at every input, and what came in reads behind the call as before. The condition: the listed package-level variables hold, when the call begins, what their own texts lay (the tied card). -/
import Derived.Test.YtnchgmjeoajmiaaGreatDoorTie
import Derived.Test.YtnchgmjeoajmiaaGreatDoorCards
import Derived.Test.YtnchgmjeoajmiaaGreatDoorYFnRulesName
import Derived.Test.YtnchgmjeoajmiaaGreatDoorMc
import Derived.Test.YtnchgmjeoajmiaaGreatDoorFkFnRulesName
import Derived.WalkKit
import Derived.ProofKit
import Derived.OpenShut
import Derived.ShutString
import Derived.Below
import Derived.Carry
import Derived.LaidMore
import Derived.Lay
import Derived.SevenTiedAt
import Derived.Stop.Joined
/-! RowFnRulesName -/
namespace Go.Proofs.YtnchgmjeoajmiaaGreatDoor
open Go.ChangeShapes Go.WideShapes Go.ChangeAt Go.RowKit
open Go.ChangeMaps (open_string shut_string)
set_option linter.unusedVariables false
set_option linter.unusedSimpArgs false
theorem fnRulesName_own : ownKnob Tryz.prog.godebug = none := by kernel_rfl
theorem fnRulesName_laidOut : laidOutB Tryz.prog = true := by kernel_rfl
set_option maxRecDepth 100000 in
theorem fnRulesName_lifted (os : Os) (started : os.Started) (H : Type) (enc : TypeId × Value → H) :
    ReturnsInHanded {} Tryz.checked os 13 .any (fun w args => (Rows.fnRulesNameSpec.pre enc Tryz.prog Tryz.f13 Rows.fnRulesNameRow.domain false w args ∧ laidMetH Tryz.prog Rows.fnRulesNameRow.laid w) ∧ sizedMet enc Tryz.prog Tryz.f13 (OpenSpec.ofChange Rows.fnRulesNameSpec) false w args)
      (Rows.fnRulesNameSpec.post enc Tryz.prog Tryz.f13 false true false false) := by
  refine returnsInHanded_of_change_and (C := Tryz.checked) (X := fun w _ => laidMetH Tryz.prog Rows.fnRulesNameRow.laid w) (fun _ _ _ hh h => h.of_heap hh) fnRulesName_own started (by kernel_rfl) Tryz.func13
    (ChangeSpec.witness_shaped (enc := enc) (C := Tryz.checked) (os := os) (X := fun w _ => laidMetH Tryz.prog Rows.fnRulesNameRow.laid w) false (World.laidAll Tryz.prog os Rows.fnRulesNameRow.laid) #[.agg #[.int .i64 0, .string ByteArray.empty, .slice none 0 0, .int .i64 0, .string ByteArray.empty], .string ByteArray.empty, .string ByteArray.empty] 8 (World.laidAll_os _ _ _)
      (World.shaped_of_ZipB (by kernel_rfl) (by kernel_rfl)) (by kernel_rfl) (by kernel_rfl) (by kernel_rfl)
      (by rw [MakeChecks.laidMetH_plain _ _ _ (by kernel_rfl)]; exact laidMet_laidAll _ (by kernel_rfl) (by kernel_rfl))) ?_
  intro W base args ds gs before hval0 hW hcnd _ hL _
  have hval : ∀ (j : Nat) t v, Tryz.f13.params[j]? = some t → args[j]? = some v → Value.okWide Tryz.prog W .any base t v := hval0
  have hW' := hW
  obtain ⟨p, q, hA0, hV, rfl, hfz, hnd⟩ := hW
  have hA : DataW.TrodAll enc Tryz.prog W 0 (fun _ => true) true Tryz.f13.params.toList args.toList ds p := hA0
  rw [Tryz.params13] at hA hval
  obtain ⟨v0, vs0, d0, ds0, p0, q0, hargs, rfl, rfl, h0, r0⟩ := trodAll_cons hA
  obtain ⟨v1, vs1, d1, ds1, p1, q1, rfl, rfl, rfl, h1, r1⟩ := trodAll_cons r0
  obtain ⟨v2, vs2, d2, ds2, p2, q2, rfl, rfl, rfl, h2, r2⟩ := trodAll_cons r1
  obtain ⟨rfl, rfl, rfl⟩ := trodAll_nil r2
  obtain rfl : args = #[v0, v1, v2] := by cases args; simp_all
  obtain ⟨gd, rfl⟩ : ∃ gd, gs = [gd] := by
    have hn : gs.length = 1 := (show DataW.TrodVars enc Tryz.prog W (fun _ => true) Rows.fnRulesNameSpec.vars gs q → gs.length = 1 from fun h => by
      match gs, h with
      | [], h => exact h.elim
      | [_], _ => rfl
      | _ :: _ :: _, h =>
        obtain ⟨_, _, _, _, _, _, _, _, _, _, hr, _⟩ := h
        exact hr.elim) hV
    match gs, hn with
    | [gd], _ => exact ⟨gd, rfl⟩
  have k0 := h0
  have lt0 : ∀ x ∈ p0, x.block < W.heap.size := by obtain ⟨m, hm⟩ := k0; exact DataW.trod_lt m _ _ _ hm
  obtain ⟨cs0, rfl, sz0⟩ := okWide_struct Tryz.underlying42 (hval 0 42 v0 rfl rfl)
  obtain ⟨rr0, A0, c0, ev0, hc0, hC0⟩ : ∃ (r : P.S42) (A : Option Addr) (c : Nat), cs0 = #[.int .i64 r.f0, .string r.f1, .slice A r.f2.length c, .int .i64 r.f3, .string r.f4] ∧ r.f2.length ≤ c ∧ (YtnchgmjeoajmiaaGreatDoorW.PrintWords.Kd.int .i64).C W A r.f2.length r.f2 := by
    obtain ⟨fuel, hf⟩ := h0
    obtain ⟨r, hK, _⟩ := open_rule (.inr trivial) (show DataW.trod _ _ _ _ _ _ _ _ cs0.toList = _ by simpa [Value.cells] using hf)
    obtain ⟨A, c, e, hc, hC⟩ := P.k42_open hK
    exact ⟨r, A, c, by apply Array.ext'; rw [e], hc, hC⟩
  subst ev0
  obtain ⟨a1, rfl, rfl, rfl, y1⟩ := open_string Tryz.underlying9 (hval 1 9 v1 rfl rfl) h1
  obtain ⟨a2, rfl, rfl, rfl, y2⟩ := open_string Tryz.underlying9 (hval 2 9 v2 rfl rfl) h2
  rw [MakeChecks.laidMetH_plain _ _ _ (by kernel_rfl)] at hL
  obtain ⟨p4, p6, G⟩ := gw_of hL (by simp [Rows.fnRulesNameRow]) (by simp [Rows.fnRulesNameRow]) (by simp [Rows.fnRulesNameRow]) (by simp [Rows.fnRulesNameRow]) (by simp [Rows.fnRulesNameRow])
  refine (fnRulesName_calls p4 p6 A0 c0 rr0 a1 a2 W G hc0 hC0).mono fun e W' ⟨he, bel⟩ => ?_
  subst he
  exact ⟨_, rfl, _, _, _, [], _, _, hW', trodAll_mk1 (shut_bool Tryz.underlying4 _), (trodAll_cons_mk (Below.trod fnRulesName_laidOut (by kernel_rfl) (of_decide_eq_true (by kernel_rfl)) k0 bel lt0) (trodAll_cons_mk (shut_string Tryz.underlying9 y1) (trodAll_cons_mk (shut_string Tryz.underlying9 y2) trodAll_mk0))), var_kept (t0 := 246) fnRulesName_laidOut bel table_type (by kernel_rfl) (of_decide_eq_true (by kernel_rfl)) hV, bel.frame _, fun h => by cases h⟩
set_option maxRecDepth 1000000 in
theorem fnRulesName_holds : Rows.FnRulesNameSaid :=
  OpenClaim.holds_of_wide 13 Tryz.f13 rfl rfl rfl rfl rfl rfl rfl ⟨rfl, rfl, rfl, rfl, rfl⟩ rfl rfl rfl rfl rfl (by kernel_rfl) Tryz.func13 (joined_of fnRulesName_k0 fact_laid fact_maps fnRulesName_k3 fnRulesName_k4 fnRulesName_k5 fnRulesName_k6 fnRulesName_k7 fnRulesName_k8 fnRulesName_k9 fnRulesName_k10 fnRulesName_k11 fnRulesName_k12 fnRulesName_k13 fnRulesName_k14 fnRulesName_k15 fnRulesName_k16 fnRulesName_k17 fnRulesName_k18 fnRulesName_k19 fnRulesName_k20 fnRulesName_k21 fnRulesName_k22 fnRulesName_k23 fnRulesName_k24 fnRulesName_k25 fnRulesName_k26 fnRulesName_k27 fnRulesName_k28 fnRulesName_k29 fnRulesName_k30 fnRulesName_k31)
    (of_decide_eq_true (by kernel_rfl)) (by unfold Func.isWrapper; first | (rw [if_pos (by decide +kernel)]; kernel_rfl) | (rw [if_neg (by decide +kernel)]; exact ⟨rfl, rfl⟩))
    (fun os started H enc _ => fnRulesName_lifted os started H enc)
theorem fnRulesName_card : Rows.FnRulesNameCardSaid :=
  Claim7.holds_tied_plain_at .later [] [.data, .data, .data, .data, .listed, .data, .called, .called, .data, .zero, .pinned, .pinned] true (true, "255450aa6630a7317d4c7b85c8647b543eb43c66b87a2c3c8df52c519baec2f0") false fnRulesName_holds (fun _ h => by cases h) (by kernel_rfl) (fun _ h => by cases h) fnRulesName_row_tie rfl ⟨rfl, rfl⟩ (by kernel_rfl) rfl
    (fun f fn hf hfn => by
      obtain rfl : f = 13 := Option.some.inj ((show Tryz.prog.funcNamed "loop.example/pub-g01468/laws.FnRulesName" = some 13 by kernel_rfl).symm.trans hf) |>.symm
      obtain rfl : fn = Tryz.f13 := (Option.some.inj (Tryz.func13.symm.trans hfn)).symm
      exact ⟨by kernel_rfl, fun j t ht => by
        rw [Tryz.params13] at ht
        have hm : t ∈ [42, 9, 9] := by simpa using Array.mem_of_getElem? ht
        have hall : ([42, 9, 9].all fun u => !Tryz.prog.wantsStandIn u) = true := by kernel_rfl
        exact (show Tryz.prog.wantsStandIn t = false by simpa using List.all_eq_true.1 hall t hm)⟩)
    (by kernel_rfl)
end Go.Proofs.YtnchgmjeoajmiaaGreatDoor
