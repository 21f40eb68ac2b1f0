/- A rule over addresses is told to match an address and a port just where it is for them: FnRulesAddress returns true at every input, and what came in reads behind the call as before. The condition: the listed package-level variables hold, when the call begins, what their own texts lay (the tied card). -/
import Derived.Test.YtnchgmjeoajmiaaGreatDoorTie
import Derived.Test.YtnchgmjeoajmiaaGreatDoorCards
import Derived.Test.YtnchgmjeoajmiaaGreatDoorYFnRulesAddress
import Derived.Test.YtnchgmjeoajmiaaGreatDoorMc
import Derived.Test.YtnchgmjeoajmiaaGreatDoorFkFnRulesAddress
import Derived.WalkKit
import Derived.ProofKit
import Derived.OpenShut
import Derived.ShutString
import Derived.Below
import Derived.Carry
import Derived.LaidMore
import Derived.Lay
import Derived.SevenTiedAt
import Derived.Stop.Joined
/-! RowFnRulesAddress -/
namespace Go.Proofs.YtnchgmjeoajmiaaGreatDoor
open Go.ChangeShapes Go.WideShapes Go.ChangeAt Go.RowKit
open Go.ChangeMaps (open_string shut_string)
set_option linter.unusedVariables false
set_option linter.unusedSimpArgs false
theorem fnRulesAddress_own : ownKnob Tryz.prog.godebug = none := by kernel_rfl
theorem fnRulesAddress_laidOut : laidOutB Tryz.prog = true := by kernel_rfl
set_option maxRecDepth 100000 in
theorem fnRulesAddress_lifted (os : Os) (started : os.Started) (H : Type) (enc : TypeId × Value → H) :
    ReturnsInHanded {} Tryz.checked os 12 .any (fun w args => (Rows.fnRulesAddressSpec.pre enc Tryz.prog Tryz.f12 Rows.fnRulesAddressRow.domain false w args ∧ laidMetH Tryz.prog Rows.fnRulesAddressRow.laid w) ∧ sizedMet enc Tryz.prog Tryz.f12 (OpenSpec.ofChange Rows.fnRulesAddressSpec) false w args)
      (Rows.fnRulesAddressSpec.post enc Tryz.prog Tryz.f12 false true false false) := by
  refine returnsInHanded_of_change_and (C := Tryz.checked) (X := fun w _ => laidMetH Tryz.prog Rows.fnRulesAddressRow.laid w) (fun _ _ _ hh h => h.of_heap hh) fnRulesAddress_own started (by kernel_rfl) Tryz.func12
    (ChangeSpec.witness_shaped (enc := enc) (C := Tryz.checked) (os := os) (X := fun w _ => laidMetH Tryz.prog Rows.fnRulesAddressRow.laid w) false (World.laidAll Tryz.prog os Rows.fnRulesAddressRow.laid) #[.agg #[.int .i64 0, .string ByteArray.empty, .slice none 0 0, .int .i64 0, .string ByteArray.empty], .slice none 0 0, .string ByteArray.empty] 8 (World.laidAll_os _ _ _)
      (World.shaped_of_ZipB (by kernel_rfl) (by kernel_rfl)) (by kernel_rfl) (by kernel_rfl) (by kernel_rfl)
      (by rw [MakeChecks.laidMetH_plain _ _ _ (by kernel_rfl)]; exact laidMet_laidAll _ (by kernel_rfl) (by kernel_rfl))) ?_
  intro W base args ds gs before hval0 hW hcnd _ hL _
  have hval : ∀ (j : Nat) t v, Tryz.f12.params[j]? = some t → args[j]? = some v → Value.okWide Tryz.prog W .any base t v := hval0
  have hW' := hW
  obtain ⟨p, q, hA0, hV, rfl, hfz, hnd⟩ := hW
  have hA : DataW.TrodAll enc Tryz.prog W 0 (fun _ => true) true Tryz.f12.params.toList args.toList ds p := hA0
  rw [Tryz.params12] at hA hval
  obtain ⟨v0, vs0, d0, ds0, p0, q0, hargs, rfl, rfl, h0, r0⟩ := trodAll_cons hA
  obtain ⟨v1, vs1, d1, ds1, p1, q1, rfl, rfl, rfl, h1, r1⟩ := trodAll_cons r0
  obtain ⟨v2, vs2, d2, ds2, p2, q2, rfl, rfl, rfl, h2, r2⟩ := trodAll_cons r1
  obtain ⟨rfl, rfl, rfl⟩ := trodAll_nil r2
  obtain rfl : args = #[v0, v1, v2] := by cases args; simp_all
  obtain ⟨gd, rfl⟩ : ∃ gd, gs = [gd] := by
    have hn : gs.length = 1 := (show DataW.TrodVars enc Tryz.prog W (fun _ => true) Rows.fnRulesAddressSpec.vars gs q → gs.length = 1 from fun h => by
      match gs, h with
      | [], h => exact h.elim
      | [_], _ => rfl
      | _ :: _ :: _, h =>
        obtain ⟨_, _, _, _, _, _, _, _, _, _, hr, _⟩ := h
        exact hr.elim) hV
    match gs, hn with
    | [gd], _ => exact ⟨gd, rfl⟩
  have k0 := h0
  have lt0 : ∀ x ∈ p0, x.block < W.heap.size := by obtain ⟨m, hm⟩ := k0; exact DataW.trod_lt m _ _ _ hm
  obtain ⟨cs0, rfl, sz0⟩ := okWide_struct Tryz.underlying42 (hval 0 42 v0 rfl rfl)
  obtain ⟨rr0, A0, c0, ev0, hc0, hC0⟩ : ∃ (r : P.S42) (A : Option Addr) (c : Nat), cs0 = #[.int .i64 r.f0, .string r.f1, .slice A r.f2.length c, .int .i64 r.f3, .string r.f4] ∧ r.f2.length ≤ c ∧ (YtnchgmjeoajmiaaGreatDoorW.PrintWords.Kd.int .i64).C W A r.f2.length r.f2 := by
    obtain ⟨fuel, hf⟩ := h0
    obtain ⟨r, hK, _⟩ := open_rule (.inr trivial) (show DataW.trod _ _ _ _ _ _ _ _ cs0.toList = _ by simpa [Value.cells] using hf)
    obtain ⟨A, c, e, hc, hC⟩ := P.k42_open hK
    exact ⟨r, A, c, by apply Array.ext'; rw [e], hc, hC⟩
  subst ev0
  have k1 := h1
  have lt1 : ∀ x ∈ p1, x.block < W.heap.size := by obtain ⟨m, hm⟩ := k1; exact DataW.trod_lt m _ _ _ hm
  obtain ⟨ao1, ln1, cp1, rfl⟩ := okWide_slice Tryz.underlying31 (hval 1 31 v1 rfl rfl)
  obtain ⟨A1, c1, rs1, ev1, hc1, hC1⟩ : ∃ A c rs, (Value.slice ao1 ln1 cp1) = .slice A rs.length c ∧ rs.length ≤ c ∧ (YtnchgmjeoajmiaaGreatDoorW.PrintWords.Kd.int .i64).C W A rs.length rs := by
    obtain ⟨fuel, hf⟩ := h1
    exact open_nums (by simpa [Value.cells] using hf)
  rw [ev1] at k1 hW' ⊢
  obtain ⟨a2, rfl, rfl, rfl, y2⟩ := open_string Tryz.underlying9 (hval 2 9 v2 rfl rfl) h2
  rw [MakeChecks.laidMetH_plain _ _ _ (by kernel_rfl)] at hL
  obtain ⟨p4, p6, G⟩ := gw_of hL (by simp [Rows.fnRulesAddressRow]) (by simp [Rows.fnRulesAddressRow]) (by simp [Rows.fnRulesAddressRow]) (by simp [Rows.fnRulesAddressRow]) (by simp [Rows.fnRulesAddressRow])
  refine (fnRulesAddress_calls p4 p6 A0 c0 rr0 A1 c1 rs1 a2 W G hc0 hC0 hc1 hC1).mono fun e W' ⟨he, bel⟩ => ?_
  subst he
  exact ⟨_, rfl, _, _, _, [], _, _, hW', trodAll_mk1 (shut_bool Tryz.underlying4 _), (trodAll_cons_mk (Below.trod fnRulesAddress_laidOut (by kernel_rfl) (of_decide_eq_true (by kernel_rfl)) k0 bel lt0) (trodAll_cons_mk (Below.trod fnRulesAddress_laidOut (by kernel_rfl) (of_decide_eq_true (by kernel_rfl)) k1 bel lt1) (trodAll_cons_mk (shut_string Tryz.underlying9 y2) trodAll_mk0))), var_kept (t0 := 246) fnRulesAddress_laidOut bel table_type (by kernel_rfl) (of_decide_eq_true (by kernel_rfl)) hV, bel.frame _, fun h => by cases h⟩
set_option maxRecDepth 1000000 in
theorem fnRulesAddress_holds : Rows.FnRulesAddressSaid :=
  OpenClaim.holds_of_wide 12 Tryz.f12 rfl rfl rfl rfl rfl rfl rfl ⟨rfl, rfl, rfl, rfl, rfl⟩ rfl rfl rfl rfl rfl (by kernel_rfl) Tryz.func12 (joined_of fnRulesAddress_k0 fact_laid fact_maps fnRulesAddress_k3 fnRulesAddress_k4 fnRulesAddress_k5 fnRulesAddress_k6 fnRulesAddress_k7 fnRulesAddress_k8 fnRulesAddress_k9 fnRulesAddress_k10 fnRulesAddress_k11 fnRulesAddress_k12 fnRulesAddress_k13 fnRulesAddress_k14 fnRulesAddress_k15 fnRulesAddress_k16 fnRulesAddress_k17 fnRulesAddress_k18 fnRulesAddress_k19 fnRulesAddress_k20 fnRulesAddress_k21 fnRulesAddress_k22 fnRulesAddress_k23 fnRulesAddress_k24 fnRulesAddress_k25 fnRulesAddress_k26 fnRulesAddress_k27 fnRulesAddress_k28 fnRulesAddress_k29 fnRulesAddress_k30 fnRulesAddress_k31)
    (of_decide_eq_true (by kernel_rfl)) (by unfold Func.isWrapper; first | (rw [if_pos (by decide +kernel)]; kernel_rfl) | (rw [if_neg (by decide +kernel)]; exact ⟨rfl, rfl⟩))
    (fun os started H enc _ => fnRulesAddress_lifted os started H enc)
theorem fnRulesAddress_card : Rows.FnRulesAddressCardSaid :=
  Claim7.holds_tied_plain_at .later [] [.data, .data, .data, .data, .listed, .data, .called, .called, .data, .zero, .pinned, .pinned] true (true, "255450aa6630a7317d4c7b85c8647b543eb43c66b87a2c3c8df52c519baec2f0") false fnRulesAddress_holds (fun _ h => by cases h) (by kernel_rfl) (fun _ h => by cases h) fnRulesAddress_row_tie rfl ⟨rfl, rfl⟩ (by kernel_rfl) rfl
    (fun f fn hf hfn => by
      obtain rfl : f = 12 := Option.some.inj ((show Tryz.prog.funcNamed "loop.example/pub-g01468/laws.FnRulesAddress" = some 12 by kernel_rfl).symm.trans hf) |>.symm
      obtain rfl : fn = Tryz.f12 := (Option.some.inj (Tryz.func12.symm.trans hfn)).symm
      exact ⟨by kernel_rfl, fun j t ht => by
        rw [Tryz.params12] at ht
        have hm : t ∈ [42, 31, 9] := by simpa using Array.mem_of_getElem? ht
        have hall : ([42, 31, 9].all fun u => !Tryz.prog.wantsStandIn u) = true := by kernel_rfl
        exact (show Tryz.prog.wantsStandIn t = false by simpa using List.all_eq_true.1 hall t hm)⟩)
    (by kernel_rfl)
end Go.Proofs.YtnchgmjeoajmiaaGreatDoor
