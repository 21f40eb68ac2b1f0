/- A request to a host with a name goes through the proxy unless the host is localhost or a rule is for it: FnUseName returns true at every input, and what came in reads behind the call as before. The condition: the listed package-level variables hold, when the call begins, what their own texts lay (the tied card). -/
import Derived.Test.YtnchgmjeoajmiaaGreatDoorMc
import Derived.Test.YtnchgmjeoajmiaaGreatDoorTie
import Derived.Test.YtnchgmjeoajmiaaGreatDoorCards
import Derived.Test.YtnchgmjeoajmiaaGreatDoorFkFnUseName
import Derived.WalkKit
import Derived.ProofKit
import Derived.OpenShut
import Derived.ShutString
import Derived.Below
import Derived.Carry
import Derived.LaidMore
import Derived.Lay
import Derived.SevenTiedAt
import Derived.Stop.Joined
/-! Lawa -/
namespace Go.Proofs.YtnchgmjeoajmiaaGreatDoor
open Go.RowKit Go.Proofs.YtnchgmjeoajmiaaGreatDoorW.PrintWords
set_option linter.unusedSimpArgs false
set_option linter.unusedVariables false

/-- What each law gives. -/
def SaysTrue (w : World) (e : Ending) (w' : World) : Prop := e = .returned (.bool true) ∧ Below w.heap.size w w'

theorem not_le_big {n : Nat} (h : ¬ (2147483647 : Int) < (n : Int)) : n ≤ 2147483647 := by omega

theorem rks_of {rs : List P.S42} (h : rs.length ≤ 30 ∧ ∀ r ∈ rs, Rk r) : Rks rs := ⟨by omega, h.2⟩

theorem addr_text (nm port : ByteArray) : ((nm ++ (⟨#[58]⟩ : ByteArray)) ++ port) = MK (BL nm ++ [58] ++ BL port) := by
  apply eq_of_BL
  rw [BL_append, BL_append]

theorem bel_drawn {w w1 w2 : World} (h : Below w.heap.size w w1) (k : Drawn0 w1 w2) : Below w.heap.size w w2 := by
  obtain ⟨n, rfl⟩ := k
  exact pw_below_drewN h n

theorem local_eq (nm : ByteArray) : (nm.toList == [108, 111, 99, 97, 108, 104, 111, 115, 116]) = (BL nm == [108, 111, 99, 97, 108, 104, 111, 115, 116]) := by rw [toList_BL]

set_option maxRecDepth 100000 in
set_option maxHeartbeats 1000000 in
theorem fnUseName_calls (p4 p6 : Addr) (A : Option Addr) (c : Nat) (rs : List P.S42) (nm port : ByteArray) (w : World) (G : GW p4 p6 w) (hc : rs.length ≤ c) (hA : Kd.C P.k42 w A rs.length rs) :
    Calls Tryz.prog 8 #[.slice A rs.length c, .string nm, .string port] w (SaysTrue w) := by
  obtain ⟨kf, bf, hf, ef⟩ := fits2_ev rs
  have HF := Aside0.mk (P.laws_zzFits2.calls kf A c rs bf w hA hc hf)
  clear hf
  cases bf with
  | false =>
    clear hA
    go_enter Tryz.func8, Tryz.ntmps8
    go_wp2_with fail
    refine HF.out.mono ?_
    rintro e w1 ⟨rfl, b1⟩
    go_wp2_with fail
    go_ret
    exact ⟨rfl, b1⟩
  | true =>
  obtain ⟨lenR, fitR⟩ := ef rfl
  by_cases c1 : 2147483647 < nm.size
  · have d1 : decide ((2147483647 : Int) < (nm.size : Int)) = true := decide_eq_true (by omega)
    clear hA ef fitR c1
    go_enter Tryz.func8, Tryz.ntmps8
    go_wp2_with fail
    refine HF.out.mono ?_
    rintro e w1 ⟨rfl, b1⟩
    go_wp2_with fail
    go_ret
    exact ⟨rfl, b1⟩
  have d1 : decide ((2147483647 : Int) < (nm.size : Int)) = false := decide_eq_false (by omega)
  by_cases c2 : 2147483647 < port.size
  · have d2 : decide ((2147483647 : Int) < (port.size : Int)) = true := decide_eq_true (by omega)
    clear hA ef fitR c1 c2
    go_enter Tryz.func8, Tryz.ntmps8
    go_wp2_with fail
    refine HF.out.mono ?_
    rintro e w1 ⟨rfl, b1⟩
    go_wp2_with fail
    go_ret
    exact ⟨rfl, b1⟩
  have d2 : decide ((2147483647 : Int) < (port.size : Int)) = false := decide_eq_false (by omega)
  obtain ⟨br, er, hr⟩ := areRules_ev rs fitR lenR
  obtain ⟨kr, er⟩ := er.at
  obtain ⟨bn, en, hn⟩ := isName_ev nm (by omega)
  obtain ⟨kn, en⟩ := en.at
  obtain ⟨bp, ep, hp⟩ := isPort_ev port (by omega)
  obtain ⟨kp, ep⟩ := ep.at
  have HR := fun w' hb => Aside0.mk (P.spec_AreRules.calls kr A c rs br w' (Kd.C_below hA hb) hc er)
  have HN := fun w' => Aside0.mk (P.spec_IsName.calls kn nm bn w' en)
  have HP := fun w' => Aside0.mk (P.spec_IsPort.calls kp port bp w' ep)
  have HA := Aside0.mk hA
  have ER := Aside0.mk hr
  have EN := Aside0.mk hn
  have EP := Aside0.mk hp
  clear hA ef fitR c1 c2 er en ep hr hn hp
  cases br with
  | false =>
    go_enter Tryz.func8, Tryz.ntmps8
    go_wp2_with fail
    refine HF.out.mono ?_
    rintro e w1 ⟨rfl, b1⟩
    go_wp2_with fail
    refine (HR w1 b1).out.mono ?_
    rintro e w2 ⟨rfl, b2⟩
    have b2 := bel_then b1 b2
    go_wp2_with fail
    refine (works_calls p4 p6 _ (G.below b2)).mono ?_
    rintro e w3 ⟨rfl, b3⟩
    have b3 := bel_then b2 b3
    go_wp2_with fail
    go_ret
    exact ⟨rfl, b3⟩
  | true =>
  go_enter Tryz.func8, Tryz.ntmps8
  go_wp2_with fail
  refine HF.out.mono ?_
  rintro e w1 ⟨rfl, b1⟩
  go_wp2_with fail
  refine (HR w1 b1).out.mono ?_
  rintro e w2 ⟨rfl, b2⟩
  have b2 := bel_then b1 b2
  go_wp2_with fail
  refine (HN _).out.mono ?_
  rintro e w3 ⟨rfl, hw3⟩
  have b3 := bel_drawn b2 hw3
  clear hw3 b1 b2
  cases bn with
  | false =>
    go_wp2_with fail
    refine (works_calls p4 p6 _ (G.below b3)).mono ?_
    rintro e wk ⟨rfl, bk⟩
    have bk := bel_then b3 bk
    go_wp2_with fail
    go_ret
    exact ⟨rfl, bk⟩
  | true =>
  go_wp2_with fail
  refine (HP _).out.mono ?_
  rintro e w4 ⟨rfl, hw4⟩
  have b4 := bel_drawn b3 hw4
  clear hw4 b3
  cases bp with
  | false =>
    go_wp2_with fail
    refine (works_calls p4 p6 _ (G.below b4)).mono ?_
    rintro e wk ⟨rfl, bk⟩
    have bk := bel_then b4 bk
    go_wp2_with fail
    go_ret
    exact ⟨rfl, bk⟩
  | true =>
  have hN := EN.out (by simp)
  have hP := EP.out (by simp)
  have hK := rks_of (ER.out (by simp))
  have US := fun w' G => Aside0.mk (by
    have := uses_rules p4 p6 w' (joinB ⟨#[44]⟩ (rs.map ruleText)) rs (BL nm) (BL port) G (listed_plain rs hK) hN hP
    rw [← addr_text, MK_BL, MK_BL] at this
    exact this)
  have LT := fun w' hb => Aside0.mk (listText_calls p4 p6 rs ⟨#[44]⟩ A c w' (G.below hb) (fun r hr => (hK.2 r hr).small) (by have := hK.1; omega) (by decide) hc (Kd.C_below HA.out hb))
  have hns : nm.size ≤ 100 := by have := hN.len; rw [BL_size] at this; exact this
  have hps : port.size ≤ 5 := by have := hP.five; rw [BL_size] at this; exact this
  have hz : (nm ++ (⟨#[58]⟩ : ByteArray)).size = nm.size + 1 := ByteArray.size_append
  have HKs := Aside0.mk hK
  clear hN hP hK
  cases hloc : (nm.toList == [108, 111, 99, 97, 108, 104, 111, 115, 116]) with
  | true =>
    go_wp2_with fail
    refine (works_calls p4 p6 _ (G.below b4)).mono ?_
    rintro e w5 ⟨rfl, b5⟩
    have b5 := bel_then b4 b5
    go_wp2_with fail
    refine (LT _ b5).out.mono ?_
    rintro e w6 ⟨rfl, b6⟩
    have b6 := bel_then b5 b6
    go_wp2_with fail
    have U6 := (US w6 (G.below b6)).out
    rw [← local_eq, hloc] at U6
    refine U6.mono ?_
    rintro e w7 ⟨rfl, b7⟩
    have b7 := bel_then b6 b7
    go_wp2_with fail
    go_ret
    exact ⟨ret_bool (by simp), b7⟩
  | false =>
    obtain ⟨ka, hany⟩ := anyName_eq rs HKs.out nm port (by omega)
    rw [show mok nm port none = mok (MK (BL nm)) (MK (BL port)) none by rw [MK_BL, MK_BL]] at hany
    generalize hval : ((lists (effsOf rs) [] []).2.any (mok (MK (BL nm)) (MK (BL port)) none)) = val at hany
    have HAN := fun w' hb => Aside0.mk (P.spec_AnyName.calls ka A c rs nm port val w' (Kd.C_below HA.out hb) hc hany)
    have HVAL := Aside0.mk hval
    clear hany hval
    go_wp2_with fail
    refine (HAN _ b4).out.mono ?_
    rintro e w4' ⟨rfl, b4'⟩
    have b4' := bel_then b4 b4'
    go_wp2_with fail
    refine (works_calls p4 p6 _ (G.below b4')).mono ?_
    rintro e w5 ⟨rfl, b5⟩
    have b5 := bel_then b4' b5
    go_wp2_with fail
    refine (LT _ b5).out.mono ?_
    rintro e w6 ⟨rfl, b6⟩
    have b6 := bel_then b5 b6
    go_wp2_with fail
    have U6 := (US w6 (G.below b6)).out
    rw [← local_eq, hloc, ← MK_BL nm, ← MK_BL port, HVAL.out] at U6
    refine U6.mono ?_
    rintro e w7 ⟨rfl, b7⟩
    have b7 := bel_then b6 b7
    go_wp2_with fail
    go_ret
    exact ⟨ret_bool (by simp), b7⟩
end Go.Proofs.YtnchgmjeoajmiaaGreatDoor

/-! RowFnUseName -/
namespace Go.Proofs.YtnchgmjeoajmiaaGreatDoor
open Go.ChangeShapes Go.WideShapes Go.ChangeAt Go.RowKit
open Go.ChangeMaps (open_string shut_string)
set_option linter.unusedVariables false
set_option linter.unusedSimpArgs false
theorem fnUseName_own : ownKnob Tryz.prog.godebug = none := by kernel_rfl
theorem fnUseName_laidOut : laidOutB Tryz.prog = true := by kernel_rfl
set_option maxRecDepth 100000 in
theorem fnUseName_lifted (os : Os) (started : os.Started) (H : Type) (enc : TypeId × Value → H) :
    ReturnsInHanded {} Tryz.checked os 8 .any (fun w args => (Rows.fnUseNameSpec.pre enc Tryz.prog Tryz.f8 Rows.fnUseNameRow.domain false w args ∧ laidMetH Tryz.prog Rows.fnUseNameRow.laid w) ∧ sizedMet enc Tryz.prog Tryz.f8 (OpenSpec.ofChange Rows.fnUseNameSpec) false w args)
      (Rows.fnUseNameSpec.post enc Tryz.prog Tryz.f8 false true false false) := by
  refine returnsInHanded_of_change_and (C := Tryz.checked) (X := fun w _ => laidMetH Tryz.prog Rows.fnUseNameRow.laid w) (fun _ _ _ hh h => h.of_heap hh) fnUseName_own started (by kernel_rfl) Tryz.func8
    (ChangeSpec.witness_shaped (enc := enc) (C := Tryz.checked) (os := os) (X := fun w _ => laidMetH Tryz.prog Rows.fnUseNameRow.laid w) false (World.laidAll Tryz.prog os Rows.fnUseNameRow.laid) #[.slice none 0 0, .string ByteArray.empty, .string ByteArray.empty] 8 (World.laidAll_os _ _ _)
      (World.shaped_of_ZipB (by kernel_rfl) (by kernel_rfl)) (by kernel_rfl) (by kernel_rfl) (by kernel_rfl)
      (by rw [MakeChecks.laidMetH_plain _ _ _ (by kernel_rfl)]; exact laidMet_laidAll _ (by kernel_rfl) (by kernel_rfl))) ?_
  intro W base args ds gs before hval0 hW hcnd _ hL _
  have hval : ∀ (j : Nat) t v, Tryz.f8.params[j]? = some t → args[j]? = some v → Value.okWide Tryz.prog W .any base t v := hval0
  have hW' := hW
  obtain ⟨p, q, hA0, hV, rfl, hfz, hnd⟩ := hW
  have hA : DataW.TrodAll enc Tryz.prog W 0 (fun _ => true) true Tryz.f8.params.toList args.toList ds p := hA0
  rw [Tryz.params8] at hA hval
  obtain ⟨v0, vs0, d0, ds0, p0, q0, hargs, rfl, rfl, h0, r0⟩ := trodAll_cons hA
  obtain ⟨v1, vs1, d1, ds1, p1, q1, rfl, rfl, rfl, h1, r1⟩ := trodAll_cons r0
  obtain ⟨v2, vs2, d2, ds2, p2, q2, rfl, rfl, rfl, h2, r2⟩ := trodAll_cons r1
  obtain ⟨rfl, rfl, rfl⟩ := trodAll_nil r2
  obtain rfl : args = #[v0, v1, v2] := by cases args; simp_all
  obtain ⟨gd, rfl⟩ : ∃ gd, gs = [gd] := by
    have hn : gs.length = 1 := (show DataW.TrodVars enc Tryz.prog W (fun _ => true) Rows.fnUseNameSpec.vars gs q → gs.length = 1 from fun h => by
      match gs, h with
      | [], h => exact h.elim
      | [_], _ => rfl
      | _ :: _ :: _, h =>
        obtain ⟨_, _, _, _, _, _, _, _, _, _, hr, _⟩ := h
        exact hr.elim) hV
    match gs, hn with
    | [gd], _ => exact ⟨gd, rfl⟩
  have k0 := h0
  have lt0 : ∀ x ∈ p0, x.block < W.heap.size := by obtain ⟨m, hm⟩ := k0; exact DataW.trod_lt m _ _ _ hm
  obtain ⟨ao0, ln0, cp0, rfl⟩ := okWide_slice Tryz.underlying30 (hval 0 30 v0 rfl rfl)
  obtain ⟨A0, c0, rs0, ev0, hc0, hC0⟩ : ∃ A c rs, (Value.slice ao0 ln0 cp0) = .slice A rs.length c ∧ rs.length ≤ c ∧ YtnchgmjeoajmiaaGreatDoorW.PrintWords.Kd.C P.k42 W A rs.length rs := by
    obtain ⟨fuel, hf⟩ := h0
    exact open_rules (by simpa [Value.cells] using hf)
  rw [ev0] at k0 hW' ⊢
  obtain ⟨a1, rfl, rfl, rfl, y1⟩ := open_string Tryz.underlying9 (hval 1 9 v1 rfl rfl) h1
  obtain ⟨a2, rfl, rfl, rfl, y2⟩ := open_string Tryz.underlying9 (hval 2 9 v2 rfl rfl) h2
  rw [MakeChecks.laidMetH_plain _ _ _ (by kernel_rfl)] at hL
  obtain ⟨p4, p6, G⟩ := gw_of hL (by simp [Rows.fnUseNameRow]) (by simp [Rows.fnUseNameRow]) (by simp [Rows.fnUseNameRow]) (by simp [Rows.fnUseNameRow]) (by simp [Rows.fnUseNameRow])
  refine (fnUseName_calls p4 p6 A0 c0 rs0 a1 a2 W G hc0 hC0).mono fun e W' ⟨he, bel⟩ => ?_
  subst he
  exact ⟨_, rfl, _, _, _, [], _, _, hW', trodAll_mk1 (shut_bool Tryz.underlying4 _), (trodAll_cons_mk (Below.trod fnUseName_laidOut (by kernel_rfl) (of_decide_eq_true (by kernel_rfl)) k0 bel lt0) (trodAll_cons_mk (shut_string Tryz.underlying9 y1) (trodAll_cons_mk (shut_string Tryz.underlying9 y2) trodAll_mk0))), var_kept (t0 := 246) fnUseName_laidOut bel table_type (by kernel_rfl) (of_decide_eq_true (by kernel_rfl)) hV, bel.frame _, fun h => by cases h⟩
set_option maxRecDepth 1000000 in
theorem fnUseName_holds : Rows.FnUseNameSaid :=
  OpenClaim.holds_of_wide 8 Tryz.f8 rfl rfl rfl rfl rfl rfl rfl ⟨rfl, rfl, rfl, rfl, rfl⟩ rfl rfl rfl rfl rfl (by kernel_rfl) Tryz.func8 (joined_of fnUseName_k0 fact_laid fact_maps fnUseName_k3 fnUseName_k4 fnUseName_k5 fnUseName_k6 fnUseName_k7 fnUseName_k8 fnUseName_k9 fnUseName_k10 fnUseName_k11 fnUseName_k12 fnUseName_k13 fnUseName_k14 fnUseName_k15 fnUseName_k16 fnUseName_k17 fnUseName_k18 fnUseName_k19 fnUseName_k20 fnUseName_k21 fnUseName_k22 fnUseName_k23 fnUseName_k24 fnUseName_k25 fnUseName_k26 fnUseName_k27 fnUseName_k28 fnUseName_k29 fnUseName_k30 fnUseName_k31)
    (of_decide_eq_true (by kernel_rfl)) (by unfold Func.isWrapper; first | (rw [if_pos (by decide +kernel)]; kernel_rfl) | (rw [if_neg (by decide +kernel)]; exact ⟨rfl, rfl⟩))
    (fun os started H enc _ => fnUseName_lifted os started H enc)
theorem fnUseName_card : Rows.FnUseNameCardSaid :=
  Claim7.holds_tied_plain_at .later [] [.data, .data, .data, .data, .listed, .data, .called, .called, .data, .zero, .pinned, .pinned] true (true, "255450aa6630a7317d4c7b85c8647b543eb43c66b87a2c3c8df52c519baec2f0") false fnUseName_holds (fun _ h => by cases h) (by kernel_rfl) (fun _ h => by cases h) fnUseName_row_tie rfl ⟨rfl, rfl⟩ (by kernel_rfl) rfl
    (fun f fn hf hfn => by
      obtain rfl : f = 8 := Option.some.inj ((show Tryz.prog.funcNamed "loop.example/pub-g01468/laws.FnUseName" = some 8 by kernel_rfl).symm.trans hf) |>.symm
      obtain rfl : fn = Tryz.f8 := (Option.some.inj (Tryz.func8.symm.trans hfn)).symm
      exact ⟨by kernel_rfl, fun j t ht => by
        rw [Tryz.params8] at ht
        have hm : t ∈ [30, 9, 9] := by simpa using Array.mem_of_getElem? ht
        have hall : ([30, 9, 9].all fun u => !Tryz.prog.wantsStandIn u) = true := by kernel_rfl
        exact (show Tryz.prog.wantsStandIn t = false by simpa using List.all_eq_true.1 hall t hm)⟩)
    (by kernel_rfl)
end Go.Proofs.YtnchgmjeoajmiaaGreatDoor
