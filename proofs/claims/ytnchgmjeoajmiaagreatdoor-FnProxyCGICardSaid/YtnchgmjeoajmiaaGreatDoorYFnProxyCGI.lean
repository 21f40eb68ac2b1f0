/- In a CGI handler the proxy for http is an error where it would be used, and that for https is not: FnProxyCGI returns true at every input, and what came in reads behind the call as before. Here: its walk. The condition: the listed package-level variables hold, when the call begins, what their own texts lay (the tied card). -/
import Derived.Test.YtnchgmjeoajmiaaGreatDoorNe
import Derived.Test.YtnchgmjeoajmiaaGreatDoorNc
/-! Lawcgi -/
namespace Go.Proofs.YtnchgmjeoajmiaaGreatDoor
open Go.RowKit Go.Proofs.YtnchgmjeoajmiaaGreatDoorW.PrintWords
set_option linter.unusedSimpArgs false
set_option linter.unusedVariables false

set_option maxRecDepth 100000 in
set_option maxHeartbeats 1000000 in
/-- In a CGI handler. -/
theorem fnProxyCGI_calls (p4 p6 : Addr) (px : ByteArray) (pp : ByteArray) (nm : ByteArray) (w : World) (G : GW p4 p6 w) (U : UT w) (pm : PM w) :
    Calls Tryz.prog 3 #[.string px, .string pp, .string nm] w (SaysTrue w) := by
  have b0 : Below w.heap.size w w := Below.refl _ _
  go_enter Tryz.func3, Tryz.ntmps3
  cases d_px : decide ((2147483647 : Int) < (px.size : Int)) with
  | true =>
    go_wp2_with fail
    go_ret
    exact ⟨rfl, b0⟩
  | false =>
  have sz_px : px.size ≤ 2147483647 := not_le_big (of_decide_eq_false d_px)
  cases d_pp : decide ((2147483647 : Int) < (pp.size : Int)) with
  | true =>
    go_wp2_with fail
    go_ret
    exact ⟨rfl, b0⟩
  | false =>
  have sz_pp : pp.size ≤ 2147483647 := not_le_big (of_decide_eq_false d_pp)
  cases d_nm : decide ((2147483647 : Int) < (nm.size : Int)) with
  | true =>
    go_wp2_with fail
    go_ret
    exact ⟨rfl, b0⟩
  | false =>
  have sz_nm : nm.size ≤ 2147483647 := not_le_big (of_decide_eq_false d_nm)
  obtain ⟨br_px, er_px, hr_px⟩ := isName_ev px sz_px
  obtain ⟨kr_px, er_px⟩ := er_px.at
  have HE_px := Aside0.mk er_px
  have OK_px := Aside0.mk hr_px
  clear er_px hr_px
  go_wp2_with fail
  refine (P.spec_IsName.calls kr_px px br_px _ HE_px.out).mono ?_
  rintro e w1 ⟨rfl, c1⟩
  have b1 := bel_drawn b0 c1
  clear c1
  cases br_px with
  | false =>
    go_wp2_with fail
    refine (answers_calls p4 p6 _ (G.below b1) (U.below b1) (pm.below b1)).mono ?_
    rintro e w2 ⟨rfl, c2⟩
    have b2 := bel_then b1 c2
    clear c2
    go_wp2_with fail
    go_ret
    exact ⟨rfl, b2⟩
  | true =>
  replace OK_px := Aside0.mk (OK_px.out rfl)
  obtain ⟨br_pp, er_pp, hr_pp⟩ := isPort_ev pp sz_pp
  obtain ⟨kr_pp, er_pp⟩ := er_pp.at
  have HE_pp := Aside0.mk er_pp
  have OK_pp := Aside0.mk hr_pp
  clear er_pp hr_pp
  go_wp2_with fail
  refine (P.spec_IsPort.calls kr_pp pp br_pp _ HE_pp.out).mono ?_
  rintro e w2 ⟨rfl, c2⟩
  have b2 := bel_drawn b1 c2
  clear c2
  cases br_pp with
  | false =>
    go_wp2_with fail
    refine (answers_calls p4 p6 _ (G.below b2) (U.below b2) (pm.below b2)).mono ?_
    rintro e w3 ⟨rfl, c3⟩
    have b3 := bel_then b2 c3
    clear c3
    go_wp2_with fail
    go_ret
    exact ⟨rfl, b3⟩
  | true =>
  replace OK_pp := Aside0.mk (OK_pp.out rfl)
  obtain ⟨br_nm, er_nm, hr_nm⟩ := isName_ev nm sz_nm
  obtain ⟨kr_nm, er_nm⟩ := er_nm.at
  have HE_nm := Aside0.mk er_nm
  have OK_nm := Aside0.mk hr_nm
  clear er_nm hr_nm
  go_wp2_with fail
  refine (P.spec_IsName.calls kr_nm nm br_nm _ HE_nm.out).mono ?_
  rintro e w3 ⟨rfl, c3⟩
  have b3 := bel_drawn b2 c3
  clear c3
  cases br_nm with
  | false =>
    go_wp2_with fail
    refine (answers_calls p4 p6 _ (G.below b3) (U.below b3) (pm.below b3)).mono ?_
    rintro e w4 ⟨rfl, c4⟩
    have b4 := bel_then b3 c4
    clear c4
    go_wp2_with fail
    go_ret
    exact ⟨rfl, b4⟩
  | true =>
  replace OK_nm := Aside0.mk (OK_nm.out rfl)
  cases hq_a : (nm.toList == [108, 111, 99, 97, 108, 104, 111, 115, 116]) with
  | true =>
    go_wp2_with fail
    refine (answers_calls p4 p6 _ (G.below b3) (U.below b3) (pm.below b3)).mono ?_
    rintro e w4 ⟨rfl, c4⟩
    have b4 := bel_then b3 c4
    clear c4
    go_wp2_with fail
    go_ret
    exact ⟨rfl, b4⟩
  | false =>
  have pns : px.size ≤ 100 := by have := OK_px.out.len; rw [BL_size] at this; exact this
  have pps : pp.size ≤ 5 := by have := OK_pp.out.five; rw [BL_size] at this; exact this
  have hz : (px ++ (⟨#[58]⟩ : ByteArray)).size = px.size + 1 := ByteArray.size_append
  have PTA := Aside0.mk (show PT ((px ++ (⟨#[58]⟩ : ByteArray)) ++ pp) from .inr ⟨BL px, BL pp, OK_px.out, OK_pp.out, addr_text px pp⟩)
  have NE := Aside0.mk (show ((px ++ (⟨#[58]⟩ : ByteArray)) ++ pp) ≠ ⟨#[]⟩ from by rw [addr_text px pp]; exact np_ne _ _)
  have C2 := fun w' g u m => Aside0.mk (by
    have := pf_use p4 p6 ((px ++ (⟨#[58]⟩ : ByteArray)) ++ pp) ((px ++ (⟨#[58]⟩ : ByteArray)) ++ pp) httpsT ⟨#[52, 52, 51]⟩ ((px ++ (⟨#[58]⟩ : ByteArray)) ++ pp) (BL nm) [] true w' g u m PTA.out PTA.out (.inr ⟨rfl, rfl, rfl⟩) NE.out OK_nm.out (by rw [← toList_BL]; exact beq_eq_false_iff_ne.1 hq_a)
    rw [MK_BL] at this
    exact this)
  generalize hS : (px ++ (⟨#[58]⟩ : ByteArray)) ++ pp = S at *
  go_wp2_with fail
  have hb0 : Below w3.heap.size w3 (w3.alloc (.cells #[.string S, .string S, .string ⟨#[]⟩, .bool true] 25)) := by go_grown
  have BOX := Aside0.mk (heap1 w3 (.cells #[.string S, .string S, .string ⟨#[]⟩, .bool true] 25))
  have b4 := bel_then b3 hb0
  have hlt := blk_lt BOX.out
  generalize hW0 : w3.alloc (.cells #[.string S, .string S, .string ⟨#[]⟩, .bool true] 25) = W0 at *
  refine (pf_cgi p4 p6 S S nm _ (G.below b4) (U.below b4) PTA.out PTA.out NE.out).mono ?_
  rintro e w5 ⟨rfl, c5⟩
  have row := (c5.block _ hlt).trans BOX.out
  have b5 := bel_then b4 c5
  have d0 := blk_cell row 0
  have d1 := blk_cell row 1
  have d2 := blk_cell row 2
  have d3 := blk_cell row 3
  simp only [List.getElem?_toArray, List.getElem?_cons_zero, List.getElem?_cons_succ] at d0 d1 d2 d3
  clear row hb0 hlt c5 b4
  go_wp2_with fail
  refine (C2 _ (G.below b5) (U.below b5) (pm.below b5)).out.mono ?_
  rintro e w6 ⟨rfl, c6⟩
  have b6 := bel_then b5 c6
  clear c6 d0 d1 d2 d3 b5
  go_wp2_with fail
  refine (answers_calls p4 p6 _ (G.below b6) (U.below b6) (pm.below b6)).mono ?_
  rintro e w7 ⟨rfl, c7⟩
  have b7 := bel_then b6 c7
  clear c7
  go_wp2_with fail
  go_ret
  exact ⟨ret_bool (by simp [hS]), b7⟩
end Go.Proofs.YtnchgmjeoajmiaaGreatDoor
