-- PRINTED by print.py (a twelfth state) out of the translation. Not trusted: Lean checks it.
import Derived.Test.YtnchgmjeoajmiaaGreatDoorPx0
import Derived.Test.YtnchgmjeoajmiaaGreatDoorPx3
namespace Go.Proofs.YtnchgmjeoajmiaaGreatDoor.P
open Go.RowKit Go.Proofs.YtnchgmjeoajmiaaGreatDoorW.PrintWords Go.Proofs.YtnchgmjeoajmiaaGreatDoorW.PrintLast Go.Proofs.YtnchgmjeoajmiaaGreatDoorW.PrintMore
attribute [local go_sem] max2_int min2_int max_two min_two max_three min_three max_four min_four   -- for this text's walks alone
set_option linter.unusedVariables false
set_option linter.unusedSimpArgs false

/-! ### spec_MatchesName: function 36 -/
def spec_MatchesName.f (a0_0 : Int) (a0_1 : ByteArray) (l0_2 : List Int) (a0_3 : Int) (a0_4 : ByteArray) (a1 : ByteArray) (a2 : ByteArray) : Option (Bool) := if a0_0 = 0 then (if a1.toList = a0_1.toList then (if a0_4.toList = ([] : List UInt8) then (some true) else (some (a0_4.toList == a2.toList))) else ((spec_IsBelow.f a1 a0_1).bind fun t133 => (if t133 = true then (if a0_4.toList = ([] : List UInt8) then (some true) else (some (a0_4.toList == a2.toList))) else (some false)))) else (if a0_0 = 1 then ((spec_IsBelow.f a1 a0_1).bind fun t134 => (if t134 = true then (if a0_4.toList = ([] : List UInt8) then (some true) else (some (a0_4.toList == a2.toList))) else (some false))) else (some (a0_0 == 4)))
set_option maxHeartbeats 8000000 in
set_option maxRecDepth 100000 in
theorem spec_MatchesName.calls (a0_0 : Int) (a0_1 : ByteArray) (A0_2 : Option Addr) (c0_2 : Nat) (l0_2 : List Int) (a0_3 : Int) (a0_4 : ByteArray) (a1 : ByteArray) (a2 : ByteArray) (r : Bool) (w : World) (hr0_2 : Kd.C (Kd.int .i64) w A0_2 l0_2.length l0_2) (hc0_2 : l0_2.length ≤ c0_2) (h : spec_MatchesName.f a0_0 a0_1 l0_2 a0_3 a0_4 a1 a2 = some r) :
    Calls Tryz.prog 36 #[.agg #[.int .i64 a0_0, .string a0_1, .slice A0_2 l0_2.length c0_2, .int .i64 a0_3, .string a0_4], .string a1, .string a2] w fun e w' => e = .returned (.bool r) ∧ Below w.heap.size w w' := by
  have hu42 := Tryz.underlying42
  have HR0_2 := Aside0.mk hr0_2
  have HC0_2 := Aside0.mk hc0_2
  clear hr0_2 hc0_2
  have HB := Aside0.mk (Below.refl w.heap.size w)
  have H : (if a0_0 = 0 then (if a1.toList = a0_1.toList then (if a0_4.toList = ([] : List UInt8) then (some true) else (some (a0_4.toList == a2.toList))) else ((spec_IsBelow.f a1 a0_1).bind fun t133 => (if t133 = true then (if a0_4.toList = ([] : List UInt8) then (some true) else (some (a0_4.toList == a2.toList))) else (some false)))) else (if a0_0 = 1 then ((spec_IsBelow.f a1 a0_1).bind fun t134 => (if t134 = true then (if a0_4.toList = ([] : List UInt8) then (some true) else (some (a0_4.toList == a2.toList))) else (some false))) else (some (a0_0 == 4)))) = some r := h
  clear h
  by_cases c4 : a0_0 = 0
  · rw [if_pos c4] at H
    have c4b0 : (a0_0 == 0) = true := beq_iff_eq.mpr c4
    have c4b1 : (a0_0 != 0) = false := bne_eq_false_iff_eq.mpr c4
    clear c4
    by_cases c5 : a1.toList = a0_1.toList
    · rw [if_pos c5] at H
      have c5b0 : (a1.toList == a0_1.toList) = true := beq_iff_eq.mpr c5
      have c5b1 : (a1.toList != a0_1.toList) = false := bne_eq_false_iff_eq.mpr c5
      clear c5
      by_cases c6 : a0_4.toList = ([] : List UInt8)
      · rw [if_pos c6] at H
        have c6b0 : (a0_4.toList == ([] : List UInt8)) = true := beq_iff_eq.mpr c6
        have c6b1 : (a0_4.toList != ([] : List UInt8)) = false := bne_eq_false_iff_eq.mpr c6
        clear c6
        obtain rfl := Option.some.inj H
        go_enter Tryz.func36, Tryz.ntmps36
        go_wp2_with (first | ((with_reducible refine gate_dst (N := 3) rfl ?_); refine box_event ?hg (N := 3) ?hd (cs := #[.int .i64 a0_0, .string a0_1, .slice A0_2 l0_2.length c0_2, .int .i64 a0_3, .string a0_4]) (t := 42) ?hr ?_; (case hd => rfl); (case hg => rfl); (case hr => first | (go_simp; done) | (go_simp; rfl)); intro gb132 hg w7 hbox hb; have n0_ := Aside0.mk (below_step (by repeat (first | (with_reducible first | exact HB.out | apply below_alloc | apply pw_below_drewN | apply below_drew1) | exact HB.out)) hb); have n1_ := Aside0.mk (hbox); have n2_ := Aside0.mk ((by rw [hg]; exact (below_size (by repeat (first | (with_reducible first | exact HB.out | apply below_alloc | apply pw_below_drewN | apply below_drew1) | exact HB.out))) : w.heap.size ≤ gb132)); have n3_ := Aside0.mk ((by rw [hg]; exact (below_size (by repeat (first | (with_reducible first | exact HB.out | apply below_alloc | apply pw_below_drewN | apply below_drew1) | exact HB.out))) : w.heap.size ≤ gb132)); clear HB; have HB := n0_; have BK132 := n1_; have GW132 := n2_; have GE132 := n3_; clear n0_ n1_ n2_ n3_; clear hb hbox hg; have hcz8_0 : w7.cell? ⟨gb132, 0, none⟩ = some (.int .i64 a0_0) := (blk_cell BK132.out 0).trans rfl; have hcz8_1 : w7.cell? ⟨gb132, 1, none⟩ = some (.string a0_1) := (blk_cell BK132.out 1).trans rfl; have hcz8_2 : w7.cell? ⟨gb132, 2, none⟩ = some (.slice A0_2 l0_2.length c0_2) := (blk_cell BK132.out 2).trans rfl; have hcz8_3 : w7.cell? ⟨gb132, 3, none⟩ = some (.int .i64 a0_3) := (blk_cell BK132.out 3).trans rfl; have hcz8_4 : w7.cell? ⟨gb132, 4, none⟩ = some (.string a0_4) := (blk_cell BK132.out 4).trans rfl; have hfz8_0 := blk_frozen BK132.out 0; have hfz8_1 := blk_frozen BK132.out 1; have hfz8_2 := blk_frozen BK132.out 2; have hfz8_3 := blk_frozen BK132.out 3; have hfz8_4 := blk_frozen BK132.out 4))
        go_ret
        exact ⟨by first | rfl | (simp [errW_none, errW_some] <;> rfl) | (simp [*, errW_none, errW_some] <;> rfl), by repeat (first | (with_reducible first | exact HB.out | apply below_alloc | apply pw_below_drewN | apply below_drew1 | refine below_set ?_ GE132.out) | exact HB.out)⟩
      · rw [if_neg c6] at H
        have c6b0 : (a0_4.toList == ([] : List UInt8)) = false := beq_eq_false_iff_ne.mpr c6
        have c6b1 : (a0_4.toList != ([] : List UInt8)) = true := bne_iff_ne.mpr c6
        obtain rfl := Option.some.inj H
        go_enter Tryz.func36, Tryz.ntmps36
        go_wp2_with (first | ((with_reducible refine gate_dst (N := 3) rfl ?_); refine box_event ?hg (N := 3) ?hd (cs := #[.int .i64 a0_0, .string a0_1, .slice A0_2 l0_2.length c0_2, .int .i64 a0_3, .string a0_4]) (t := 42) ?hr ?_; (case hd => rfl); (case hg => rfl); (case hr => first | (go_simp; done) | (go_simp; rfl)); intro gb132 hg w9 hbox hb; have n0_ := Aside0.mk (below_step (by repeat (first | (with_reducible first | exact HB.out | apply below_alloc | apply pw_below_drewN | apply below_drew1) | exact HB.out)) hb); have n1_ := Aside0.mk (hbox); have n2_ := Aside0.mk ((by rw [hg]; exact (below_size (by repeat (first | (with_reducible first | exact HB.out | apply below_alloc | apply pw_below_drewN | apply below_drew1) | exact HB.out))) : w.heap.size ≤ gb132)); have n3_ := Aside0.mk ((by rw [hg]; exact (below_size (by repeat (first | (with_reducible first | exact HB.out | apply below_alloc | apply pw_below_drewN | apply below_drew1) | exact HB.out))) : w.heap.size ≤ gb132)); clear HB; have HB := n0_; have BK132 := n1_; have GW132 := n2_; have GE132 := n3_; clear n0_ n1_ n2_ n3_; clear hb hbox hg; have hcz10_0 : w9.cell? ⟨gb132, 0, none⟩ = some (.int .i64 a0_0) := (blk_cell BK132.out 0).trans rfl; have hcz10_1 : w9.cell? ⟨gb132, 1, none⟩ = some (.string a0_1) := (blk_cell BK132.out 1).trans rfl; have hcz10_2 : w9.cell? ⟨gb132, 2, none⟩ = some (.slice A0_2 l0_2.length c0_2) := (blk_cell BK132.out 2).trans rfl; have hcz10_3 : w9.cell? ⟨gb132, 3, none⟩ = some (.int .i64 a0_3) := (blk_cell BK132.out 3).trans rfl; have hcz10_4 : w9.cell? ⟨gb132, 4, none⟩ = some (.string a0_4) := (blk_cell BK132.out 4).trans rfl; have hfz10_0 := blk_frozen BK132.out 0; have hfz10_1 := blk_frozen BK132.out 1; have hfz10_2 := blk_frozen BK132.out 2; have hfz10_3 := blk_frozen BK132.out 3; have hfz10_4 := blk_frozen BK132.out 4))
        go_ret
        exact ⟨by first | rfl | (simp [errW_none, errW_some] <;> rfl) | (simp [*, errW_none, errW_some] <;> rfl), by repeat (first | (with_reducible first | exact HB.out | apply below_alloc | apply pw_below_drewN | apply below_drew1 | refine below_set ?_ GE132.out) | exact HB.out)⟩
    · rw [if_neg c5] at H
      have c5b0 : (a1.toList == a0_1.toList) = false := beq_eq_false_iff_ne.mpr c5
      have c5b1 : (a1.toList != a0_1.toList) = true := bne_iff_ne.mpr c5
      replace H := Option.bind_eq_some_iff.mp H
      obtain ⟨t133, A110, H⟩ := H
      replace H : (if t133 = true then (if a0_4.toList = ([] : List UInt8) then (some true) else (some (a0_4.toList == a2.toList))) else (some false)) = some r := H
      have A11 := Aside0.mk A110
      clear A110
      by_cases c12 : t133 = true
      · subst c12
        have H1 : (if a0_4.toList = ([] : List UInt8) then (some true) else (some (a0_4.toList == a2.toList))) = some r := by rw [if_pos rfl] at H; exact H
        clear H
        have H := H1
        clear H1
        by_cases c13 : a0_4.toList = ([] : List UInt8)
        · rw [if_pos c13] at H
          have c13b0 : (a0_4.toList == ([] : List UInt8)) = true := beq_iff_eq.mpr c13
          have c13b1 : (a0_4.toList != ([] : List UInt8)) = false := bne_eq_false_iff_eq.mpr c13
          clear c13
          obtain rfl := Option.some.inj H
          go_enter Tryz.func36, Tryz.ntmps36
          go_wp2_with (first | ((with_reducible refine gate_dst (N := 3) rfl ?_); refine box_event ?hg (N := 3) ?hd (cs := #[.int .i64 a0_0, .string a0_1, .slice A0_2 l0_2.length c0_2, .int .i64 a0_3, .string a0_4]) (t := 42) ?hr ?_; (case hd => rfl); (case hg => rfl); (case hr => first | (go_simp; done) | (go_simp; rfl)); intro gb132 hg w14 hbox hb; have n0_ := Aside0.mk (below_step (by repeat (first | (with_reducible first | exact HB.out | apply below_alloc | apply pw_below_drewN | apply below_drew1) | exact HB.out)) hb); have n1_ := Aside0.mk (hbox); have n2_ := Aside0.mk ((by rw [hg]; exact (below_size (by repeat (first | (with_reducible first | exact HB.out | apply below_alloc | apply pw_below_drewN | apply below_drew1) | exact HB.out))) : w.heap.size ≤ gb132)); have n3_ := Aside0.mk ((by rw [hg]; exact (below_size (by repeat (first | (with_reducible first | exact HB.out | apply below_alloc | apply pw_below_drewN | apply below_drew1) | exact HB.out))) : w.heap.size ≤ gb132)); clear HB; have HB := n0_; have BK132 := n1_; have GW132 := n2_; have GE132 := n3_; clear n0_ n1_ n2_ n3_; clear hb hbox hg; have hcz15_0 : w14.cell? ⟨gb132, 0, none⟩ = some (.int .i64 a0_0) := (blk_cell BK132.out 0).trans rfl; have hcz15_1 : w14.cell? ⟨gb132, 1, none⟩ = some (.string a0_1) := (blk_cell BK132.out 1).trans rfl; have hcz15_2 : w14.cell? ⟨gb132, 2, none⟩ = some (.slice A0_2 l0_2.length c0_2) := (blk_cell BK132.out 2).trans rfl; have hcz15_3 : w14.cell? ⟨gb132, 3, none⟩ = some (.int .i64 a0_3) := (blk_cell BK132.out 3).trans rfl; have hcz15_4 : w14.cell? ⟨gb132, 4, none⟩ = some (.string a0_4) := (blk_cell BK132.out 4).trans rfl; have hfz15_0 := blk_frozen BK132.out 0; have hfz15_1 := blk_frozen BK132.out 1; have hfz15_2 := blk_frozen BK132.out 2; have hfz15_3 := blk_frozen BK132.out 3; have hfz15_4 := blk_frozen BK132.out 4) | (go_at_call 45; (with_reducible refine (spec_IsBelow.calls a1 a0_1 true _ A11.out).mono ?_); rintro e w' ⟨rfl, ⟨nd, rfl⟩⟩))
          go_ret
          exact ⟨by first | rfl | (simp [errW_none, errW_some] <;> rfl) | (simp [*, errW_none, errW_some] <;> rfl), by repeat (first | (with_reducible first | exact HB.out | apply below_alloc | apply pw_below_drewN | apply below_drew1 | refine below_set ?_ GE132.out) | exact HB.out)⟩
        · rw [if_neg c13] at H
          have c13b0 : (a0_4.toList == ([] : List UInt8)) = false := beq_eq_false_iff_ne.mpr c13
          have c13b1 : (a0_4.toList != ([] : List UInt8)) = true := bne_iff_ne.mpr c13
          obtain rfl := Option.some.inj H
          go_enter Tryz.func36, Tryz.ntmps36
          go_wp2_with (first | ((with_reducible refine gate_dst (N := 3) rfl ?_); refine box_event ?hg (N := 3) ?hd (cs := #[.int .i64 a0_0, .string a0_1, .slice A0_2 l0_2.length c0_2, .int .i64 a0_3, .string a0_4]) (t := 42) ?hr ?_; (case hd => rfl); (case hg => rfl); (case hr => first | (go_simp; done) | (go_simp; rfl)); intro gb132 hg w16 hbox hb; have n0_ := Aside0.mk (below_step (by repeat (first | (with_reducible first | exact HB.out | apply below_alloc | apply pw_below_drewN | apply below_drew1) | exact HB.out)) hb); have n1_ := Aside0.mk (hbox); have n2_ := Aside0.mk ((by rw [hg]; exact (below_size (by repeat (first | (with_reducible first | exact HB.out | apply below_alloc | apply pw_below_drewN | apply below_drew1) | exact HB.out))) : w.heap.size ≤ gb132)); have n3_ := Aside0.mk ((by rw [hg]; exact (below_size (by repeat (first | (with_reducible first | exact HB.out | apply below_alloc | apply pw_below_drewN | apply below_drew1) | exact HB.out))) : w.heap.size ≤ gb132)); clear HB; have HB := n0_; have BK132 := n1_; have GW132 := n2_; have GE132 := n3_; clear n0_ n1_ n2_ n3_; clear hb hbox hg; have hcz17_0 : w16.cell? ⟨gb132, 0, none⟩ = some (.int .i64 a0_0) := (blk_cell BK132.out 0).trans rfl; have hcz17_1 : w16.cell? ⟨gb132, 1, none⟩ = some (.string a0_1) := (blk_cell BK132.out 1).trans rfl; have hcz17_2 : w16.cell? ⟨gb132, 2, none⟩ = some (.slice A0_2 l0_2.length c0_2) := (blk_cell BK132.out 2).trans rfl; have hcz17_3 : w16.cell? ⟨gb132, 3, none⟩ = some (.int .i64 a0_3) := (blk_cell BK132.out 3).trans rfl; have hcz17_4 : w16.cell? ⟨gb132, 4, none⟩ = some (.string a0_4) := (blk_cell BK132.out 4).trans rfl; have hfz17_0 := blk_frozen BK132.out 0; have hfz17_1 := blk_frozen BK132.out 1; have hfz17_2 := blk_frozen BK132.out 2; have hfz17_3 := blk_frozen BK132.out 3; have hfz17_4 := blk_frozen BK132.out 4) | (go_at_call 45; (with_reducible refine (spec_IsBelow.calls a1 a0_1 true _ A11.out).mono ?_); rintro e w' ⟨rfl, ⟨nd, rfl⟩⟩))
          go_ret
          exact ⟨by first | rfl | (simp [errW_none, errW_some] <;> rfl) | (simp [*, errW_none, errW_some] <;> rfl), by repeat (first | (with_reducible first | exact HB.out | apply below_alloc | apply pw_below_drewN | apply below_drew1 | refine below_set ?_ GE132.out) | exact HB.out)⟩
      · replace c12 := Bool.eq_false_iff.mpr c12
        subst c12
        have H1 : (some false) = some r := by rw [if_neg (show ¬ (false = true) by decide)] at H; exact H
        clear H
        have H := H1
        clear H1
        obtain rfl := Option.some.inj H
        go_enter Tryz.func36, Tryz.ntmps36
        go_wp2_with (first | ((with_reducible refine gate_dst (N := 3) rfl ?_); refine box_event ?hg (N := 3) ?hd (cs := #[.int .i64 a0_0, .string a0_1, .slice A0_2 l0_2.length c0_2, .int .i64 a0_3, .string a0_4]) (t := 42) ?hr ?_; (case hd => rfl); (case hg => rfl); (case hr => first | (go_simp; done) | (go_simp; rfl)); intro gb132 hg w18 hbox hb; have n0_ := Aside0.mk (below_step (by repeat (first | (with_reducible first | exact HB.out | apply below_alloc | apply pw_below_drewN | apply below_drew1) | exact HB.out)) hb); have n1_ := Aside0.mk (hbox); have n2_ := Aside0.mk ((by rw [hg]; exact (below_size (by repeat (first | (with_reducible first | exact HB.out | apply below_alloc | apply pw_below_drewN | apply below_drew1) | exact HB.out))) : w.heap.size ≤ gb132)); have n3_ := Aside0.mk ((by rw [hg]; exact (below_size (by repeat (first | (with_reducible first | exact HB.out | apply below_alloc | apply pw_below_drewN | apply below_drew1) | exact HB.out))) : w.heap.size ≤ gb132)); clear HB; have HB := n0_; have BK132 := n1_; have GW132 := n2_; have GE132 := n3_; clear n0_ n1_ n2_ n3_; clear hb hbox hg; have hcz19_0 : w18.cell? ⟨gb132, 0, none⟩ = some (.int .i64 a0_0) := (blk_cell BK132.out 0).trans rfl; have hcz19_1 : w18.cell? ⟨gb132, 1, none⟩ = some (.string a0_1) := (blk_cell BK132.out 1).trans rfl; have hcz19_2 : w18.cell? ⟨gb132, 2, none⟩ = some (.slice A0_2 l0_2.length c0_2) := (blk_cell BK132.out 2).trans rfl; have hcz19_3 : w18.cell? ⟨gb132, 3, none⟩ = some (.int .i64 a0_3) := (blk_cell BK132.out 3).trans rfl; have hcz19_4 : w18.cell? ⟨gb132, 4, none⟩ = some (.string a0_4) := (blk_cell BK132.out 4).trans rfl; have hfz19_0 := blk_frozen BK132.out 0; have hfz19_1 := blk_frozen BK132.out 1; have hfz19_2 := blk_frozen BK132.out 2; have hfz19_3 := blk_frozen BK132.out 3; have hfz19_4 := blk_frozen BK132.out 4) | (go_at_call 45; (with_reducible refine (spec_IsBelow.calls a1 a0_1 false _ A11.out).mono ?_); rintro e w' ⟨rfl, ⟨nd, rfl⟩⟩))
        go_ret
        exact ⟨by first | rfl | (simp [errW_none, errW_some] <;> rfl) | (simp [*, errW_none, errW_some] <;> rfl), by repeat (first | (with_reducible first | exact HB.out | apply below_alloc | apply pw_below_drewN | apply below_drew1 | refine below_set ?_ GE132.out) | exact HB.out)⟩
  · rw [if_neg c4] at H
    have c4b0 : (a0_0 == 0) = false := beq_eq_false_iff_ne.mpr c4
    have c4b1 : (a0_0 != 0) = true := bne_iff_ne.mpr c4
    by_cases c20 : a0_0 = 1
    · rw [if_pos c20] at H
      have c20b0 : (a0_0 == 1) = true := beq_iff_eq.mpr c20
      have c20b1 : (a0_0 != 1) = false := bne_eq_false_iff_eq.mpr c20
      clear c20
      replace H := Option.bind_eq_some_iff.mp H
      obtain ⟨t134, A210, H⟩ := H
      replace H : (if t134 = true then (if a0_4.toList = ([] : List UInt8) then (some true) else (some (a0_4.toList == a2.toList))) else (some false)) = some r := H
      have A21 := Aside0.mk A210
      clear A210
      by_cases c22 : t134 = true
      · subst c22
        have H1 : (if a0_4.toList = ([] : List UInt8) then (some true) else (some (a0_4.toList == a2.toList))) = some r := by rw [if_pos rfl] at H; exact H
        clear H
        have H := H1
        clear H1
        by_cases c23 : a0_4.toList = ([] : List UInt8)
        · rw [if_pos c23] at H
          have c23b0 : (a0_4.toList == ([] : List UInt8)) = true := beq_iff_eq.mpr c23
          have c23b1 : (a0_4.toList != ([] : List UInt8)) = false := bne_eq_false_iff_eq.mpr c23
          clear c23
          obtain rfl := Option.some.inj H
          go_enter Tryz.func36, Tryz.ntmps36
          go_wp2_with (first | ((with_reducible refine gate_dst (N := 3) rfl ?_); refine box_event ?hg (N := 3) ?hd (cs := #[.int .i64 a0_0, .string a0_1, .slice A0_2 l0_2.length c0_2, .int .i64 a0_3, .string a0_4]) (t := 42) ?hr ?_; (case hd => rfl); (case hg => rfl); (case hr => first | (go_simp; done) | (go_simp; rfl)); intro gb132 hg w24 hbox hb; have n0_ := Aside0.mk (below_step (by repeat (first | (with_reducible first | exact HB.out | apply below_alloc | apply pw_below_drewN | apply below_drew1) | exact HB.out)) hb); have n1_ := Aside0.mk (hbox); have n2_ := Aside0.mk ((by rw [hg]; exact (below_size (by repeat (first | (with_reducible first | exact HB.out | apply below_alloc | apply pw_below_drewN | apply below_drew1) | exact HB.out))) : w.heap.size ≤ gb132)); have n3_ := Aside0.mk ((by rw [hg]; exact (below_size (by repeat (first | (with_reducible first | exact HB.out | apply below_alloc | apply pw_below_drewN | apply below_drew1) | exact HB.out))) : w.heap.size ≤ gb132)); clear HB; have HB := n0_; have BK132 := n1_; have GW132 := n2_; have GE132 := n3_; clear n0_ n1_ n2_ n3_; clear hb hbox hg; have hcz25_0 : w24.cell? ⟨gb132, 0, none⟩ = some (.int .i64 a0_0) := (blk_cell BK132.out 0).trans rfl; have hcz25_1 : w24.cell? ⟨gb132, 1, none⟩ = some (.string a0_1) := (blk_cell BK132.out 1).trans rfl; have hcz25_2 : w24.cell? ⟨gb132, 2, none⟩ = some (.slice A0_2 l0_2.length c0_2) := (blk_cell BK132.out 2).trans rfl; have hcz25_3 : w24.cell? ⟨gb132, 3, none⟩ = some (.int .i64 a0_3) := (blk_cell BK132.out 3).trans rfl; have hcz25_4 : w24.cell? ⟨gb132, 4, none⟩ = some (.string a0_4) := (blk_cell BK132.out 4).trans rfl; have hfz25_0 := blk_frozen BK132.out 0; have hfz25_1 := blk_frozen BK132.out 1; have hfz25_2 := blk_frozen BK132.out 2; have hfz25_3 := blk_frozen BK132.out 3; have hfz25_4 := blk_frozen BK132.out 4) | ((with_reducible refine gate_callee (f := 45) rfl ?_); refine goesL_ (some 37) rfl rfl Tryz.func45 (by kernel_rfl) rfl #[.string a1, .string a0_1] rfl (by (try simp only [List.map_toArray, List.map_cons, List.map_nil]); first | done | rfl | (simp only [List.length_drop, List.length_take]; rfl)) ?_; (with_reducible refine (spec_IsBelow.calls a1 a0_1 true _ A21.out).mono ?_); rintro e w' ⟨rfl, ⟨nd, rfl⟩⟩; refine ⟨_, rfl, ?_⟩))
          go_ret
          exact ⟨by first | rfl | (simp [errW_none, errW_some] <;> rfl) | (simp [*, errW_none, errW_some] <;> rfl), by repeat (first | (with_reducible first | exact HB.out | apply below_alloc | apply pw_below_drewN | apply below_drew1 | refine below_set ?_ GE132.out) | exact HB.out)⟩
        · rw [if_neg c23] at H
          have c23b0 : (a0_4.toList == ([] : List UInt8)) = false := beq_eq_false_iff_ne.mpr c23
          have c23b1 : (a0_4.toList != ([] : List UInt8)) = true := bne_iff_ne.mpr c23
          obtain rfl := Option.some.inj H
          go_enter Tryz.func36, Tryz.ntmps36
          go_wp2_with (first | ((with_reducible refine gate_dst (N := 3) rfl ?_); refine box_event ?hg (N := 3) ?hd (cs := #[.int .i64 a0_0, .string a0_1, .slice A0_2 l0_2.length c0_2, .int .i64 a0_3, .string a0_4]) (t := 42) ?hr ?_; (case hd => rfl); (case hg => rfl); (case hr => first | (go_simp; done) | (go_simp; rfl)); intro gb132 hg w26 hbox hb; have n0_ := Aside0.mk (below_step (by repeat (first | (with_reducible first | exact HB.out | apply below_alloc | apply pw_below_drewN | apply below_drew1) | exact HB.out)) hb); have n1_ := Aside0.mk (hbox); have n2_ := Aside0.mk ((by rw [hg]; exact (below_size (by repeat (first | (with_reducible first | exact HB.out | apply below_alloc | apply pw_below_drewN | apply below_drew1) | exact HB.out))) : w.heap.size ≤ gb132)); have n3_ := Aside0.mk ((by rw [hg]; exact (below_size (by repeat (first | (with_reducible first | exact HB.out | apply below_alloc | apply pw_below_drewN | apply below_drew1) | exact HB.out))) : w.heap.size ≤ gb132)); clear HB; have HB := n0_; have BK132 := n1_; have GW132 := n2_; have GE132 := n3_; clear n0_ n1_ n2_ n3_; clear hb hbox hg; have hcz27_0 : w26.cell? ⟨gb132, 0, none⟩ = some (.int .i64 a0_0) := (blk_cell BK132.out 0).trans rfl; have hcz27_1 : w26.cell? ⟨gb132, 1, none⟩ = some (.string a0_1) := (blk_cell BK132.out 1).trans rfl; have hcz27_2 : w26.cell? ⟨gb132, 2, none⟩ = some (.slice A0_2 l0_2.length c0_2) := (blk_cell BK132.out 2).trans rfl; have hcz27_3 : w26.cell? ⟨gb132, 3, none⟩ = some (.int .i64 a0_3) := (blk_cell BK132.out 3).trans rfl; have hcz27_4 : w26.cell? ⟨gb132, 4, none⟩ = some (.string a0_4) := (blk_cell BK132.out 4).trans rfl; have hfz27_0 := blk_frozen BK132.out 0; have hfz27_1 := blk_frozen BK132.out 1; have hfz27_2 := blk_frozen BK132.out 2; have hfz27_3 := blk_frozen BK132.out 3; have hfz27_4 := blk_frozen BK132.out 4) | ((with_reducible refine gate_callee (f := 45) rfl ?_); refine goesL_ (some 37) rfl rfl Tryz.func45 (by kernel_rfl) rfl #[.string a1, .string a0_1] rfl (by (try simp only [List.map_toArray, List.map_cons, List.map_nil]); first | done | rfl | (simp only [List.length_drop, List.length_take]; rfl)) ?_; (with_reducible refine (spec_IsBelow.calls a1 a0_1 true _ A21.out).mono ?_); rintro e w' ⟨rfl, ⟨nd, rfl⟩⟩; refine ⟨_, rfl, ?_⟩))
          go_ret
          exact ⟨by first | rfl | (simp [errW_none, errW_some] <;> rfl) | (simp [*, errW_none, errW_some] <;> rfl), by repeat (first | (with_reducible first | exact HB.out | apply below_alloc | apply pw_below_drewN | apply below_drew1 | refine below_set ?_ GE132.out) | exact HB.out)⟩
      · replace c22 := Bool.eq_false_iff.mpr c22
        subst c22
        have H1 : (some false) = some r := by rw [if_neg (show ¬ (false = true) by decide)] at H; exact H
        clear H
        have H := H1
        clear H1
        obtain rfl := Option.some.inj H
        go_enter Tryz.func36, Tryz.ntmps36
        go_wp2_with (first | ((with_reducible refine gate_dst (N := 3) rfl ?_); refine box_event ?hg (N := 3) ?hd (cs := #[.int .i64 a0_0, .string a0_1, .slice A0_2 l0_2.length c0_2, .int .i64 a0_3, .string a0_4]) (t := 42) ?hr ?_; (case hd => rfl); (case hg => rfl); (case hr => first | (go_simp; done) | (go_simp; rfl)); intro gb132 hg w28 hbox hb; have n0_ := Aside0.mk (below_step (by repeat (first | (with_reducible first | exact HB.out | apply below_alloc | apply pw_below_drewN | apply below_drew1) | exact HB.out)) hb); have n1_ := Aside0.mk (hbox); have n2_ := Aside0.mk ((by rw [hg]; exact (below_size (by repeat (first | (with_reducible first | exact HB.out | apply below_alloc | apply pw_below_drewN | apply below_drew1) | exact HB.out))) : w.heap.size ≤ gb132)); have n3_ := Aside0.mk ((by rw [hg]; exact (below_size (by repeat (first | (with_reducible first | exact HB.out | apply below_alloc | apply pw_below_drewN | apply below_drew1) | exact HB.out))) : w.heap.size ≤ gb132)); clear HB; have HB := n0_; have BK132 := n1_; have GW132 := n2_; have GE132 := n3_; clear n0_ n1_ n2_ n3_; clear hb hbox hg; have hcz29_0 : w28.cell? ⟨gb132, 0, none⟩ = some (.int .i64 a0_0) := (blk_cell BK132.out 0).trans rfl; have hcz29_1 : w28.cell? ⟨gb132, 1, none⟩ = some (.string a0_1) := (blk_cell BK132.out 1).trans rfl; have hcz29_2 : w28.cell? ⟨gb132, 2, none⟩ = some (.slice A0_2 l0_2.length c0_2) := (blk_cell BK132.out 2).trans rfl; have hcz29_3 : w28.cell? ⟨gb132, 3, none⟩ = some (.int .i64 a0_3) := (blk_cell BK132.out 3).trans rfl; have hcz29_4 : w28.cell? ⟨gb132, 4, none⟩ = some (.string a0_4) := (blk_cell BK132.out 4).trans rfl; have hfz29_0 := blk_frozen BK132.out 0; have hfz29_1 := blk_frozen BK132.out 1; have hfz29_2 := blk_frozen BK132.out 2; have hfz29_3 := blk_frozen BK132.out 3; have hfz29_4 := blk_frozen BK132.out 4) | ((with_reducible refine gate_callee (f := 45) rfl ?_); refine goesL_ (some 37) rfl rfl Tryz.func45 (by kernel_rfl) rfl #[.string a1, .string a0_1] rfl (by (try simp only [List.map_toArray, List.map_cons, List.map_nil]); first | done | rfl | (simp only [List.length_drop, List.length_take]; rfl)) ?_; (with_reducible refine (spec_IsBelow.calls a1 a0_1 false _ A21.out).mono ?_); rintro e w' ⟨rfl, ⟨nd, rfl⟩⟩; refine ⟨_, rfl, ?_⟩))
        go_ret
        exact ⟨by first | rfl | (simp [errW_none, errW_some] <;> rfl) | (simp [*, errW_none, errW_some] <;> rfl), by repeat (first | (with_reducible first | exact HB.out | apply below_alloc | apply pw_below_drewN | apply below_drew1 | refine below_set ?_ GE132.out) | exact HB.out)⟩
    · rw [if_neg c20] at H
      have c20b0 : (a0_0 == 1) = false := beq_eq_false_iff_ne.mpr c20
      have c20b1 : (a0_0 != 1) = true := bne_iff_ne.mpr c20
      obtain rfl := Option.some.inj H
      go_enter Tryz.func36, Tryz.ntmps36
      go_wp2_with (first | ((with_reducible refine gate_dst (N := 3) rfl ?_); refine box_event ?hg (N := 3) ?hd (cs := #[.int .i64 a0_0, .string a0_1, .slice A0_2 l0_2.length c0_2, .int .i64 a0_3, .string a0_4]) (t := 42) ?hr ?_; (case hd => rfl); (case hg => rfl); (case hr => first | (go_simp; done) | (go_simp; rfl)); intro gb132 hg w30 hbox hb; have n0_ := Aside0.mk (below_step (by repeat (first | (with_reducible first | exact HB.out | apply below_alloc | apply pw_below_drewN | apply below_drew1) | exact HB.out)) hb); have n1_ := Aside0.mk (hbox); have n2_ := Aside0.mk ((by rw [hg]; exact (below_size (by repeat (first | (with_reducible first | exact HB.out | apply below_alloc | apply pw_below_drewN | apply below_drew1) | exact HB.out))) : w.heap.size ≤ gb132)); have n3_ := Aside0.mk ((by rw [hg]; exact (below_size (by repeat (first | (with_reducible first | exact HB.out | apply below_alloc | apply pw_below_drewN | apply below_drew1) | exact HB.out))) : w.heap.size ≤ gb132)); clear HB; have HB := n0_; have BK132 := n1_; have GW132 := n2_; have GE132 := n3_; clear n0_ n1_ n2_ n3_; clear hb hbox hg; have hcz31_0 : w30.cell? ⟨gb132, 0, none⟩ = some (.int .i64 a0_0) := (blk_cell BK132.out 0).trans rfl; have hcz31_1 : w30.cell? ⟨gb132, 1, none⟩ = some (.string a0_1) := (blk_cell BK132.out 1).trans rfl; have hcz31_2 : w30.cell? ⟨gb132, 2, none⟩ = some (.slice A0_2 l0_2.length c0_2) := (blk_cell BK132.out 2).trans rfl; have hcz31_3 : w30.cell? ⟨gb132, 3, none⟩ = some (.int .i64 a0_3) := (blk_cell BK132.out 3).trans rfl; have hcz31_4 : w30.cell? ⟨gb132, 4, none⟩ = some (.string a0_4) := (blk_cell BK132.out 4).trans rfl; have hfz31_0 := blk_frozen BK132.out 0; have hfz31_1 := blk_frozen BK132.out 1; have hfz31_2 := blk_frozen BK132.out 2; have hfz31_3 := blk_frozen BK132.out 3; have hfz31_4 := blk_frozen BK132.out 4))
      go_ret
      exact ⟨by first | rfl | (simp [errW_none, errW_some] <;> rfl) | (simp [*, errW_none, errW_some] <;> rfl), by repeat (first | (with_reducible first | exact HB.out | apply below_alloc | apply pw_below_drewN | apply below_drew1 | refine below_set ?_ GE132.out) | exact HB.out)⟩

/-! ### spec_AnyName: function 28 -/
def spec_AnyName.l0 : Nat → ByteArray → ByteArray → List (S42) → Int → Int → Option (Bool)
  | 0, _, _, _, _, _ => none
  | k + 1, x1, x2, x9, x10, x11 => if x11 < x10 then (if 0 ≤ x11 then (if x11 < (x9.length : Int) then ((spec_MatchesName.f ((rd_T42 x9 x11).f0) ((rd_T42 x9 x11).f1) ((rd_T42 x9 x11).f2) ((rd_T42 x9 x11).f3) ((rd_T42 x9 x11).f4) x1 x2).bind fun t137 => (if t137 = true then (some true) else (spec_AnyName.l0 k x1 x2 x9 x10 (wrap64 (x11 + 1))))) else (none)) else (none)) else (some false)
def spec_AnyName.f (k : Nat) (l0 : List (S42)) (a1 : ByteArray) (a2 : ByteArray) : Option (Bool) := spec_AnyName.l0 k a1 a2 l0 (l0.length : Int) 0
theorem spec_AnyName.mono_l : ∀ k, (∀ y0 y1 y2 y3 y4, LeO (spec_AnyName.l0 k y0 y1 y2 y3 y4) (spec_AnyName.l0 (k + 1) y0 y1 y2 y3 y4))
  | 0 => fun _ _ _ _ _ r h => by simp [spec_AnyName.l0] at h
  | k + 1 => by
    have ih0 := spec_AnyName.mono_l k
    · intro y0 y1 y2 y3 y4
      unfold spec_AnyName.l0
      repeat' first
      | (with_reducible exact ih0 _ _ _ _ _)
      | (with_reducible exact LeO.refl _)
      | (with_reducible exact LeO.none _)
      | (with_reducible refine LeO.ite ?_ ?_)
      | (with_reducible refine LeO.bind ?_ (fun _ => ?_))
      | exact ih0 _ _ _ _ _
      | exact LeO.none _
      | refine LeO.ite ?_ ?_
      | refine LeO.bind ?_ (fun _ => ?_)
theorem spec_AnyName.mono : ∀ a0 a1 a2 k, LeO (spec_AnyName.f k a0 a1 a2) (spec_AnyName.f (k + 1) a0 a1 a2) := by
  intro a0 a1 a2 k
  have ih0 := spec_AnyName.mono_l k
  unfold spec_AnyName.f
  repeat' first
      | (with_reducible exact ih0 _ _ _ _ _)
      | (with_reducible exact LeO.refl _)
      | (with_reducible exact LeO.none _)
      | (with_reducible refine LeO.ite ?_ ?_)
      | (with_reducible refine LeO.bind ?_ (fun _ => ?_))
      | exact ih0 _ _ _ _ _
      | exact LeO.none _
      | refine LeO.ite ?_ ?_
      | refine LeO.bind ?_ (fun _ => ?_)
set_option maxHeartbeats 8000000 in
set_option maxRecDepth 100000 in
theorem spec_AnyName.calls (k : Nat) (A0 : Option Addr) (c0 : Nat) (l0 : List (S42)) (a1 : ByteArray) (a2 : ByteArray) (r : Bool) (w : World) (hr0 : Kd.C k42 w A0 l0.length l0) (hc0 : l0.length ≤ c0) (h : spec_AnyName.f k l0 a1 a2 = some r) :
    Calls Tryz.prog 28 #[.slice A0 l0.length c0, .string a1, .string a2] w fun e w' => e = .returned (.bool r) ∧ Below w.heap.size w w' := by
  have hu42 := Tryz.underlying42
  have HR0 := Aside0.mk hr0
  have HC0 := Aside0.mk hc0
  clear hr0 hc0
  have HB := Aside0.mk (Below.refl w.heap.size w)
  have H : (spec_AnyName.l0 k a1 a2 l0 (l0.length : Int) 0) = some r := h
  clear h
  have H' := Aside0.mk H
  clear H
  go_enter Tryz.func28, Tryz.ntmps28
  go_wp2
  go_loopg [11] k (fun kq v11 w' => ∃ (x11_1 : Int), v11 = .int .i64 x11_1 ∧ Aside0 (spec_AnyName.l0 kq a1 a2 l0 (l0.length : Int) x11_1 = some r) ∧ Aside0 (kq ≤ k) ∧ Aside0 (Below w.heap.size w w'))
  case atStart => exact ⟨(0), (by first | rfl | (simp; done) | (simp [*]; done)), H', ⟨Nat.le_refl _⟩, ⟨by repeat (first | (with_reducible first | exact HB.out | apply below_alloc | apply pw_below_drewN | apply below_drew1) | exact HB.out)⟩⟩
  case round =>
    clear H'
    try clear c2
    try clear p2
    obtain ⟨x11_1, rfl, HA, HK1, HB⟩ := hrel
    cases gk with
    | zero => exact absurd HA.out (by simp [spec_AnyName.l0])
    | succ k1 =>
      have H := HA.out
      clear HA
      simp only [spec_AnyName.l0] at H
      by_cases c4 : x11_1 < (l0.length : Int)
      · rw [if_pos c4] at H
        have c4b0 : decide (x11_1 < (l0.length : Int)) = true := decide_eq_true c4
        clear c4
        by_cases c5 : 0 ≤ x11_1
        · rw [if_pos c5] at H
          have c5b0 : decide (0 ≤ x11_1) = true := decide_eq_true c5
          clear c5
          by_cases c6 : x11_1 < (l0.length : Int)
          · rw [if_pos c6] at H
            have c6b0 : decide (x11_1 < (l0.length : Int)) = true := decide_eq_true c6
            clear c6
            replace H := Option.bind_eq_some_iff.mp H
            obtain ⟨t137, A70, H⟩ := H
            replace H : (if t137 = true then (some true) else (spec_AnyName.l0 k1 a1 a2 l0 (l0.length : Int) (wrap64 (x11_1 + 1)))) = some r := H
            have A7 := Aside0.mk A70
            clear A70
            by_cases c8 : t137 = true
            · subst c8
              have H1 : (some true) = some r := by rw [if_pos rfl] at H; exact H
              clear H
              have H := H1
              clear H1
              obtain rfl := Option.some.inj H
              have p135 : 0 ≤ (x11_1 : Int) := of_decide_eq_true (by first | (with_reducible assumption) | assumption)
              have q135 : x11_1 < (l0.length : Int) := of_decide_eq_true (by first | (with_reducible assumption) | assumption)
              obtain ⟨ad135, A135_2, c135_2, e135, hx135_0, hx135_1, hx135_2, hx135_3, hx135_4, hl135_2, hi135_2⟩ := at_T42 HR0.out x11_1 p135 q135
              cases e135
              replace hx135_0 := (HB.out.cell (World.block_lt_of_cell? w _ hx135_0)).trans hx135_0
              replace hx135_1 := (HB.out.cell (World.block_lt_of_cell? w _ hx135_1)).trans hx135_1
              replace hx135_2 := (HB.out.cell (World.block_lt_of_cell? w _ hx135_2)).trans hx135_2
              replace hx135_3 := (HB.out.cell (World.block_lt_of_cell? w _ hx135_3)).trans hx135_3
              replace hx135_4 := (HB.out.cell (World.block_lt_of_cell? w _ hx135_4)).trans hx135_4
              have HR135_2 := Aside0.mk hi135_2
              have HC135_2 := Aside0.mk hl135_2
              clear hi135_2 hl135_2
              replace p135 := eq_true p135
              replace q135 := eq_true q135
              go_wp2_with (first | ((with_reducible refine gate_dst (N := 8) rfl ?_); refine box_event ?hg (N := 8) ?hd (cs := #[.int .i64 0, .string (⟨#[]⟩ : ByteArray), .slice none 0 0, .int .i64 0, .string (⟨#[]⟩ : ByteArray)]) (t := 42) ?hr ?_; (case hd => rfl); (case hg => rfl); (case hr => first | (go_simp; done) | (go_simp; rfl)); intro gb136 hg w9 hbox hb; have n0_ := Aside0.mk (below_step (by repeat (first | (with_reducible first | exact HB.out | apply below_alloc | apply pw_below_drewN | apply below_drew1) | exact HB.out)) hb); have n1_ := Aside0.mk (hbox); have n2_ := Aside0.mk ((by rw [hg]; exact (below_size (by repeat (first | (with_reducible first | exact HB.out | apply below_alloc | apply pw_below_drewN | apply below_drew1) | exact HB.out))) : w.heap.size ≤ gb136)); have n3_ := Aside0.mk ((by rw [hg]; exact (below_size (by repeat (first | (with_reducible first | exact HB.out | apply below_alloc | apply pw_below_drewN | apply below_drew1) | exact HB.out))) : w.heap.size ≤ gb136)); clear HB; have HB := n0_; have BK136 := n1_; have GW136 := n2_; have GE136 := n3_; clear n0_ n1_ n2_ n3_; clear hb hbox hg; have hcz10_0 : w9.cell? ⟨gb136, 0, none⟩ = some (.int .i64 0) := (blk_cell BK136.out 0).trans rfl; have hcz10_1 : w9.cell? ⟨gb136, 1, none⟩ = some (.string (⟨#[]⟩ : ByteArray)) := (blk_cell BK136.out 1).trans rfl; have hcz10_2 : w9.cell? ⟨gb136, 2, none⟩ = some (.slice none 0 0) := (blk_cell BK136.out 2).trans rfl; have hcz10_3 : w9.cell? ⟨gb136, 3, none⟩ = some (.int .i64 0) := (blk_cell BK136.out 3).trans rfl; have hcz10_4 : w9.cell? ⟨gb136, 4, none⟩ = some (.string (⟨#[]⟩ : ByteArray)) := (blk_cell BK136.out 4).trans rfl; have hfz10_0 := blk_frozen BK136.out 0; have hfz10_1 := blk_frozen BK136.out 1; have hfz10_2 := blk_frozen BK136.out 2; have hfz10_3 := blk_frozen BK136.out 3; have hfz10_4 := blk_frozen BK136.out 4) | ((with_reducible refine gate_callee (f := 36) rfl ?_); refine goesL_ (some 18) rfl rfl Tryz.func36 (by kernel_rfl) rfl #[.agg #[.int .i64 ((rd_T42 l0 x11_1).f0), .string ((rd_T42 l0 x11_1).f1), .slice A135_2 ((rd_T42 l0 x11_1).f2).length c135_2, .int .i64 ((rd_T42 l0 x11_1).f3), .string ((rd_T42 l0 x11_1).f4)], .string a1, .string a2] rfl (by (try simp only [List.map_toArray, List.map_cons, List.map_nil]); first | done | rfl | (simp only [List.length_drop, List.length_take]; rfl)) ?_; (with_reducible refine (spec_MatchesName.calls ((rd_T42 l0 x11_1).f0) ((rd_T42 l0 x11_1).f1) _ _ ((rd_T42 l0 x11_1).f2) ((rd_T42 l0 x11_1).f3) ((rd_T42 l0 x11_1).f4) a1 a2 true _ ?side1 ?side2 A7.out).mono ?_); (case side1 => exact Kd.C_below HR135_2.out (by repeat (first | (with_reducible first | exact HB.out | apply below_alloc | apply pw_below_drewN | apply below_drew1 | refine below_set ?_ GE136.out) | exact HB.out))); (case side2 => exact HC135_2.out); rintro e w11 ⟨rfl, hb⟩; refine ⟨_, rfl, ?_⟩; have n0_ := Aside0.mk (blk_below (g := gb136) (o := .cells #[.int .i64 ((rd_T42 l0 x11_1).f0), .string ((rd_T42 l0 x11_1).f1), .slice A135_2 ((rd_T42 l0 x11_1).f2).length c135_2, .int .i64 ((rd_T42 l0 x11_1).f3), .string ((rd_T42 l0 x11_1).f4)] 42 (0, 0)) (by (with_reducible repeat (first | refine blk_drewN ?_ _ | refine blk_drew ?_ | refine blk_alloc ?_ _)); refine blk_put (cs := #[.int .i64 ((rd_T42 l0 x11_1).f0), .string ((rd_T42 l0 x11_1).f1), .slice A135_2 ((rd_T42 l0 x11_1).f2).length c135_2, .int .i64 ((rd_T42 l0 x11_1).f3), .string (⟨#[]⟩ : ByteArray)]) ?_ 4 _ rfl; (with_reducible repeat (first | refine blk_drewN ?_ _ | refine blk_drew ?_ | refine blk_alloc ?_ _)); refine blk_put (cs := #[.int .i64 ((rd_T42 l0 x11_1).f0), .string ((rd_T42 l0 x11_1).f1), .slice A135_2 ((rd_T42 l0 x11_1).f2).length c135_2, .int .i64 0, .string (⟨#[]⟩ : ByteArray)]) ?_ 3 _ rfl; (with_reducible repeat (first | refine blk_drewN ?_ _ | refine blk_drew ?_ | refine blk_alloc ?_ _)); refine blk_put (cs := #[.int .i64 ((rd_T42 l0 x11_1).f0), .string ((rd_T42 l0 x11_1).f1), .slice none 0 0, .int .i64 0, .string (⟨#[]⟩ : ByteArray)]) ?_ 2 _ rfl; (with_reducible repeat (first | refine blk_drewN ?_ _ | refine blk_drew ?_ | refine blk_alloc ?_ _)); refine blk_put (cs := #[.int .i64 ((rd_T42 l0 x11_1).f0), .string (⟨#[]⟩ : ByteArray), .slice none 0 0, .int .i64 0, .string (⟨#[]⟩ : ByteArray)]) ?_ 1 _ rfl; (with_reducible repeat (first | refine blk_drewN ?_ _ | refine blk_drew ?_ | refine blk_alloc ?_ _)); refine blk_put (cs := #[.int .i64 0, .string (⟨#[]⟩ : ByteArray), .slice none 0 0, .int .i64 0, .string (⟨#[]⟩ : ByteArray)]) ?_ 0 _ rfl; (with_reducible repeat (first | refine blk_drewN ?_ _ | refine blk_drew ?_ | refine blk_alloc ?_ _)); exact BK136.out) hb); have n1_ := Aside0.mk (below_step (by repeat (first | (with_reducible first | exact HB.out | apply below_alloc | apply pw_below_drewN | apply below_drew1 | refine below_set ?_ GE136.out) | exact HB.out)) hb); clear BK136; clear HB; have BK136 := n0_; have HB := n1_; clear n0_ n1_; (try clear hb); (try clear hb2); (try clear hk); (try clear hi)))
              go_ret
              exact ⟨by first | rfl | (simp [errW_none, errW_some] <;> rfl) | (simp [*, errW_none, errW_some] <;> rfl), by repeat (first | (with_reducible first | exact HB.out | apply below_alloc | apply pw_below_drewN | apply below_drew1 | refine below_set ?_ GE136.out) | exact HB.out)⟩
            · replace c8 := Bool.eq_false_iff.mpr c8
              subst c8
              have H1 : (spec_AnyName.l0 k1 a1 a2 l0 (l0.length : Int) (wrap64 (x11_1 + 1))) = some r := by rw [if_neg (show ¬ (false = true) by decide)] at H; exact H
              clear H
              have H := H1
              clear H1
              have H' := Aside0.mk H
              clear H
              have p135 : 0 ≤ (x11_1 : Int) := of_decide_eq_true (by first | (with_reducible assumption) | assumption)
              have q135 : x11_1 < (l0.length : Int) := of_decide_eq_true (by first | (with_reducible assumption) | assumption)
              obtain ⟨ad135, A135_2, c135_2, e135, hx135_0, hx135_1, hx135_2, hx135_3, hx135_4, hl135_2, hi135_2⟩ := at_T42 HR0.out x11_1 p135 q135
              cases e135
              replace hx135_0 := (HB.out.cell (World.block_lt_of_cell? w _ hx135_0)).trans hx135_0
              replace hx135_1 := (HB.out.cell (World.block_lt_of_cell? w _ hx135_1)).trans hx135_1
              replace hx135_2 := (HB.out.cell (World.block_lt_of_cell? w _ hx135_2)).trans hx135_2
              replace hx135_3 := (HB.out.cell (World.block_lt_of_cell? w _ hx135_3)).trans hx135_3
              replace hx135_4 := (HB.out.cell (World.block_lt_of_cell? w _ hx135_4)).trans hx135_4
              have HR135_2 := Aside0.mk hi135_2
              have HC135_2 := Aside0.mk hl135_2
              clear hi135_2 hl135_2
              replace p135 := eq_true p135
              replace q135 := eq_true q135
              go_wp2_with (first | ((with_reducible refine gate_dst (N := 8) rfl ?_); refine box_event ?hg (N := 8) ?hd (cs := #[.int .i64 0, .string (⟨#[]⟩ : ByteArray), .slice none 0 0, .int .i64 0, .string (⟨#[]⟩ : ByteArray)]) (t := 42) ?hr ?_; (case hd => rfl); (case hg => rfl); (case hr => first | (go_simp; done) | (go_simp; rfl)); intro gb136 hg w12 hbox hb; have n0_ := Aside0.mk (below_step (by repeat (first | (with_reducible first | exact HB.out | apply below_alloc | apply pw_below_drewN | apply below_drew1) | exact HB.out)) hb); have n1_ := Aside0.mk (hbox); have n2_ := Aside0.mk ((by rw [hg]; exact (below_size (by repeat (first | (with_reducible first | exact HB.out | apply below_alloc | apply pw_below_drewN | apply below_drew1) | exact HB.out))) : w.heap.size ≤ gb136)); have n3_ := Aside0.mk ((by rw [hg]; exact (below_size (by repeat (first | (with_reducible first | exact HB.out | apply below_alloc | apply pw_below_drewN | apply below_drew1) | exact HB.out))) : w.heap.size ≤ gb136)); clear HB; have HB := n0_; have BK136 := n1_; have GW136 := n2_; have GE136 := n3_; clear n0_ n1_ n2_ n3_; clear hb hbox hg; have hcz13_0 : w12.cell? ⟨gb136, 0, none⟩ = some (.int .i64 0) := (blk_cell BK136.out 0).trans rfl; have hcz13_1 : w12.cell? ⟨gb136, 1, none⟩ = some (.string (⟨#[]⟩ : ByteArray)) := (blk_cell BK136.out 1).trans rfl; have hcz13_2 : w12.cell? ⟨gb136, 2, none⟩ = some (.slice none 0 0) := (blk_cell BK136.out 2).trans rfl; have hcz13_3 : w12.cell? ⟨gb136, 3, none⟩ = some (.int .i64 0) := (blk_cell BK136.out 3).trans rfl; have hcz13_4 : w12.cell? ⟨gb136, 4, none⟩ = some (.string (⟨#[]⟩ : ByteArray)) := (blk_cell BK136.out 4).trans rfl; have hfz13_0 := blk_frozen BK136.out 0; have hfz13_1 := blk_frozen BK136.out 1; have hfz13_2 := blk_frozen BK136.out 2; have hfz13_3 := blk_frozen BK136.out 3; have hfz13_4 := blk_frozen BK136.out 4) | ((with_reducible refine gate_callee (f := 36) rfl ?_); refine goesL_ (some 18) rfl rfl Tryz.func36 (by kernel_rfl) rfl #[.agg #[.int .i64 ((rd_T42 l0 x11_1).f0), .string ((rd_T42 l0 x11_1).f1), .slice A135_2 ((rd_T42 l0 x11_1).f2).length c135_2, .int .i64 ((rd_T42 l0 x11_1).f3), .string ((rd_T42 l0 x11_1).f4)], .string a1, .string a2] rfl (by (try simp only [List.map_toArray, List.map_cons, List.map_nil]); first | done | rfl | (simp only [List.length_drop, List.length_take]; rfl)) ?_; (with_reducible refine (spec_MatchesName.calls ((rd_T42 l0 x11_1).f0) ((rd_T42 l0 x11_1).f1) _ _ ((rd_T42 l0 x11_1).f2) ((rd_T42 l0 x11_1).f3) ((rd_T42 l0 x11_1).f4) a1 a2 false _ ?side1 ?side2 A7.out).mono ?_); (case side1 => exact Kd.C_below HR135_2.out (by repeat (first | (with_reducible first | exact HB.out | apply below_alloc | apply pw_below_drewN | apply below_drew1 | refine below_set ?_ GE136.out) | exact HB.out))); (case side2 => exact HC135_2.out); rintro e w14 ⟨rfl, hb⟩; refine ⟨_, rfl, ?_⟩; have n0_ := Aside0.mk (blk_below (g := gb136) (o := .cells #[.int .i64 ((rd_T42 l0 x11_1).f0), .string ((rd_T42 l0 x11_1).f1), .slice A135_2 ((rd_T42 l0 x11_1).f2).length c135_2, .int .i64 ((rd_T42 l0 x11_1).f3), .string ((rd_T42 l0 x11_1).f4)] 42 (0, 0)) (by (with_reducible repeat (first | refine blk_drewN ?_ _ | refine blk_drew ?_ | refine blk_alloc ?_ _)); refine blk_put (cs := #[.int .i64 ((rd_T42 l0 x11_1).f0), .string ((rd_T42 l0 x11_1).f1), .slice A135_2 ((rd_T42 l0 x11_1).f2).length c135_2, .int .i64 ((rd_T42 l0 x11_1).f3), .string (⟨#[]⟩ : ByteArray)]) ?_ 4 _ rfl; (with_reducible repeat (first | refine blk_drewN ?_ _ | refine blk_drew ?_ | refine blk_alloc ?_ _)); refine blk_put (cs := #[.int .i64 ((rd_T42 l0 x11_1).f0), .string ((rd_T42 l0 x11_1).f1), .slice A135_2 ((rd_T42 l0 x11_1).f2).length c135_2, .int .i64 0, .string (⟨#[]⟩ : ByteArray)]) ?_ 3 _ rfl; (with_reducible repeat (first | refine blk_drewN ?_ _ | refine blk_drew ?_ | refine blk_alloc ?_ _)); refine blk_put (cs := #[.int .i64 ((rd_T42 l0 x11_1).f0), .string ((rd_T42 l0 x11_1).f1), .slice none 0 0, .int .i64 0, .string (⟨#[]⟩ : ByteArray)]) ?_ 2 _ rfl; (with_reducible repeat (first | refine blk_drewN ?_ _ | refine blk_drew ?_ | refine blk_alloc ?_ _)); refine blk_put (cs := #[.int .i64 ((rd_T42 l0 x11_1).f0), .string (⟨#[]⟩ : ByteArray), .slice none 0 0, .int .i64 0, .string (⟨#[]⟩ : ByteArray)]) ?_ 1 _ rfl; (with_reducible repeat (first | refine blk_drewN ?_ _ | refine blk_drew ?_ | refine blk_alloc ?_ _)); refine blk_put (cs := #[.int .i64 0, .string (⟨#[]⟩ : ByteArray), .slice none 0 0, .int .i64 0, .string (⟨#[]⟩ : ByteArray)]) ?_ 0 _ rfl; (with_reducible repeat (first | refine blk_drewN ?_ _ | refine blk_drew ?_ | refine blk_alloc ?_ _)); exact BK136.out) hb); have n1_ := Aside0.mk (below_step (by repeat (first | (with_reducible first | exact HB.out | apply below_alloc | apply pw_below_drewN | apply below_drew1 | refine below_set ?_ GE136.out) | exact HB.out)) hb); clear BK136; clear HB; have BK136 := n0_; have HB := n1_; clear n0_ n1_; (try clear hb); (try clear hb2); (try clear hk); (try clear hi)))
              go_roundg k1
              case measure => have := HK1.out; omega
              case rel => exact ⟨(wrap64 (x11_1 + 1)), (by first | rfl | (simp; done) | (simp [*]; done)), H', ⟨by have := HK1.out; omega⟩, ⟨by repeat (first | (with_reducible first | exact HB.out | apply below_alloc | apply pw_below_drewN | apply below_drew1 | refine below_set ?_ GE136.out) | exact HB.out)⟩⟩
          · rw [if_neg c6] at H
            exact absurd H (by simp)
        · rw [if_neg c5] at H
          exact absurd H (by simp)
      · rw [if_neg c4] at H
        have c4b0 : decide (x11_1 < (l0.length : Int)) = false := decide_eq_false c4
        clear c4
        obtain rfl := Option.some.inj H
        go_wp2
        go_ret
        exact ⟨by first | rfl | (simp [errW_none, errW_some] <;> rfl) | (simp [*, errW_none, errW_some] <;> rfl), by repeat (first | (with_reducible first | exact HB.out | apply below_alloc | apply pw_below_drewN | apply below_drew1) | exact HB.out)⟩

/-! ### spec_Any: function 34 -/
def spec_Any.l0 : Nat → List Bool → Int → Int → Option (Bool)
  | 0, _, _, _ => none
  | k + 1, x5, x6, x7 => if x7 < x6 then (if 0 ≤ x7 then (if x7 < (x5.length : Int) then (if rdOf false x5 x7 = true then (some true) else (spec_Any.l0 k x5 x6 (wrap64 (x7 + 1)))) else (none)) else (none)) else (some false)
def spec_Any.f (k : Nat) (l0 : List Bool) : Option (Bool) := spec_Any.l0 k l0 (l0.length : Int) 0
theorem spec_Any.mono_l : ∀ k, (∀ y0 y1 y2, LeO (spec_Any.l0 k y0 y1 y2) (spec_Any.l0 (k + 1) y0 y1 y2))
  | 0 => fun _ _ _ r h => by simp [spec_Any.l0] at h
  | k + 1 => by
    have ih0 := spec_Any.mono_l k
    · intro y0 y1 y2
      unfold spec_Any.l0
      repeat' first
      | (with_reducible exact ih0 _ _ _)
      | (with_reducible exact LeO.refl _)
      | (with_reducible exact LeO.none _)
      | (with_reducible refine LeO.ite ?_ ?_)
      | (with_reducible refine LeO.bind ?_ (fun _ => ?_))
      | exact ih0 _ _ _
      | exact LeO.none _
      | refine LeO.ite ?_ ?_
      | refine LeO.bind ?_ (fun _ => ?_)
theorem spec_Any.mono : ∀ a0 k, LeO (spec_Any.f k a0) (spec_Any.f (k + 1) a0) := by
  intro a0 k
  have ih0 := spec_Any.mono_l k
  unfold spec_Any.f
  repeat' first
      | (with_reducible exact ih0 _ _ _)
      | (with_reducible exact LeO.refl _)
      | (with_reducible exact LeO.none _)
      | (with_reducible refine LeO.ite ?_ ?_)
      | (with_reducible refine LeO.bind ?_ (fun _ => ?_))
      | exact ih0 _ _ _
      | exact LeO.none _
      | refine LeO.ite ?_ ?_
      | refine LeO.bind ?_ (fun _ => ?_)
set_option maxHeartbeats 8000000 in
set_option maxRecDepth 100000 in
theorem spec_Any.calls (k : Nat) (A0 : Option Addr) (c0 : Nat) (l0 : List Bool) (r : Bool) (w : World) (hr0 : Kd.C Kd.bool w A0 l0.length l0) (hc0 : l0.length ≤ c0) (h : spec_Any.f k l0 = some r) :
    Calls Tryz.prog 34 #[.slice A0 l0.length c0] w fun e w' => e = .returned (.bool r) ∧ Drawn0 w w' := by
  have HR0 := Aside0.mk hr0
  have HC0 := Aside0.mk hc0
  clear hr0 hc0
  have H : (spec_Any.l0 k l0 (l0.length : Int) 0) = some r := h
  clear h
  have H' := Aside0.mk H
  clear H
  go_enter Tryz.func34, Tryz.ntmps34
  go_wp2
  go_loopg [7] k (fun kq v7 w' => ∃ (x7_1 : Int), v7 = .int .i64 x7_1 ∧ Aside0 (spec_Any.l0 kq l0 (l0.length : Int) x7_1 = some r) ∧ Aside0 (kq ≤ k) ∧ Drawn0 w w')
  case atStart => exact ⟨(0), (by first | rfl | (simp; done) | (simp [*]; done)), H', ⟨Nat.le_refl _⟩, by repeat (first | exact Drawn0.refl _ | apply Drawn0.step)⟩
  case round =>
    clear H'
    obtain ⟨x7_1, rfl, HA, HK1, ⟨m1, rfl⟩⟩ := hrel
    cases gk with
    | zero => exact absurd HA.out (by simp [spec_Any.l0])
    | succ k1 =>
      have H := HA.out
      clear HA
      simp only [spec_Any.l0] at H
      by_cases c2 : x7_1 < (l0.length : Int)
      · rw [if_pos c2] at H
        have c2b0 : decide (x7_1 < (l0.length : Int)) = true := decide_eq_true c2
        clear c2
        by_cases c3 : 0 ≤ x7_1
        · rw [if_pos c3] at H
          have c3b0 : decide (0 ≤ x7_1) = true := decide_eq_true c3
          clear c3
          by_cases c4 : x7_1 < (l0.length : Int)
          · rw [if_pos c4] at H
            have c4b0 : decide (x7_1 < (l0.length : Int)) = true := decide_eq_true c4
            clear c4
            obtain ⟨bq5, hbq5⟩ : ∃ b_ : Bool, b_ = (rdOf false l0 x7_1) := ⟨_, rfl⟩
            replace H : (if bq5 = true then (some true) else (spec_Any.l0 k1 l0 (l0.length : Int) (wrap64 (x7_1 + 1)))) = some r := by rw [← hbq5] at H; exact H
            have Nbq5 := Aside0.mk hbq5
            clear hbq5
            by_cases c6 : bq5 = true
            · subst c6
              have H1 : (some true) = some r := by rw [if_pos rfl] at H; exact H
              clear H
              have H := H1
              clear H1
              obtain rfl := Option.some.inj H
              have p138 : 0 ≤ (x7_1 : Int) := of_decide_eq_true (by first | (with_reducible assumption) | assumption)
              have q138 : x7_1 < (l0.length : Int) := of_decide_eq_true (by first | (with_reducible assumption) | assumption)
              obtain ⟨ad138, e138, hx138_0⟩ := Kd.at_bool HR0.out x7_1 p138 q138
              (try rw [← Nbq5.out] at hx138_0)
              cases e138
              replace p138 := eq_true p138
              replace q138 := eq_true q138
              go_wp2
              go_ret
              exact ⟨by first | rfl | (simp; done) | (simp [*]; done), by repeat (first | exact Drawn0.refl _ | apply Drawn0.step)⟩
            · replace c6 := Bool.eq_false_iff.mpr c6
              subst c6
              have H1 : (spec_Any.l0 k1 l0 (l0.length : Int) (wrap64 (x7_1 + 1))) = some r := by rw [if_neg (show ¬ (false = true) by decide)] at H; exact H
              clear H
              have H := H1
              clear H1
              have H' := Aside0.mk H
              clear H
              have p138 : 0 ≤ (x7_1 : Int) := of_decide_eq_true (by first | (with_reducible assumption) | assumption)
              have q138 : x7_1 < (l0.length : Int) := of_decide_eq_true (by first | (with_reducible assumption) | assumption)
              obtain ⟨ad138, e138, hx138_0⟩ := Kd.at_bool HR0.out x7_1 p138 q138
              (try rw [← Nbq5.out] at hx138_0)
              cases e138
              replace p138 := eq_true p138
              replace q138 := eq_true q138
              go_wp2
              go_roundg k1
              case measure => have := HK1.out; omega
              case rel => exact ⟨(wrap64 (x7_1 + 1)), (by first | rfl | (simp; done) | (simp [*]; done)), H', ⟨by have := HK1.out; omega⟩, by repeat (first | exact Drawn0.refl _ | apply Drawn0.step)⟩
          · rw [if_neg c4] at H
            exact absurd H (by simp)
        · rw [if_neg c3] at H
          exact absurd H (by simp)
      · rw [if_neg c2] at H
        have c2b0 : decide (x7_1 < (l0.length : Int)) = false := decide_eq_false c2
        clear c2
        obtain rfl := Option.some.inj H
        go_wp2
        go_ret
        exact ⟨by first | rfl | (simp; done) | (simp [*]; done), by repeat (first | exact Drawn0.refl _ | apply Drawn0.step)⟩

/-! ### spec_number: function 44 -/
def spec_number.l0 : Nat → Int → List Int → Int → Int → Option (Int)
  | 0, _, _, _, _ => none
  | k + 1, x3, x6, x7, x8 => if x8 < x7 then (if 0 ≤ x8 then (if x8 < (x6.length : Int) then (spec_number.l0 k (Go.bits .or .i64 (wrap64 (x3 * 256)) (rd x6 x8)) x6 x7 (wrap64 (x8 + 1))) else (none)) else (none)) else (some x3)
def spec_number.f (k : Nat) (l0 : List Int) : Option (Int) := spec_number.l0 k 0 l0 (l0.length : Int) 0
theorem spec_number.mono_l : ∀ k, (∀ y0 y1 y2 y3, LeO (spec_number.l0 k y0 y1 y2 y3) (spec_number.l0 (k + 1) y0 y1 y2 y3))
  | 0 => fun _ _ _ _ r h => by simp [spec_number.l0] at h
  | k + 1 => by
    have ih0 := spec_number.mono_l k
    · intro y0 y1 y2 y3
      unfold spec_number.l0
      repeat' first
      | (with_reducible exact ih0 _ _ _ _)
      | (with_reducible exact LeO.refl _)
      | (with_reducible exact LeO.none _)
      | (with_reducible refine LeO.ite ?_ ?_)
      | (with_reducible refine LeO.bind ?_ (fun _ => ?_))
      | exact ih0 _ _ _ _
      | exact LeO.none _
      | refine LeO.ite ?_ ?_
      | refine LeO.bind ?_ (fun _ => ?_)
theorem spec_number.mono : ∀ a0 k, LeO (spec_number.f k a0) (spec_number.f (k + 1) a0) := by
  intro a0 k
  have ih0 := spec_number.mono_l k
  unfold spec_number.f
  repeat' first
      | (with_reducible exact ih0 _ _ _ _)
      | (with_reducible exact LeO.refl _)
      | (with_reducible exact LeO.none _)
      | (with_reducible refine LeO.ite ?_ ?_)
      | (with_reducible refine LeO.bind ?_ (fun _ => ?_))
      | exact ih0 _ _ _ _
      | exact LeO.none _
      | refine LeO.ite ?_ ?_
      | refine LeO.bind ?_ (fun _ => ?_)
set_option maxHeartbeats 8000000 in
set_option maxRecDepth 100000 in
theorem spec_number.calls (k : Nat) (A0 : Option Addr) (c0 : Nat) (l0 : List Int) (r : Int) (w : World) (hr0 : Kd.C (Kd.int .i64) w A0 l0.length l0) (hc0 : l0.length ≤ c0) (h : spec_number.f k l0 = some r) :
    Calls Tryz.prog 44 #[.slice A0 l0.length c0] w fun e w' => e = .returned (.int .i64 r) ∧ Drawn0 w w' := by
  have HR0 := Aside0.mk hr0
  have HC0 := Aside0.mk hc0
  clear hr0 hc0
  have H : (spec_number.l0 k 0 l0 (l0.length : Int) 0) = some r := h
  clear h
  have H' := Aside0.mk H
  clear H
  go_enter Tryz.func44, Tryz.ntmps44
  go_wp2
  go_loopg [3, 8] k (fun kq v3 v8 w' => ∃ (x3_1 : Int) (x8_1 : Int), v3 = .int .i64 x3_1 ∧ v8 = .int .i64 x8_1 ∧ Aside0 (spec_number.l0 kq x3_1 l0 (l0.length : Int) x8_1 = some r) ∧ Aside0 (kq ≤ k) ∧ Drawn0 w w')
  case atStart => exact ⟨(0), (0), (by first | rfl | (simp; done) | (simp [*]; done)), (by first | rfl | (simp; done) | (simp [*]; done)), H', ⟨Nat.le_refl _⟩, by repeat (first | exact Drawn0.refl _ | apply Drawn0.step)⟩
  case round =>
    clear H'
    obtain ⟨x3_1, x8_1, rfl, rfl, HA, HK1, ⟨m1, rfl⟩⟩ := hrel
    cases gk with
    | zero => exact absurd HA.out (by simp [spec_number.l0])
    | succ k1 =>
      have H := HA.out
      clear HA
      simp only [spec_number.l0] at H
      by_cases c2 : x8_1 < (l0.length : Int)
      · rw [if_pos c2] at H
        have c2b0 : decide (x8_1 < (l0.length : Int)) = true := decide_eq_true c2
        clear c2
        by_cases c3 : 0 ≤ x8_1
        · rw [if_pos c3] at H
          have c3b0 : decide (0 ≤ x8_1) = true := decide_eq_true c3
          clear c3
          by_cases c4 : x8_1 < (l0.length : Int)
          · rw [if_pos c4] at H
            have c4b0 : decide (x8_1 < (l0.length : Int)) = true := decide_eq_true c4
            clear c4
            have H' := Aside0.mk H
            clear H
            have p139 : 0 ≤ (x8_1 : Int) := of_decide_eq_true (by first | (with_reducible assumption) | assumption)
            have q139 : x8_1 < (l0.length : Int) := of_decide_eq_true (by first | (with_reducible assumption) | assumption)
            obtain ⟨ad139, e139, hx139_0⟩ := Kd.at_int HR0.out x8_1 p139 q139
            cases e139
            replace p139 := eq_true p139
            replace q139 := eq_true q139
            go_wp2
            go_roundg k1
            case measure => have := HK1.out; omega
            case rel => exact ⟨(Go.bits .or .i64 (wrap64 (x3_1 * 256)) (rd l0 x8_1)), (wrap64 (x8_1 + 1)), (by first | rfl | (simp; done) | (simp [*]; done)), (by first | rfl | (simp; done) | (simp [*]; done)), H', ⟨by have := HK1.out; omega⟩, by repeat (first | exact Drawn0.refl _ | apply Drawn0.step)⟩
          · rw [if_neg c4] at H
            exact absurd H (by simp)
        · rw [if_neg c3] at H
          exact absurd H (by simp)
      · rw [if_neg c2] at H
        have c2b0 : decide (x8_1 < (l0.length : Int)) = false := decide_eq_false c2
        clear c2
        obtain rfl := Option.some.inj H
        go_wp2
        go_ret
        exact ⟨by first | rfl | (simp; done) | (simp [*]; done), by repeat (first | exact Drawn0.refl _ | apply Drawn0.step)⟩

/-! ### spec_MatchesAddress: function 35 -/
def spec_MatchesAddress.f (k : Nat) (a0_0 : Int) (a0_1 : ByteArray) (l0_2 : List Int) (a0_3 : Int) (a0_4 : ByteArray) (l1 : List Int) (a2 : ByteArray) : Option (Bool) := if a0_0 = 2 then ((spec_number.f k l1).bind fun t141 => ((spec_number.f k l0_2).bind fun t142 => (if t141 = t142 then (if a0_4.toList = ([] : List UInt8) then (some true) else (some (a0_4.toList == a2.toList))) else (some false)))) else (if a0_0 = 3 then ((spec_number.f k l1).bind fun t143 => (if 0 ≤ (wrap64 (32 - a0_3)) then ((spec_number.f k l0_2).bind fun t144 => (some ((shr .i64 t143 (wrap64 (32 - a0_3))) == (shr .i64 t144 (wrap64 (32 - a0_3)))))) else (none))) else (some (a0_0 == 4)))
theorem spec_MatchesAddress.mono : ∀ a0 a1 a2 a3 a4 a5 a6 k, LeO (spec_MatchesAddress.f k a0 a1 a2 a3 a4 a5 a6) (spec_MatchesAddress.f (k + 1) a0 a1 a2 a3 a4 a5 a6) := by
  intro a0 a1 a2 a3 a4 a5 a6 k
  unfold spec_MatchesAddress.f
  repeat' first
      | (with_reducible exact spec_number.mono _ _)
      | (with_reducible exact LeO.refl _)
      | (with_reducible exact LeO.none _)
      | (with_reducible refine LeO.ite ?_ ?_)
      | (with_reducible refine LeO.bind ?_ (fun _ => ?_))
      | exact spec_number.mono _ _
      | exact LeO.none _
      | refine LeO.ite ?_ ?_
      | refine LeO.bind ?_ (fun _ => ?_)
set_option maxHeartbeats 8000000 in
set_option maxRecDepth 100000 in
theorem spec_MatchesAddress.calls (k : Nat) (a0_0 : Int) (a0_1 : ByteArray) (A0_2 : Option Addr) (c0_2 : Nat) (l0_2 : List Int) (a0_3 : Int) (a0_4 : ByteArray) (A1 : Option Addr) (c1 : Nat) (l1 : List Int) (a2 : ByteArray) (r : Bool) (w : World) (hr0_2 : Kd.C (Kd.int .i64) w A0_2 l0_2.length l0_2) (hc0_2 : l0_2.length ≤ c0_2) (hr1 : Kd.C (Kd.int .i64) w A1 l1.length l1) (hc1 : l1.length ≤ c1) (h : spec_MatchesAddress.f k a0_0 a0_1 l0_2 a0_3 a0_4 l1 a2 = some r) :
    Calls Tryz.prog 35 #[.agg #[.int .i64 a0_0, .string a0_1, .slice A0_2 l0_2.length c0_2, .int .i64 a0_3, .string a0_4], .slice A1 l1.length c1, .string a2] w fun e w' => e = .returned (.bool r) ∧ Below w.heap.size w w' := by
  have hu42 := Tryz.underlying42
  have HR0_2 := Aside0.mk hr0_2
  have HC0_2 := Aside0.mk hc0_2
  clear hr0_2 hc0_2
  have HR1 := Aside0.mk hr1
  have HC1 := Aside0.mk hc1
  clear hr1 hc1
  have HB := Aside0.mk (Below.refl w.heap.size w)
  have H : (if a0_0 = 2 then ((spec_number.f k l1).bind fun t141 => ((spec_number.f k l0_2).bind fun t142 => (if t141 = t142 then (if a0_4.toList = ([] : List UInt8) then (some true) else (some (a0_4.toList == a2.toList))) else (some false)))) else (if a0_0 = 3 then ((spec_number.f k l1).bind fun t143 => (if 0 ≤ (wrap64 (32 - a0_3)) then ((spec_number.f k l0_2).bind fun t144 => (some ((shr .i64 t143 (wrap64 (32 - a0_3))) == (shr .i64 t144 (wrap64 (32 - a0_3)))))) else (none))) else (some (a0_0 == 4)))) = some r := h
  clear h
  by_cases c4 : a0_0 = 2
  · rw [if_pos c4] at H
    have c4b0 : (a0_0 == 2) = true := beq_iff_eq.mpr c4
    have c4b1 : (a0_0 != 2) = false := bne_eq_false_iff_eq.mpr c4
    clear c4
    replace H := Option.bind_eq_some_iff.mp H
    obtain ⟨t141, A50, H⟩ := H
    replace H : ((spec_number.f k l0_2).bind fun t142 => (if t141 = t142 then (if a0_4.toList = ([] : List UInt8) then (some true) else (some (a0_4.toList == a2.toList))) else (some false))) = some r := H
    have A5 := Aside0.mk A50
    clear A50
    replace H := Option.bind_eq_some_iff.mp H
    obtain ⟨t142, A60, H⟩ := H
    replace H : (if t141 = t142 then (if a0_4.toList = ([] : List UInt8) then (some true) else (some (a0_4.toList == a2.toList))) else (some false)) = some r := H
    have A6 := Aside0.mk A60
    clear A60
    by_cases c7 : t141 = t142
    · rw [if_pos c7] at H
      have c7b0 : (t141 == t142) = true := beq_iff_eq.mpr c7
      have c7b1 : (t141 != t142) = false := bne_eq_false_iff_eq.mpr c7
      clear c7
      by_cases c8 : a0_4.toList = ([] : List UInt8)
      · rw [if_pos c8] at H
        have c8b0 : (a0_4.toList == ([] : List UInt8)) = true := beq_iff_eq.mpr c8
        have c8b1 : (a0_4.toList != ([] : List UInt8)) = false := bne_eq_false_iff_eq.mpr c8
        clear c8
        obtain rfl := Option.some.inj H
        go_enter Tryz.func35, Tryz.ntmps35
        go_wp2_with (first | ((with_reducible refine gate_dst (N := 3) rfl ?_); refine box_event ?hg (N := 3) ?hd (cs := #[.int .i64 a0_0, .string a0_1, .slice A0_2 l0_2.length c0_2, .int .i64 a0_3, .string a0_4]) (t := 42) ?hr ?_; (case hd => rfl); (case hg => rfl); (case hr => first | (go_simp; done) | (go_simp; rfl)); intro gb140 hg w9 hbox hb; have n0_ := Aside0.mk (below_step (by repeat (first | (with_reducible first | exact HB.out | apply below_alloc | apply pw_below_drewN | apply below_drew1) | exact HB.out)) hb); have n1_ := Aside0.mk (hbox); have n2_ := Aside0.mk ((by rw [hg]; exact (below_size (by repeat (first | (with_reducible first | exact HB.out | apply below_alloc | apply pw_below_drewN | apply below_drew1) | exact HB.out))) : w.heap.size ≤ gb140)); have n3_ := Aside0.mk ((by rw [hg]; exact (below_size (by repeat (first | (with_reducible first | exact HB.out | apply below_alloc | apply pw_below_drewN | apply below_drew1) | exact HB.out))) : w.heap.size ≤ gb140)); clear HB; have HB := n0_; have BK140 := n1_; have GW140 := n2_; have GE140 := n3_; clear n0_ n1_ n2_ n3_; clear hb hbox hg; have hcz10_0 : w9.cell? ⟨gb140, 0, none⟩ = some (.int .i64 a0_0) := (blk_cell BK140.out 0).trans rfl; have hcz10_1 : w9.cell? ⟨gb140, 1, none⟩ = some (.string a0_1) := (blk_cell BK140.out 1).trans rfl; have hcz10_2 : w9.cell? ⟨gb140, 2, none⟩ = some (.slice A0_2 l0_2.length c0_2) := (blk_cell BK140.out 2).trans rfl; have hcz10_3 : w9.cell? ⟨gb140, 3, none⟩ = some (.int .i64 a0_3) := (blk_cell BK140.out 3).trans rfl; have hcz10_4 : w9.cell? ⟨gb140, 4, none⟩ = some (.string a0_4) := (blk_cell BK140.out 4).trans rfl; have hfz10_0 := blk_frozen BK140.out 0; have hfz10_1 := blk_frozen BK140.out 1; have hfz10_2 := blk_frozen BK140.out 2; have hfz10_3 := blk_frozen BK140.out 3; have hfz10_4 := blk_frozen BK140.out 4) | (go_at_call 44; (with_reducible refine (spec_number.calls k _ _ l1 t141 _ ?side1 ?side2 A5.out).mono ?_); (case side1 => repeat (first | exact (Kd.C_below HR1.out HB.out) | (with_reducible refine Kd.C_alloc ?_ _) | (with_reducible refine Kd.C_drewN ?_ _) | (with_reducible refine Kd.C_drew ?_))); (case side2 => exact HC1.out); rintro e w' ⟨rfl, ⟨nd, rfl⟩⟩; (try first | exact ⟨rfl, _, World.drewN_drewN _ _ _⟩ | exact ⟨rfl, _, Eq.trans (World.drewN_drewN _ _ _) (congrArg (World.drewN _) (Nat.add_assoc _ _ _))⟩)) | (go_at_call 44; (with_reducible refine (spec_number.calls k _ _ l0_2 t142 _ ?side1 ?side2 A6.out).mono ?_); (case side1 => repeat (first | exact (Kd.C_below HR0_2.out (by repeat (first | (with_reducible first | exact HB.out | apply below_alloc | apply pw_below_drewN | apply below_drew1 | refine below_set ?_ GE140.out) | exact HB.out))) | (with_reducible refine Kd.C_alloc ?_ _) | (with_reducible refine Kd.C_drewN ?_ _) | (with_reducible refine Kd.C_drew ?_))); (case side2 => exact HC0_2.out); rintro e w' ⟨rfl, ⟨nd, rfl⟩⟩; (try first | exact ⟨rfl, _, World.drewN_drewN _ _ _⟩ | exact ⟨rfl, _, Eq.trans (World.drewN_drewN _ _ _) (congrArg (World.drewN _) (Nat.add_assoc _ _ _))⟩)))
        repeat (go_quiet (first | ((with_reducible refine gate_dst (N := 3) rfl ?_); refine box_event ?hg (N := 3) ?hd (cs := #[.int .i64 a0_0, .string a0_1, .slice A0_2 l0_2.length c0_2, .int .i64 a0_3, .string a0_4]) (t := 42) ?hr ?_; (case hd => rfl); (case hg => rfl); (case hr => first | (go_simp; done) | (go_simp; rfl)); intro gb140 hg w9 hbox hb; have n0_ := Aside0.mk (below_step (by repeat (first | (with_reducible first | exact HB.out | apply below_alloc | apply pw_below_drewN | apply below_drew1) | exact HB.out)) hb); have n1_ := Aside0.mk (hbox); have n2_ := Aside0.mk ((by rw [hg]; exact (below_size (by repeat (first | (with_reducible first | exact HB.out | apply below_alloc | apply pw_below_drewN | apply below_drew1) | exact HB.out))) : w.heap.size ≤ gb140)); have n3_ := Aside0.mk ((by rw [hg]; exact (below_size (by repeat (first | (with_reducible first | exact HB.out | apply below_alloc | apply pw_below_drewN | apply below_drew1) | exact HB.out))) : w.heap.size ≤ gb140)); clear HB; have HB := n0_; have BK140 := n1_; have GW140 := n2_; have GE140 := n3_; clear n0_ n1_ n2_ n3_; clear hb hbox hg; have hcz10_0 : w9.cell? ⟨gb140, 0, none⟩ = some (.int .i64 a0_0) := (blk_cell BK140.out 0).trans rfl; have hcz10_1 : w9.cell? ⟨gb140, 1, none⟩ = some (.string a0_1) := (blk_cell BK140.out 1).trans rfl; have hcz10_2 : w9.cell? ⟨gb140, 2, none⟩ = some (.slice A0_2 l0_2.length c0_2) := (blk_cell BK140.out 2).trans rfl; have hcz10_3 : w9.cell? ⟨gb140, 3, none⟩ = some (.int .i64 a0_3) := (blk_cell BK140.out 3).trans rfl; have hcz10_4 : w9.cell? ⟨gb140, 4, none⟩ = some (.string a0_4) := (blk_cell BK140.out 4).trans rfl; have hfz10_0 := blk_frozen BK140.out 0; have hfz10_1 := blk_frozen BK140.out 1; have hfz10_2 := blk_frozen BK140.out 2; have hfz10_3 := blk_frozen BK140.out 3; have hfz10_4 := blk_frozen BK140.out 4) | (go_at_call 44; (with_reducible refine (spec_number.calls k _ _ l1 t141 _ ?side1 ?side2 A5.out).mono ?_); (case side1 => repeat (first | exact (Kd.C_below HR1.out HB.out) | (with_reducible refine Kd.C_alloc ?_ _) | (with_reducible refine Kd.C_drewN ?_ _) | (with_reducible refine Kd.C_drew ?_))); (case side2 => exact HC1.out); rintro e w' ⟨rfl, ⟨nd, rfl⟩⟩; (try first | exact ⟨rfl, _, World.drewN_drewN _ _ _⟩ | exact ⟨rfl, _, Eq.trans (World.drewN_drewN _ _ _) (congrArg (World.drewN _) (Nat.add_assoc _ _ _))⟩)) | (go_at_call 44; (with_reducible refine (spec_number.calls k _ _ l0_2 t142 _ ?side1 ?side2 A6.out).mono ?_); (case side1 => repeat (first | exact (Kd.C_below HR0_2.out (by repeat (first | (with_reducible first | exact HB.out | apply below_alloc | apply pw_below_drewN | apply below_drew1 | refine below_set ?_ GE140.out) | exact HB.out))) | (with_reducible refine Kd.C_alloc ?_ _) | (with_reducible refine Kd.C_drewN ?_ _) | (with_reducible refine Kd.C_drew ?_))); (case side2 => exact HC0_2.out); rintro e w' ⟨rfl, ⟨nd, rfl⟩⟩; (try first | exact ⟨rfl, _, World.drewN_drewN _ _ _⟩ | exact ⟨rfl, _, Eq.trans (World.drewN_drewN _ _ _) (congrArg (World.drewN _) (Nat.add_assoc _ _ _))⟩))); try go_wp2_with (first | ((with_reducible refine gate_dst (N := 3) rfl ?_); refine box_event ?hg (N := 3) ?hd (cs := #[.int .i64 a0_0, .string a0_1, .slice A0_2 l0_2.length c0_2, .int .i64 a0_3, .string a0_4]) (t := 42) ?hr ?_; (case hd => rfl); (case hg => rfl); (case hr => first | (go_simp; done) | (go_simp; rfl)); intro gb140 hg w9 hbox hb; have n0_ := Aside0.mk (below_step (by repeat (first | (with_reducible first | exact HB.out | apply below_alloc | apply pw_below_drewN | apply below_drew1) | exact HB.out)) hb); have n1_ := Aside0.mk (hbox); have n2_ := Aside0.mk ((by rw [hg]; exact (below_size (by repeat (first | (with_reducible first | exact HB.out | apply below_alloc | apply pw_below_drewN | apply below_drew1) | exact HB.out))) : w.heap.size ≤ gb140)); have n3_ := Aside0.mk ((by rw [hg]; exact (below_size (by repeat (first | (with_reducible first | exact HB.out | apply below_alloc | apply pw_below_drewN | apply below_drew1) | exact HB.out))) : w.heap.size ≤ gb140)); clear HB; have HB := n0_; have BK140 := n1_; have GW140 := n2_; have GE140 := n3_; clear n0_ n1_ n2_ n3_; clear hb hbox hg; have hcz10_0 : w9.cell? ⟨gb140, 0, none⟩ = some (.int .i64 a0_0) := (blk_cell BK140.out 0).trans rfl; have hcz10_1 : w9.cell? ⟨gb140, 1, none⟩ = some (.string a0_1) := (blk_cell BK140.out 1).trans rfl; have hcz10_2 : w9.cell? ⟨gb140, 2, none⟩ = some (.slice A0_2 l0_2.length c0_2) := (blk_cell BK140.out 2).trans rfl; have hcz10_3 : w9.cell? ⟨gb140, 3, none⟩ = some (.int .i64 a0_3) := (blk_cell BK140.out 3).trans rfl; have hcz10_4 : w9.cell? ⟨gb140, 4, none⟩ = some (.string a0_4) := (blk_cell BK140.out 4).trans rfl; have hfz10_0 := blk_frozen BK140.out 0; have hfz10_1 := blk_frozen BK140.out 1; have hfz10_2 := blk_frozen BK140.out 2; have hfz10_3 := blk_frozen BK140.out 3; have hfz10_4 := blk_frozen BK140.out 4) | (go_at_call 44; (with_reducible refine (spec_number.calls k _ _ l1 t141 _ ?side1 ?side2 A5.out).mono ?_); (case side1 => repeat (first | exact (Kd.C_below HR1.out HB.out) | (with_reducible refine Kd.C_alloc ?_ _) | (with_reducible refine Kd.C_drewN ?_ _) | (with_reducible refine Kd.C_drew ?_))); (case side2 => exact HC1.out); rintro e w' ⟨rfl, ⟨nd, rfl⟩⟩; (try first | exact ⟨rfl, _, World.drewN_drewN _ _ _⟩ | exact ⟨rfl, _, Eq.trans (World.drewN_drewN _ _ _) (congrArg (World.drewN _) (Nat.add_assoc _ _ _))⟩)) | (go_at_call 44; (with_reducible refine (spec_number.calls k _ _ l0_2 t142 _ ?side1 ?side2 A6.out).mono ?_); (case side1 => repeat (first | exact (Kd.C_below HR0_2.out (by repeat (first | (with_reducible first | exact HB.out | apply below_alloc | apply pw_below_drewN | apply below_drew1 | refine below_set ?_ GE140.out) | exact HB.out))) | (with_reducible refine Kd.C_alloc ?_ _) | (with_reducible refine Kd.C_drewN ?_ _) | (with_reducible refine Kd.C_drew ?_))); (case side2 => exact HC0_2.out); rintro e w' ⟨rfl, ⟨nd, rfl⟩⟩; (try first | exact ⟨rfl, _, World.drewN_drewN _ _ _⟩ | exact ⟨rfl, _, Eq.trans (World.drewN_drewN _ _ _) (congrArg (World.drewN _) (Nat.add_assoc _ _ _))⟩))))
        go_ret
        exact ⟨by first | rfl | (simp [errW_none, errW_some] <;> rfl) | (simp [*, errW_none, errW_some] <;> rfl), by repeat (first | (with_reducible first | exact HB.out | apply below_alloc | apply pw_below_drewN | apply below_drew1 | refine below_set ?_ GE140.out) | exact HB.out)⟩
      · rw [if_neg c8] at H
        have c8b0 : (a0_4.toList == ([] : List UInt8)) = false := beq_eq_false_iff_ne.mpr c8
        have c8b1 : (a0_4.toList != ([] : List UInt8)) = true := bne_iff_ne.mpr c8
        obtain rfl := Option.some.inj H
        go_enter Tryz.func35, Tryz.ntmps35
        go_wp2_with (first | ((with_reducible refine gate_dst (N := 3) rfl ?_); refine box_event ?hg (N := 3) ?hd (cs := #[.int .i64 a0_0, .string a0_1, .slice A0_2 l0_2.length c0_2, .int .i64 a0_3, .string a0_4]) (t := 42) ?hr ?_; (case hd => rfl); (case hg => rfl); (case hr => first | (go_simp; done) | (go_simp; rfl)); intro gb140 hg w11 hbox hb; have n0_ := Aside0.mk (below_step (by repeat (first | (with_reducible first | exact HB.out | apply below_alloc | apply pw_below_drewN | apply below_drew1) | exact HB.out)) hb); have n1_ := Aside0.mk (hbox); have n2_ := Aside0.mk ((by rw [hg]; exact (below_size (by repeat (first | (with_reducible first | exact HB.out | apply below_alloc | apply pw_below_drewN | apply below_drew1) | exact HB.out))) : w.heap.size ≤ gb140)); have n3_ := Aside0.mk ((by rw [hg]; exact (below_size (by repeat (first | (with_reducible first | exact HB.out | apply below_alloc | apply pw_below_drewN | apply below_drew1) | exact HB.out))) : w.heap.size ≤ gb140)); clear HB; have HB := n0_; have BK140 := n1_; have GW140 := n2_; have GE140 := n3_; clear n0_ n1_ n2_ n3_; clear hb hbox hg; have hcz12_0 : w11.cell? ⟨gb140, 0, none⟩ = some (.int .i64 a0_0) := (blk_cell BK140.out 0).trans rfl; have hcz12_1 : w11.cell? ⟨gb140, 1, none⟩ = some (.string a0_1) := (blk_cell BK140.out 1).trans rfl; have hcz12_2 : w11.cell? ⟨gb140, 2, none⟩ = some (.slice A0_2 l0_2.length c0_2) := (blk_cell BK140.out 2).trans rfl; have hcz12_3 : w11.cell? ⟨gb140, 3, none⟩ = some (.int .i64 a0_3) := (blk_cell BK140.out 3).trans rfl; have hcz12_4 : w11.cell? ⟨gb140, 4, none⟩ = some (.string a0_4) := (blk_cell BK140.out 4).trans rfl; have hfz12_0 := blk_frozen BK140.out 0; have hfz12_1 := blk_frozen BK140.out 1; have hfz12_2 := blk_frozen BK140.out 2; have hfz12_3 := blk_frozen BK140.out 3; have hfz12_4 := blk_frozen BK140.out 4) | (go_at_call 44; (with_reducible refine (spec_number.calls k _ _ l1 t141 _ ?side1 ?side2 A5.out).mono ?_); (case side1 => repeat (first | exact (Kd.C_below HR1.out HB.out) | (with_reducible refine Kd.C_alloc ?_ _) | (with_reducible refine Kd.C_drewN ?_ _) | (with_reducible refine Kd.C_drew ?_))); (case side2 => exact HC1.out); rintro e w' ⟨rfl, ⟨nd, rfl⟩⟩; (try first | exact ⟨rfl, _, World.drewN_drewN _ _ _⟩ | exact ⟨rfl, _, Eq.trans (World.drewN_drewN _ _ _) (congrArg (World.drewN _) (Nat.add_assoc _ _ _))⟩)) | (go_at_call 44; (with_reducible refine (spec_number.calls k _ _ l0_2 t142 _ ?side1 ?side2 A6.out).mono ?_); (case side1 => repeat (first | exact (Kd.C_below HR0_2.out (by repeat (first | (with_reducible first | exact HB.out | apply below_alloc | apply pw_below_drewN | apply below_drew1 | refine below_set ?_ GE140.out) | exact HB.out))) | (with_reducible refine Kd.C_alloc ?_ _) | (with_reducible refine Kd.C_drewN ?_ _) | (with_reducible refine Kd.C_drew ?_))); (case side2 => exact HC0_2.out); rintro e w' ⟨rfl, ⟨nd, rfl⟩⟩; (try first | exact ⟨rfl, _, World.drewN_drewN _ _ _⟩ | exact ⟨rfl, _, Eq.trans (World.drewN_drewN _ _ _) (congrArg (World.drewN _) (Nat.add_assoc _ _ _))⟩)))
        repeat (go_quiet (first | ((with_reducible refine gate_dst (N := 3) rfl ?_); refine box_event ?hg (N := 3) ?hd (cs := #[.int .i64 a0_0, .string a0_1, .slice A0_2 l0_2.length c0_2, .int .i64 a0_3, .string a0_4]) (t := 42) ?hr ?_; (case hd => rfl); (case hg => rfl); (case hr => first | (go_simp; done) | (go_simp; rfl)); intro gb140 hg w11 hbox hb; have n0_ := Aside0.mk (below_step (by repeat (first | (with_reducible first | exact HB.out | apply below_alloc | apply pw_below_drewN | apply below_drew1) | exact HB.out)) hb); have n1_ := Aside0.mk (hbox); have n2_ := Aside0.mk ((by rw [hg]; exact (below_size (by repeat (first | (with_reducible first | exact HB.out | apply below_alloc | apply pw_below_drewN | apply below_drew1) | exact HB.out))) : w.heap.size ≤ gb140)); have n3_ := Aside0.mk ((by rw [hg]; exact (below_size (by repeat (first | (with_reducible first | exact HB.out | apply below_alloc | apply pw_below_drewN | apply below_drew1) | exact HB.out))) : w.heap.size ≤ gb140)); clear HB; have HB := n0_; have BK140 := n1_; have GW140 := n2_; have GE140 := n3_; clear n0_ n1_ n2_ n3_; clear hb hbox hg; have hcz12_0 : w11.cell? ⟨gb140, 0, none⟩ = some (.int .i64 a0_0) := (blk_cell BK140.out 0).trans rfl; have hcz12_1 : w11.cell? ⟨gb140, 1, none⟩ = some (.string a0_1) := (blk_cell BK140.out 1).trans rfl; have hcz12_2 : w11.cell? ⟨gb140, 2, none⟩ = some (.slice A0_2 l0_2.length c0_2) := (blk_cell BK140.out 2).trans rfl; have hcz12_3 : w11.cell? ⟨gb140, 3, none⟩ = some (.int .i64 a0_3) := (blk_cell BK140.out 3).trans rfl; have hcz12_4 : w11.cell? ⟨gb140, 4, none⟩ = some (.string a0_4) := (blk_cell BK140.out 4).trans rfl; have hfz12_0 := blk_frozen BK140.out 0; have hfz12_1 := blk_frozen BK140.out 1; have hfz12_2 := blk_frozen BK140.out 2; have hfz12_3 := blk_frozen BK140.out 3; have hfz12_4 := blk_frozen BK140.out 4) | (go_at_call 44; (with_reducible refine (spec_number.calls k _ _ l1 t141 _ ?side1 ?side2 A5.out).mono ?_); (case side1 => repeat (first | exact (Kd.C_below HR1.out HB.out) | (with_reducible refine Kd.C_alloc ?_ _) | (with_reducible refine Kd.C_drewN ?_ _) | (with_reducible refine Kd.C_drew ?_))); (case side2 => exact HC1.out); rintro e w' ⟨rfl, ⟨nd, rfl⟩⟩; (try first | exact ⟨rfl, _, World.drewN_drewN _ _ _⟩ | exact ⟨rfl, _, Eq.trans (World.drewN_drewN _ _ _) (congrArg (World.drewN _) (Nat.add_assoc _ _ _))⟩)) | (go_at_call 44; (with_reducible refine (spec_number.calls k _ _ l0_2 t142 _ ?side1 ?side2 A6.out).mono ?_); (case side1 => repeat (first | exact (Kd.C_below HR0_2.out (by repeat (first | (with_reducible first | exact HB.out | apply below_alloc | apply pw_below_drewN | apply below_drew1 | refine below_set ?_ GE140.out) | exact HB.out))) | (with_reducible refine Kd.C_alloc ?_ _) | (with_reducible refine Kd.C_drewN ?_ _) | (with_reducible refine Kd.C_drew ?_))); (case side2 => exact HC0_2.out); rintro e w' ⟨rfl, ⟨nd, rfl⟩⟩; (try first | exact ⟨rfl, _, World.drewN_drewN _ _ _⟩ | exact ⟨rfl, _, Eq.trans (World.drewN_drewN _ _ _) (congrArg (World.drewN _) (Nat.add_assoc _ _ _))⟩))); try go_wp2_with (first | ((with_reducible refine gate_dst (N := 3) rfl ?_); refine box_event ?hg (N := 3) ?hd (cs := #[.int .i64 a0_0, .string a0_1, .slice A0_2 l0_2.length c0_2, .int .i64 a0_3, .string a0_4]) (t := 42) ?hr ?_; (case hd => rfl); (case hg => rfl); (case hr => first | (go_simp; done) | (go_simp; rfl)); intro gb140 hg w11 hbox hb; have n0_ := Aside0.mk (below_step (by repeat (first | (with_reducible first | exact HB.out | apply below_alloc | apply pw_below_drewN | apply below_drew1) | exact HB.out)) hb); have n1_ := Aside0.mk (hbox); have n2_ := Aside0.mk ((by rw [hg]; exact (below_size (by repeat (first | (with_reducible first | exact HB.out | apply below_alloc | apply pw_below_drewN | apply below_drew1) | exact HB.out))) : w.heap.size ≤ gb140)); have n3_ := Aside0.mk ((by rw [hg]; exact (below_size (by repeat (first | (with_reducible first | exact HB.out | apply below_alloc | apply pw_below_drewN | apply below_drew1) | exact HB.out))) : w.heap.size ≤ gb140)); clear HB; have HB := n0_; have BK140 := n1_; have GW140 := n2_; have GE140 := n3_; clear n0_ n1_ n2_ n3_; clear hb hbox hg; have hcz12_0 : w11.cell? ⟨gb140, 0, none⟩ = some (.int .i64 a0_0) := (blk_cell BK140.out 0).trans rfl; have hcz12_1 : w11.cell? ⟨gb140, 1, none⟩ = some (.string a0_1) := (blk_cell BK140.out 1).trans rfl; have hcz12_2 : w11.cell? ⟨gb140, 2, none⟩ = some (.slice A0_2 l0_2.length c0_2) := (blk_cell BK140.out 2).trans rfl; have hcz12_3 : w11.cell? ⟨gb140, 3, none⟩ = some (.int .i64 a0_3) := (blk_cell BK140.out 3).trans rfl; have hcz12_4 : w11.cell? ⟨gb140, 4, none⟩ = some (.string a0_4) := (blk_cell BK140.out 4).trans rfl; have hfz12_0 := blk_frozen BK140.out 0; have hfz12_1 := blk_frozen BK140.out 1; have hfz12_2 := blk_frozen BK140.out 2; have hfz12_3 := blk_frozen BK140.out 3; have hfz12_4 := blk_frozen BK140.out 4) | (go_at_call 44; (with_reducible refine (spec_number.calls k _ _ l1 t141 _ ?side1 ?side2 A5.out).mono ?_); (case side1 => repeat (first | exact (Kd.C_below HR1.out HB.out) | (with_reducible refine Kd.C_alloc ?_ _) | (with_reducible refine Kd.C_drewN ?_ _) | (with_reducible refine Kd.C_drew ?_))); (case side2 => exact HC1.out); rintro e w' ⟨rfl, ⟨nd, rfl⟩⟩; (try first | exact ⟨rfl, _, World.drewN_drewN _ _ _⟩ | exact ⟨rfl, _, Eq.trans (World.drewN_drewN _ _ _) (congrArg (World.drewN _) (Nat.add_assoc _ _ _))⟩)) | (go_at_call 44; (with_reducible refine (spec_number.calls k _ _ l0_2 t142 _ ?side1 ?side2 A6.out).mono ?_); (case side1 => repeat (first | exact (Kd.C_below HR0_2.out (by repeat (first | (with_reducible first | exact HB.out | apply below_alloc | apply pw_below_drewN | apply below_drew1 | refine below_set ?_ GE140.out) | exact HB.out))) | (with_reducible refine Kd.C_alloc ?_ _) | (with_reducible refine Kd.C_drewN ?_ _) | (with_reducible refine Kd.C_drew ?_))); (case side2 => exact HC0_2.out); rintro e w' ⟨rfl, ⟨nd, rfl⟩⟩; (try first | exact ⟨rfl, _, World.drewN_drewN _ _ _⟩ | exact ⟨rfl, _, Eq.trans (World.drewN_drewN _ _ _) (congrArg (World.drewN _) (Nat.add_assoc _ _ _))⟩))))
        go_ret
        exact ⟨by first | rfl | (simp [errW_none, errW_some] <;> rfl) | (simp [*, errW_none, errW_some] <;> rfl), by repeat (first | (with_reducible first | exact HB.out | apply below_alloc | apply pw_below_drewN | apply below_drew1 | refine below_set ?_ GE140.out) | exact HB.out)⟩
    · rw [if_neg c7] at H
      have c7b0 : (t141 == t142) = false := beq_eq_false_iff_ne.mpr c7
      have c7b1 : (t141 != t142) = true := bne_iff_ne.mpr c7
      obtain rfl := Option.some.inj H
      go_enter Tryz.func35, Tryz.ntmps35
      go_wp2_with (first | ((with_reducible refine gate_dst (N := 3) rfl ?_); refine box_event ?hg (N := 3) ?hd (cs := #[.int .i64 a0_0, .string a0_1, .slice A0_2 l0_2.length c0_2, .int .i64 a0_3, .string a0_4]) (t := 42) ?hr ?_; (case hd => rfl); (case hg => rfl); (case hr => first | (go_simp; done) | (go_simp; rfl)); intro gb140 hg w13 hbox hb; have n0_ := Aside0.mk (below_step (by repeat (first | (with_reducible first | exact HB.out | apply below_alloc | apply pw_below_drewN | apply below_drew1) | exact HB.out)) hb); have n1_ := Aside0.mk (hbox); have n2_ := Aside0.mk ((by rw [hg]; exact (below_size (by repeat (first | (with_reducible first | exact HB.out | apply below_alloc | apply pw_below_drewN | apply below_drew1) | exact HB.out))) : w.heap.size ≤ gb140)); have n3_ := Aside0.mk ((by rw [hg]; exact (below_size (by repeat (first | (with_reducible first | exact HB.out | apply below_alloc | apply pw_below_drewN | apply below_drew1) | exact HB.out))) : w.heap.size ≤ gb140)); clear HB; have HB := n0_; have BK140 := n1_; have GW140 := n2_; have GE140 := n3_; clear n0_ n1_ n2_ n3_; clear hb hbox hg; have hcz14_0 : w13.cell? ⟨gb140, 0, none⟩ = some (.int .i64 a0_0) := (blk_cell BK140.out 0).trans rfl; have hcz14_1 : w13.cell? ⟨gb140, 1, none⟩ = some (.string a0_1) := (blk_cell BK140.out 1).trans rfl; have hcz14_2 : w13.cell? ⟨gb140, 2, none⟩ = some (.slice A0_2 l0_2.length c0_2) := (blk_cell BK140.out 2).trans rfl; have hcz14_3 : w13.cell? ⟨gb140, 3, none⟩ = some (.int .i64 a0_3) := (blk_cell BK140.out 3).trans rfl; have hcz14_4 : w13.cell? ⟨gb140, 4, none⟩ = some (.string a0_4) := (blk_cell BK140.out 4).trans rfl; have hfz14_0 := blk_frozen BK140.out 0; have hfz14_1 := blk_frozen BK140.out 1; have hfz14_2 := blk_frozen BK140.out 2; have hfz14_3 := blk_frozen BK140.out 3; have hfz14_4 := blk_frozen BK140.out 4) | (go_at_call 44; (with_reducible refine (spec_number.calls k _ _ l1 t141 _ ?side1 ?side2 A5.out).mono ?_); (case side1 => repeat (first | exact (Kd.C_below HR1.out HB.out) | (with_reducible refine Kd.C_alloc ?_ _) | (with_reducible refine Kd.C_drewN ?_ _) | (with_reducible refine Kd.C_drew ?_))); (case side2 => exact HC1.out); rintro e w' ⟨rfl, ⟨nd, rfl⟩⟩; (try first | exact ⟨rfl, _, World.drewN_drewN _ _ _⟩ | exact ⟨rfl, _, Eq.trans (World.drewN_drewN _ _ _) (congrArg (World.drewN _) (Nat.add_assoc _ _ _))⟩)) | (go_at_call 44; (with_reducible refine (spec_number.calls k _ _ l0_2 t142 _ ?side1 ?side2 A6.out).mono ?_); (case side1 => repeat (first | exact (Kd.C_below HR0_2.out (by repeat (first | (with_reducible first | exact HB.out | apply below_alloc | apply pw_below_drewN | apply below_drew1 | refine below_set ?_ GE140.out) | exact HB.out))) | (with_reducible refine Kd.C_alloc ?_ _) | (with_reducible refine Kd.C_drewN ?_ _) | (with_reducible refine Kd.C_drew ?_))); (case side2 => exact HC0_2.out); rintro e w' ⟨rfl, ⟨nd, rfl⟩⟩; (try first | exact ⟨rfl, _, World.drewN_drewN _ _ _⟩ | exact ⟨rfl, _, Eq.trans (World.drewN_drewN _ _ _) (congrArg (World.drewN _) (Nat.add_assoc _ _ _))⟩)))
      repeat (go_quiet (first | ((with_reducible refine gate_dst (N := 3) rfl ?_); refine box_event ?hg (N := 3) ?hd (cs := #[.int .i64 a0_0, .string a0_1, .slice A0_2 l0_2.length c0_2, .int .i64 a0_3, .string a0_4]) (t := 42) ?hr ?_; (case hd => rfl); (case hg => rfl); (case hr => first | (go_simp; done) | (go_simp; rfl)); intro gb140 hg w13 hbox hb; have n0_ := Aside0.mk (below_step (by repeat (first | (with_reducible first | exact HB.out | apply below_alloc | apply pw_below_drewN | apply below_drew1) | exact HB.out)) hb); have n1_ := Aside0.mk (hbox); have n2_ := Aside0.mk ((by rw [hg]; exact (below_size (by repeat (first | (with_reducible first | exact HB.out | apply below_alloc | apply pw_below_drewN | apply below_drew1) | exact HB.out))) : w.heap.size ≤ gb140)); have n3_ := Aside0.mk ((by rw [hg]; exact (below_size (by repeat (first | (with_reducible first | exact HB.out | apply below_alloc | apply pw_below_drewN | apply below_drew1) | exact HB.out))) : w.heap.size ≤ gb140)); clear HB; have HB := n0_; have BK140 := n1_; have GW140 := n2_; have GE140 := n3_; clear n0_ n1_ n2_ n3_; clear hb hbox hg; have hcz14_0 : w13.cell? ⟨gb140, 0, none⟩ = some (.int .i64 a0_0) := (blk_cell BK140.out 0).trans rfl; have hcz14_1 : w13.cell? ⟨gb140, 1, none⟩ = some (.string a0_1) := (blk_cell BK140.out 1).trans rfl; have hcz14_2 : w13.cell? ⟨gb140, 2, none⟩ = some (.slice A0_2 l0_2.length c0_2) := (blk_cell BK140.out 2).trans rfl; have hcz14_3 : w13.cell? ⟨gb140, 3, none⟩ = some (.int .i64 a0_3) := (blk_cell BK140.out 3).trans rfl; have hcz14_4 : w13.cell? ⟨gb140, 4, none⟩ = some (.string a0_4) := (blk_cell BK140.out 4).trans rfl; have hfz14_0 := blk_frozen BK140.out 0; have hfz14_1 := blk_frozen BK140.out 1; have hfz14_2 := blk_frozen BK140.out 2; have hfz14_3 := blk_frozen BK140.out 3; have hfz14_4 := blk_frozen BK140.out 4) | (go_at_call 44; (with_reducible refine (spec_number.calls k _ _ l1 t141 _ ?side1 ?side2 A5.out).mono ?_); (case side1 => repeat (first | exact (Kd.C_below HR1.out HB.out) | (with_reducible refine Kd.C_alloc ?_ _) | (with_reducible refine Kd.C_drewN ?_ _) | (with_reducible refine Kd.C_drew ?_))); (case side2 => exact HC1.out); rintro e w' ⟨rfl, ⟨nd, rfl⟩⟩; (try first | exact ⟨rfl, _, World.drewN_drewN _ _ _⟩ | exact ⟨rfl, _, Eq.trans (World.drewN_drewN _ _ _) (congrArg (World.drewN _) (Nat.add_assoc _ _ _))⟩)) | (go_at_call 44; (with_reducible refine (spec_number.calls k _ _ l0_2 t142 _ ?side1 ?side2 A6.out).mono ?_); (case side1 => repeat (first | exact (Kd.C_below HR0_2.out (by repeat (first | (with_reducible first | exact HB.out | apply below_alloc | apply pw_below_drewN | apply below_drew1 | refine below_set ?_ GE140.out) | exact HB.out))) | (with_reducible refine Kd.C_alloc ?_ _) | (with_reducible refine Kd.C_drewN ?_ _) | (with_reducible refine Kd.C_drew ?_))); (case side2 => exact HC0_2.out); rintro e w' ⟨rfl, ⟨nd, rfl⟩⟩; (try first | exact ⟨rfl, _, World.drewN_drewN _ _ _⟩ | exact ⟨rfl, _, Eq.trans (World.drewN_drewN _ _ _) (congrArg (World.drewN _) (Nat.add_assoc _ _ _))⟩))); try go_wp2_with (first | ((with_reducible refine gate_dst (N := 3) rfl ?_); refine box_event ?hg (N := 3) ?hd (cs := #[.int .i64 a0_0, .string a0_1, .slice A0_2 l0_2.length c0_2, .int .i64 a0_3, .string a0_4]) (t := 42) ?hr ?_; (case hd => rfl); (case hg => rfl); (case hr => first | (go_simp; done) | (go_simp; rfl)); intro gb140 hg w13 hbox hb; have n0_ := Aside0.mk (below_step (by repeat (first | (with_reducible first | exact HB.out | apply below_alloc | apply pw_below_drewN | apply below_drew1) | exact HB.out)) hb); have n1_ := Aside0.mk (hbox); have n2_ := Aside0.mk ((by rw [hg]; exact (below_size (by repeat (first | (with_reducible first | exact HB.out | apply below_alloc | apply pw_below_drewN | apply below_drew1) | exact HB.out))) : w.heap.size ≤ gb140)); have n3_ := Aside0.mk ((by rw [hg]; exact (below_size (by repeat (first | (with_reducible first | exact HB.out | apply below_alloc | apply pw_below_drewN | apply below_drew1) | exact HB.out))) : w.heap.size ≤ gb140)); clear HB; have HB := n0_; have BK140 := n1_; have GW140 := n2_; have GE140 := n3_; clear n0_ n1_ n2_ n3_; clear hb hbox hg; have hcz14_0 : w13.cell? ⟨gb140, 0, none⟩ = some (.int .i64 a0_0) := (blk_cell BK140.out 0).trans rfl; have hcz14_1 : w13.cell? ⟨gb140, 1, none⟩ = some (.string a0_1) := (blk_cell BK140.out 1).trans rfl; have hcz14_2 : w13.cell? ⟨gb140, 2, none⟩ = some (.slice A0_2 l0_2.length c0_2) := (blk_cell BK140.out 2).trans rfl; have hcz14_3 : w13.cell? ⟨gb140, 3, none⟩ = some (.int .i64 a0_3) := (blk_cell BK140.out 3).trans rfl; have hcz14_4 : w13.cell? ⟨gb140, 4, none⟩ = some (.string a0_4) := (blk_cell BK140.out 4).trans rfl; have hfz14_0 := blk_frozen BK140.out 0; have hfz14_1 := blk_frozen BK140.out 1; have hfz14_2 := blk_frozen BK140.out 2; have hfz14_3 := blk_frozen BK140.out 3; have hfz14_4 := blk_frozen BK140.out 4) | (go_at_call 44; (with_reducible refine (spec_number.calls k _ _ l1 t141 _ ?side1 ?side2 A5.out).mono ?_); (case side1 => repeat (first | exact (Kd.C_below HR1.out HB.out) | (with_reducible refine Kd.C_alloc ?_ _) | (with_reducible refine Kd.C_drewN ?_ _) | (with_reducible refine Kd.C_drew ?_))); (case side2 => exact HC1.out); rintro e w' ⟨rfl, ⟨nd, rfl⟩⟩; (try first | exact ⟨rfl, _, World.drewN_drewN _ _ _⟩ | exact ⟨rfl, _, Eq.trans (World.drewN_drewN _ _ _) (congrArg (World.drewN _) (Nat.add_assoc _ _ _))⟩)) | (go_at_call 44; (with_reducible refine (spec_number.calls k _ _ l0_2 t142 _ ?side1 ?side2 A6.out).mono ?_); (case side1 => repeat (first | exact (Kd.C_below HR0_2.out (by repeat (first | (with_reducible first | exact HB.out | apply below_alloc | apply pw_below_drewN | apply below_drew1 | refine below_set ?_ GE140.out) | exact HB.out))) | (with_reducible refine Kd.C_alloc ?_ _) | (with_reducible refine Kd.C_drewN ?_ _) | (with_reducible refine Kd.C_drew ?_))); (case side2 => exact HC0_2.out); rintro e w' ⟨rfl, ⟨nd, rfl⟩⟩; (try first | exact ⟨rfl, _, World.drewN_drewN _ _ _⟩ | exact ⟨rfl, _, Eq.trans (World.drewN_drewN _ _ _) (congrArg (World.drewN _) (Nat.add_assoc _ _ _))⟩))))
      go_ret
      exact ⟨by first | rfl | (simp [errW_none, errW_some] <;> rfl) | (simp [*, errW_none, errW_some] <;> rfl), by repeat (first | (with_reducible first | exact HB.out | apply below_alloc | apply pw_below_drewN | apply below_drew1 | refine below_set ?_ GE140.out) | exact HB.out)⟩
  · rw [if_neg c4] at H
    have c4b0 : (a0_0 == 2) = false := beq_eq_false_iff_ne.mpr c4
    have c4b1 : (a0_0 != 2) = true := bne_iff_ne.mpr c4
    by_cases c15 : a0_0 = 3
    · rw [if_pos c15] at H
      have c15b0 : (a0_0 == 3) = true := beq_iff_eq.mpr c15
      have c15b1 : (a0_0 != 3) = false := bne_eq_false_iff_eq.mpr c15
      clear c15
      replace H := Option.bind_eq_some_iff.mp H
      obtain ⟨t143, A160, H⟩ := H
      replace H : (if 0 ≤ (wrap64 (32 - a0_3)) then ((spec_number.f k l0_2).bind fun t144 => (some ((shr .i64 t143 (wrap64 (32 - a0_3))) == (shr .i64 t144 (wrap64 (32 - a0_3)))))) else (none)) = some r := H
      have A16 := Aside0.mk A160
      clear A160
      obtain ⟨ji17, hji17⟩ : ∃ j_ : Int, (wrap64 (32 - a0_3)) = j_ := ⟨_, rfl⟩
      replace H : (if 0 ≤ (ji17) then ((spec_number.f k l0_2).bind fun t144 => (some ((shr .i64 t143 (ji17)) == (shr .i64 t144 (ji17))))) else (none)) = some r := by first | (rw [hji17] at H; exact H) | (simp only [hji17] at H ⊢; exact H)
      (try rw [hji17] at A16)
      have hji17w : (IntKind.i64.wrap (32 - a0_3)) = ji17 := (i64_w _).trans hji17
      by_cases c18 : 0 ≤ (ji17)
      · rw [if_pos c18] at H
        have c18b0 := eq_true c18
        have c18b1 : decide (0 ≤ (ji17)) = true := decide_eq_true c18
        clear c18
        obtain ⟨ji19, hji19⟩ : ∃ j_ : Int, (shr .i64 t143 (ji17)) = j_ := ⟨_, rfl⟩
        replace H : ((spec_number.f k l0_2).bind fun t144 => (some ((ji19) == (shr .i64 t144 (ji17))))) = some r := by first | (rw [hji19] at H; exact H) | (simp only [hji19] at H ⊢; exact H)
        (try rw [hji19] at A16)
        have hji19_ : (t143 / 2 ^ min (ji17).toNat 64) = ji19 := hji19
        have hji19z : (ji17) ≤ 64 → (t143 / 2 ^ (ji17).toNat) = ji19 := shr_small hji19
        replace H := Option.bind_eq_some_iff.mp H
        obtain ⟨t144, A200, H⟩ := H
        replace H : (some ((ji19) == (shr .i64 t144 (ji17)))) = some r := H
        have A20 := Aside0.mk A200
        clear A200
        have c21b0 := eq_true (of_decide_eq_true (by first | (with_reducible assumption) | assumption) : 0 ≤ (ji17))
        obtain ⟨ji22, hji22⟩ : ∃ j_ : Int, (shr .i64 t144 (ji17)) = j_ := ⟨_, rfl⟩
        replace H : (some ((ji19) == (ji22))) = some r := by first | (rw [hji22] at H; exact H) | (simp only [hji22] at H ⊢; exact H)
        (try rw [hji22] at A16)
        (try rw [hji22] at A20)
        have hji22_ : (t144 / 2 ^ min (ji17).toNat 64) = ji22 := hji22
        have hji22z : (ji17) ≤ 64 → (t144 / 2 ^ (ji17).toNat) = ji22 := shr_small hji22
        obtain rfl := Option.some.inj H
        go_enter Tryz.func35, Tryz.ntmps35
        go_wp2_with (first | ((with_reducible refine gate_dst (N := 3) rfl ?_); refine box_event ?hg (N := 3) ?hd (cs := #[.int .i64 a0_0, .string a0_1, .slice A0_2 l0_2.length c0_2, .int .i64 a0_3, .string a0_4]) (t := 42) ?hr ?_; (case hd => rfl); (case hg => rfl); (case hr => first | (go_simp; done) | (go_simp; rfl)); intro gb140 hg w23 hbox hb; have n0_ := Aside0.mk (below_step (by repeat (first | (with_reducible first | exact HB.out | apply below_alloc | apply pw_below_drewN | apply below_drew1) | exact HB.out)) hb); have n1_ := Aside0.mk (hbox); have n2_ := Aside0.mk ((by rw [hg]; exact (below_size (by repeat (first | (with_reducible first | exact HB.out | apply below_alloc | apply pw_below_drewN | apply below_drew1) | exact HB.out))) : w.heap.size ≤ gb140)); have n3_ := Aside0.mk ((by rw [hg]; exact (below_size (by repeat (first | (with_reducible first | exact HB.out | apply below_alloc | apply pw_below_drewN | apply below_drew1) | exact HB.out))) : w.heap.size ≤ gb140)); clear HB; have HB := n0_; have BK140 := n1_; have GW140 := n2_; have GE140 := n3_; clear n0_ n1_ n2_ n3_; clear hb hbox hg; have hcz24_0 : w23.cell? ⟨gb140, 0, none⟩ = some (.int .i64 a0_0) := (blk_cell BK140.out 0).trans rfl; have hcz24_1 : w23.cell? ⟨gb140, 1, none⟩ = some (.string a0_1) := (blk_cell BK140.out 1).trans rfl; have hcz24_2 : w23.cell? ⟨gb140, 2, none⟩ = some (.slice A0_2 l0_2.length c0_2) := (blk_cell BK140.out 2).trans rfl; have hcz24_3 : w23.cell? ⟨gb140, 3, none⟩ = some (.int .i64 a0_3) := (blk_cell BK140.out 3).trans rfl; have hcz24_4 : w23.cell? ⟨gb140, 4, none⟩ = some (.string a0_4) := (blk_cell BK140.out 4).trans rfl; have hfz24_0 := blk_frozen BK140.out 0; have hfz24_1 := blk_frozen BK140.out 1; have hfz24_2 := blk_frozen BK140.out 2; have hfz24_3 := blk_frozen BK140.out 3; have hfz24_4 := blk_frozen BK140.out 4) | (go_at_call 44; (with_reducible refine (spec_number.calls k _ _ l1 t143 _ ?side1 ?side2 A16.out).mono ?_); (case side1 => repeat (first | exact (Kd.C_below HR1.out HB.out) | (with_reducible refine Kd.C_alloc ?_ _) | (with_reducible refine Kd.C_drewN ?_ _) | (with_reducible refine Kd.C_drew ?_))); (case side2 => exact HC1.out); rintro e w' ⟨rfl, ⟨nd, rfl⟩⟩; (try first | exact ⟨rfl, _, World.drewN_drewN _ _ _⟩ | exact ⟨rfl, _, Eq.trans (World.drewN_drewN _ _ _) (congrArg (World.drewN _) (Nat.add_assoc _ _ _))⟩)) | (go_at_call 44; (with_reducible refine (spec_number.calls k _ _ l0_2 t144 _ ?side1 ?side2 A20.out).mono ?_); (case side1 => repeat (first | exact (Kd.C_below HR0_2.out (by repeat (first | (with_reducible first | exact HB.out | apply below_alloc | apply pw_below_drewN | apply below_drew1 | refine below_set ?_ GE140.out) | exact HB.out))) | (with_reducible refine Kd.C_alloc ?_ _) | (with_reducible refine Kd.C_drewN ?_ _) | (with_reducible refine Kd.C_drew ?_))); (case side2 => exact HC0_2.out); rintro e w' ⟨rfl, ⟨nd, rfl⟩⟩; (try first | exact ⟨rfl, _, World.drewN_drewN _ _ _⟩ | exact ⟨rfl, _, Eq.trans (World.drewN_drewN _ _ _) (congrArg (World.drewN _) (Nat.add_assoc _ _ _))⟩)))
        repeat (go_quiet (first | ((with_reducible refine gate_dst (N := 3) rfl ?_); refine box_event ?hg (N := 3) ?hd (cs := #[.int .i64 a0_0, .string a0_1, .slice A0_2 l0_2.length c0_2, .int .i64 a0_3, .string a0_4]) (t := 42) ?hr ?_; (case hd => rfl); (case hg => rfl); (case hr => first | (go_simp; done) | (go_simp; rfl)); intro gb140 hg w23 hbox hb; have n0_ := Aside0.mk (below_step (by repeat (first | (with_reducible first | exact HB.out | apply below_alloc | apply pw_below_drewN | apply below_drew1) | exact HB.out)) hb); have n1_ := Aside0.mk (hbox); have n2_ := Aside0.mk ((by rw [hg]; exact (below_size (by repeat (first | (with_reducible first | exact HB.out | apply below_alloc | apply pw_below_drewN | apply below_drew1) | exact HB.out))) : w.heap.size ≤ gb140)); have n3_ := Aside0.mk ((by rw [hg]; exact (below_size (by repeat (first | (with_reducible first | exact HB.out | apply below_alloc | apply pw_below_drewN | apply below_drew1) | exact HB.out))) : w.heap.size ≤ gb140)); clear HB; have HB := n0_; have BK140 := n1_; have GW140 := n2_; have GE140 := n3_; clear n0_ n1_ n2_ n3_; clear hb hbox hg; have hcz24_0 : w23.cell? ⟨gb140, 0, none⟩ = some (.int .i64 a0_0) := (blk_cell BK140.out 0).trans rfl; have hcz24_1 : w23.cell? ⟨gb140, 1, none⟩ = some (.string a0_1) := (blk_cell BK140.out 1).trans rfl; have hcz24_2 : w23.cell? ⟨gb140, 2, none⟩ = some (.slice A0_2 l0_2.length c0_2) := (blk_cell BK140.out 2).trans rfl; have hcz24_3 : w23.cell? ⟨gb140, 3, none⟩ = some (.int .i64 a0_3) := (blk_cell BK140.out 3).trans rfl; have hcz24_4 : w23.cell? ⟨gb140, 4, none⟩ = some (.string a0_4) := (blk_cell BK140.out 4).trans rfl; have hfz24_0 := blk_frozen BK140.out 0; have hfz24_1 := blk_frozen BK140.out 1; have hfz24_2 := blk_frozen BK140.out 2; have hfz24_3 := blk_frozen BK140.out 3; have hfz24_4 := blk_frozen BK140.out 4) | (go_at_call 44; (with_reducible refine (spec_number.calls k _ _ l1 t143 _ ?side1 ?side2 A16.out).mono ?_); (case side1 => repeat (first | exact (Kd.C_below HR1.out HB.out) | (with_reducible refine Kd.C_alloc ?_ _) | (with_reducible refine Kd.C_drewN ?_ _) | (with_reducible refine Kd.C_drew ?_))); (case side2 => exact HC1.out); rintro e w' ⟨rfl, ⟨nd, rfl⟩⟩; (try first | exact ⟨rfl, _, World.drewN_drewN _ _ _⟩ | exact ⟨rfl, _, Eq.trans (World.drewN_drewN _ _ _) (congrArg (World.drewN _) (Nat.add_assoc _ _ _))⟩)) | (go_at_call 44; (with_reducible refine (spec_number.calls k _ _ l0_2 t144 _ ?side1 ?side2 A20.out).mono ?_); (case side1 => repeat (first | exact (Kd.C_below HR0_2.out (by repeat (first | (with_reducible first | exact HB.out | apply below_alloc | apply pw_below_drewN | apply below_drew1 | refine below_set ?_ GE140.out) | exact HB.out))) | (with_reducible refine Kd.C_alloc ?_ _) | (with_reducible refine Kd.C_drewN ?_ _) | (with_reducible refine Kd.C_drew ?_))); (case side2 => exact HC0_2.out); rintro e w' ⟨rfl, ⟨nd, rfl⟩⟩; (try first | exact ⟨rfl, _, World.drewN_drewN _ _ _⟩ | exact ⟨rfl, _, Eq.trans (World.drewN_drewN _ _ _) (congrArg (World.drewN _) (Nat.add_assoc _ _ _))⟩))); try go_wp2_with (first | ((with_reducible refine gate_dst (N := 3) rfl ?_); refine box_event ?hg (N := 3) ?hd (cs := #[.int .i64 a0_0, .string a0_1, .slice A0_2 l0_2.length c0_2, .int .i64 a0_3, .string a0_4]) (t := 42) ?hr ?_; (case hd => rfl); (case hg => rfl); (case hr => first | (go_simp; done) | (go_simp; rfl)); intro gb140 hg w23 hbox hb; have n0_ := Aside0.mk (below_step (by repeat (first | (with_reducible first | exact HB.out | apply below_alloc | apply pw_below_drewN | apply below_drew1) | exact HB.out)) hb); have n1_ := Aside0.mk (hbox); have n2_ := Aside0.mk ((by rw [hg]; exact (below_size (by repeat (first | (with_reducible first | exact HB.out | apply below_alloc | apply pw_below_drewN | apply below_drew1) | exact HB.out))) : w.heap.size ≤ gb140)); have n3_ := Aside0.mk ((by rw [hg]; exact (below_size (by repeat (first | (with_reducible first | exact HB.out | apply below_alloc | apply pw_below_drewN | apply below_drew1) | exact HB.out))) : w.heap.size ≤ gb140)); clear HB; have HB := n0_; have BK140 := n1_; have GW140 := n2_; have GE140 := n3_; clear n0_ n1_ n2_ n3_; clear hb hbox hg; have hcz24_0 : w23.cell? ⟨gb140, 0, none⟩ = some (.int .i64 a0_0) := (blk_cell BK140.out 0).trans rfl; have hcz24_1 : w23.cell? ⟨gb140, 1, none⟩ = some (.string a0_1) := (blk_cell BK140.out 1).trans rfl; have hcz24_2 : w23.cell? ⟨gb140, 2, none⟩ = some (.slice A0_2 l0_2.length c0_2) := (blk_cell BK140.out 2).trans rfl; have hcz24_3 : w23.cell? ⟨gb140, 3, none⟩ = some (.int .i64 a0_3) := (blk_cell BK140.out 3).trans rfl; have hcz24_4 : w23.cell? ⟨gb140, 4, none⟩ = some (.string a0_4) := (blk_cell BK140.out 4).trans rfl; have hfz24_0 := blk_frozen BK140.out 0; have hfz24_1 := blk_frozen BK140.out 1; have hfz24_2 := blk_frozen BK140.out 2; have hfz24_3 := blk_frozen BK140.out 3; have hfz24_4 := blk_frozen BK140.out 4) | (go_at_call 44; (with_reducible refine (spec_number.calls k _ _ l1 t143 _ ?side1 ?side2 A16.out).mono ?_); (case side1 => repeat (first | exact (Kd.C_below HR1.out HB.out) | (with_reducible refine Kd.C_alloc ?_ _) | (with_reducible refine Kd.C_drewN ?_ _) | (with_reducible refine Kd.C_drew ?_))); (case side2 => exact HC1.out); rintro e w' ⟨rfl, ⟨nd, rfl⟩⟩; (try first | exact ⟨rfl, _, World.drewN_drewN _ _ _⟩ | exact ⟨rfl, _, Eq.trans (World.drewN_drewN _ _ _) (congrArg (World.drewN _) (Nat.add_assoc _ _ _))⟩)) | (go_at_call 44; (with_reducible refine (spec_number.calls k _ _ l0_2 t144 _ ?side1 ?side2 A20.out).mono ?_); (case side1 => repeat (first | exact (Kd.C_below HR0_2.out (by repeat (first | (with_reducible first | exact HB.out | apply below_alloc | apply pw_below_drewN | apply below_drew1 | refine below_set ?_ GE140.out) | exact HB.out))) | (with_reducible refine Kd.C_alloc ?_ _) | (with_reducible refine Kd.C_drewN ?_ _) | (with_reducible refine Kd.C_drew ?_))); (case side2 => exact HC0_2.out); rintro e w' ⟨rfl, ⟨nd, rfl⟩⟩; (try first | exact ⟨rfl, _, World.drewN_drewN _ _ _⟩ | exact ⟨rfl, _, Eq.trans (World.drewN_drewN _ _ _) (congrArg (World.drewN _) (Nat.add_assoc _ _ _))⟩))))
        go_ret
        exact ⟨by first | rfl | (simp [errW_none, errW_some] <;> rfl) | (simp only [← hji17, ← hji19, ← hji22]; first | rfl | (simp [errW_none, errW_some] <;> rfl)) | (simp [*, errW_none, errW_some] <;> rfl), by repeat (first | (with_reducible first | exact HB.out | apply below_alloc | apply pw_below_drewN | apply below_drew1 | refine below_set ?_ GE140.out) | exact HB.out)⟩
      · rw [if_neg c18] at H
        exact absurd H (by simp)
    · rw [if_neg c15] at H
      have c15b0 : (a0_0 == 3) = false := beq_eq_false_iff_ne.mpr c15
      have c15b1 : (a0_0 != 3) = true := bne_iff_ne.mpr c15
      obtain rfl := Option.some.inj H
      go_enter Tryz.func35, Tryz.ntmps35
      go_wp2_with (first | ((with_reducible refine gate_dst (N := 3) rfl ?_); refine box_event ?hg (N := 3) ?hd (cs := #[.int .i64 a0_0, .string a0_1, .slice A0_2 l0_2.length c0_2, .int .i64 a0_3, .string a0_4]) (t := 42) ?hr ?_; (case hd => rfl); (case hg => rfl); (case hr => first | (go_simp; done) | (go_simp; rfl)); intro gb140 hg w25 hbox hb; have n0_ := Aside0.mk (below_step (by repeat (first | (with_reducible first | exact HB.out | apply below_alloc | apply pw_below_drewN | apply below_drew1) | exact HB.out)) hb); have n1_ := Aside0.mk (hbox); have n2_ := Aside0.mk ((by rw [hg]; exact (below_size (by repeat (first | (with_reducible first | exact HB.out | apply below_alloc | apply pw_below_drewN | apply below_drew1) | exact HB.out))) : w.heap.size ≤ gb140)); have n3_ := Aside0.mk ((by rw [hg]; exact (below_size (by repeat (first | (with_reducible first | exact HB.out | apply below_alloc | apply pw_below_drewN | apply below_drew1) | exact HB.out))) : w.heap.size ≤ gb140)); clear HB; have HB := n0_; have BK140 := n1_; have GW140 := n2_; have GE140 := n3_; clear n0_ n1_ n2_ n3_; clear hb hbox hg; have hcz26_0 : w25.cell? ⟨gb140, 0, none⟩ = some (.int .i64 a0_0) := (blk_cell BK140.out 0).trans rfl; have hcz26_1 : w25.cell? ⟨gb140, 1, none⟩ = some (.string a0_1) := (blk_cell BK140.out 1).trans rfl; have hcz26_2 : w25.cell? ⟨gb140, 2, none⟩ = some (.slice A0_2 l0_2.length c0_2) := (blk_cell BK140.out 2).trans rfl; have hcz26_3 : w25.cell? ⟨gb140, 3, none⟩ = some (.int .i64 a0_3) := (blk_cell BK140.out 3).trans rfl; have hcz26_4 : w25.cell? ⟨gb140, 4, none⟩ = some (.string a0_4) := (blk_cell BK140.out 4).trans rfl; have hfz26_0 := blk_frozen BK140.out 0; have hfz26_1 := blk_frozen BK140.out 1; have hfz26_2 := blk_frozen BK140.out 2; have hfz26_3 := blk_frozen BK140.out 3; have hfz26_4 := blk_frozen BK140.out 4))
      repeat (go_quiet (first | ((with_reducible refine gate_dst (N := 3) rfl ?_); refine box_event ?hg (N := 3) ?hd (cs := #[.int .i64 a0_0, .string a0_1, .slice A0_2 l0_2.length c0_2, .int .i64 a0_3, .string a0_4]) (t := 42) ?hr ?_; (case hd => rfl); (case hg => rfl); (case hr => first | (go_simp; done) | (go_simp; rfl)); intro gb140 hg w25 hbox hb; have n0_ := Aside0.mk (below_step (by repeat (first | (with_reducible first | exact HB.out | apply below_alloc | apply pw_below_drewN | apply below_drew1) | exact HB.out)) hb); have n1_ := Aside0.mk (hbox); have n2_ := Aside0.mk ((by rw [hg]; exact (below_size (by repeat (first | (with_reducible first | exact HB.out | apply below_alloc | apply pw_below_drewN | apply below_drew1) | exact HB.out))) : w.heap.size ≤ gb140)); have n3_ := Aside0.mk ((by rw [hg]; exact (below_size (by repeat (first | (with_reducible first | exact HB.out | apply below_alloc | apply pw_below_drewN | apply below_drew1) | exact HB.out))) : w.heap.size ≤ gb140)); clear HB; have HB := n0_; have BK140 := n1_; have GW140 := n2_; have GE140 := n3_; clear n0_ n1_ n2_ n3_; clear hb hbox hg; have hcz26_0 : w25.cell? ⟨gb140, 0, none⟩ = some (.int .i64 a0_0) := (blk_cell BK140.out 0).trans rfl; have hcz26_1 : w25.cell? ⟨gb140, 1, none⟩ = some (.string a0_1) := (blk_cell BK140.out 1).trans rfl; have hcz26_2 : w25.cell? ⟨gb140, 2, none⟩ = some (.slice A0_2 l0_2.length c0_2) := (blk_cell BK140.out 2).trans rfl; have hcz26_3 : w25.cell? ⟨gb140, 3, none⟩ = some (.int .i64 a0_3) := (blk_cell BK140.out 3).trans rfl; have hcz26_4 : w25.cell? ⟨gb140, 4, none⟩ = some (.string a0_4) := (blk_cell BK140.out 4).trans rfl; have hfz26_0 := blk_frozen BK140.out 0; have hfz26_1 := blk_frozen BK140.out 1; have hfz26_2 := blk_frozen BK140.out 2; have hfz26_3 := blk_frozen BK140.out 3; have hfz26_4 := blk_frozen BK140.out 4)); try go_wp2_with (first | ((with_reducible refine gate_dst (N := 3) rfl ?_); refine box_event ?hg (N := 3) ?hd (cs := #[.int .i64 a0_0, .string a0_1, .slice A0_2 l0_2.length c0_2, .int .i64 a0_3, .string a0_4]) (t := 42) ?hr ?_; (case hd => rfl); (case hg => rfl); (case hr => first | (go_simp; done) | (go_simp; rfl)); intro gb140 hg w25 hbox hb; have n0_ := Aside0.mk (below_step (by repeat (first | (with_reducible first | exact HB.out | apply below_alloc | apply pw_below_drewN | apply below_drew1) | exact HB.out)) hb); have n1_ := Aside0.mk (hbox); have n2_ := Aside0.mk ((by rw [hg]; exact (below_size (by repeat (first | (with_reducible first | exact HB.out | apply below_alloc | apply pw_below_drewN | apply below_drew1) | exact HB.out))) : w.heap.size ≤ gb140)); have n3_ := Aside0.mk ((by rw [hg]; exact (below_size (by repeat (first | (with_reducible first | exact HB.out | apply below_alloc | apply pw_below_drewN | apply below_drew1) | exact HB.out))) : w.heap.size ≤ gb140)); clear HB; have HB := n0_; have BK140 := n1_; have GW140 := n2_; have GE140 := n3_; clear n0_ n1_ n2_ n3_; clear hb hbox hg; have hcz26_0 : w25.cell? ⟨gb140, 0, none⟩ = some (.int .i64 a0_0) := (blk_cell BK140.out 0).trans rfl; have hcz26_1 : w25.cell? ⟨gb140, 1, none⟩ = some (.string a0_1) := (blk_cell BK140.out 1).trans rfl; have hcz26_2 : w25.cell? ⟨gb140, 2, none⟩ = some (.slice A0_2 l0_2.length c0_2) := (blk_cell BK140.out 2).trans rfl; have hcz26_3 : w25.cell? ⟨gb140, 3, none⟩ = some (.int .i64 a0_3) := (blk_cell BK140.out 3).trans rfl; have hcz26_4 : w25.cell? ⟨gb140, 4, none⟩ = some (.string a0_4) := (blk_cell BK140.out 4).trans rfl; have hfz26_0 := blk_frozen BK140.out 0; have hfz26_1 := blk_frozen BK140.out 1; have hfz26_2 := blk_frozen BK140.out 2; have hfz26_3 := blk_frozen BK140.out 3; have hfz26_4 := blk_frozen BK140.out 4)))
      go_ret
      exact ⟨by first | rfl | (simp [errW_none, errW_some] <;> rfl) | (simp [*, errW_none, errW_some] <;> rfl), by repeat (first | (with_reducible first | exact HB.out | apply below_alloc | apply pw_below_drewN | apply below_drew1 | refine below_set ?_ GE140.out) | exact HB.out)⟩

/-! ### spec_AnyAddress: function 23 -/
def spec_AnyAddress.l0 : Nat → List Int → ByteArray → List (S42) → Int → Int → Option (Bool)
  | 0, _, _, _, _, _ => none
  | k + 1, x1, x2, x9, x10, x11 => if x11 < x10 then (if 0 ≤ x11 then (if x11 < (x9.length : Int) then ((spec_MatchesAddress.f k ((rd_T42 x9 x11).f0) ((rd_T42 x9 x11).f1) ((rd_T42 x9 x11).f2) ((rd_T42 x9 x11).f3) ((rd_T42 x9 x11).f4) x1 x2).bind fun t147 => (if t147 = true then (some true) else (spec_AnyAddress.l0 k x1 x2 x9 x10 (wrap64 (x11 + 1))))) else (none)) else (none)) else (some false)
def spec_AnyAddress.f (k : Nat) (l0 : List (S42)) (l1 : List Int) (a2 : ByteArray) : Option (Bool) := spec_AnyAddress.l0 k l1 a2 l0 (l0.length : Int) 0
theorem spec_AnyAddress.mono_l : ∀ k, (∀ y0 y1 y2 y3 y4, LeO (spec_AnyAddress.l0 k y0 y1 y2 y3 y4) (spec_AnyAddress.l0 (k + 1) y0 y1 y2 y3 y4))
  | 0 => fun _ _ _ _ _ r h => by simp [spec_AnyAddress.l0] at h
  | k + 1 => by
    have ih0 := spec_AnyAddress.mono_l k
    · intro y0 y1 y2 y3 y4
      unfold spec_AnyAddress.l0
      repeat' first
      | (with_reducible exact ih0 _ _ _ _ _)
      | (with_reducible exact spec_MatchesAddress.mono _ _ _ _ _ _ _ _)
      | (with_reducible exact LeO.refl _)
      | (with_reducible exact LeO.none _)
      | (with_reducible refine LeO.ite ?_ ?_)
      | (with_reducible refine LeO.bind ?_ (fun _ => ?_))
      | exact ih0 _ _ _ _ _
      | exact spec_MatchesAddress.mono _ _ _ _ _ _ _ _
      | exact LeO.none _
      | refine LeO.ite ?_ ?_
      | refine LeO.bind ?_ (fun _ => ?_)
theorem spec_AnyAddress.mono : ∀ a0 a1 a2 k, LeO (spec_AnyAddress.f k a0 a1 a2) (spec_AnyAddress.f (k + 1) a0 a1 a2) := by
  intro a0 a1 a2 k
  have ih0 := spec_AnyAddress.mono_l k
  unfold spec_AnyAddress.f
  repeat' first
      | (with_reducible exact ih0 _ _ _ _ _)
      | (with_reducible exact spec_MatchesAddress.mono _ _ _ _ _ _ _ _)
      | (with_reducible exact LeO.refl _)
      | (with_reducible exact LeO.none _)
      | (with_reducible refine LeO.ite ?_ ?_)
      | (with_reducible refine LeO.bind ?_ (fun _ => ?_))
      | exact ih0 _ _ _ _ _
      | exact spec_MatchesAddress.mono _ _ _ _ _ _ _ _
      | exact LeO.none _
      | refine LeO.ite ?_ ?_
      | refine LeO.bind ?_ (fun _ => ?_)
set_option maxHeartbeats 8000000 in
set_option maxRecDepth 100000 in
theorem spec_AnyAddress.calls (k : Nat) (A0 : Option Addr) (c0 : Nat) (l0 : List (S42)) (A1 : Option Addr) (c1 : Nat) (l1 : List Int) (a2 : ByteArray) (r : Bool) (w : World) (hr0 : Kd.C k42 w A0 l0.length l0) (hc0 : l0.length ≤ c0) (hr1 : Kd.C (Kd.int .i64) w A1 l1.length l1) (hc1 : l1.length ≤ c1) (h : spec_AnyAddress.f k l0 l1 a2 = some r) :
    Calls Tryz.prog 23 #[.slice A0 l0.length c0, .slice A1 l1.length c1, .string a2] w fun e w' => e = .returned (.bool r) ∧ Below w.heap.size w w' := by
  have hu42 := Tryz.underlying42
  have HR0 := Aside0.mk hr0
  have HC0 := Aside0.mk hc0
  clear hr0 hc0
  have HR1 := Aside0.mk hr1
  have HC1 := Aside0.mk hc1
  clear hr1 hc1
  have HB := Aside0.mk (Below.refl w.heap.size w)
  have H : (spec_AnyAddress.l0 k l1 a2 l0 (l0.length : Int) 0) = some r := h
  clear h
  have H' := Aside0.mk H
  clear H
  go_enter Tryz.func23, Tryz.ntmps23
  go_wp2
  go_loopg [11] k (fun kq v11 w' => ∃ (x11_1 : Int), v11 = .int .i64 x11_1 ∧ Aside0 (spec_AnyAddress.l0 kq l1 a2 l0 (l0.length : Int) x11_1 = some r) ∧ Aside0 (kq ≤ k) ∧ Aside0 (Below w.heap.size w w'))
  case atStart => exact ⟨(0), (by first | rfl | (simp; done) | (simp [*]; done)), H', ⟨Nat.le_refl _⟩, ⟨by repeat (first | (with_reducible first | exact HB.out | apply below_alloc | apply pw_below_drewN | apply below_drew1) | exact HB.out)⟩⟩
  case round =>
    clear H'
    try clear c1
    try clear c2
    try clear p2
    obtain ⟨x11_1, rfl, HA, HK1, HB⟩ := hrel
    cases gk with
    | zero => exact absurd HA.out (by simp [spec_AnyAddress.l0])
    | succ k1 =>
      have H := HA.out
      clear HA
      simp only [spec_AnyAddress.l0] at H
      by_cases c4 : x11_1 < (l0.length : Int)
      · rw [if_pos c4] at H
        have c4b0 : decide (x11_1 < (l0.length : Int)) = true := decide_eq_true c4
        clear c4
        by_cases c5 : 0 ≤ x11_1
        · rw [if_pos c5] at H
          have c5b0 : decide (0 ≤ x11_1) = true := decide_eq_true c5
          clear c5
          by_cases c6 : x11_1 < (l0.length : Int)
          · rw [if_pos c6] at H
            have c6b0 : decide (x11_1 < (l0.length : Int)) = true := decide_eq_true c6
            clear c6
            replace H := Option.bind_eq_some_iff.mp H
            obtain ⟨t147, A70, H⟩ := H
            replace H : (if t147 = true then (some true) else (spec_AnyAddress.l0 k1 l1 a2 l0 (l0.length : Int) (wrap64 (x11_1 + 1)))) = some r := H
            have A7 := Aside0.mk A70
            clear A70
            by_cases c8 : t147 = true
            · subst c8
              have H1 : (some true) = some r := by rw [if_pos rfl] at H; exact H
              clear H
              have H := H1
              clear H1
              obtain rfl := Option.some.inj H
              have p145 : 0 ≤ (x11_1 : Int) := of_decide_eq_true (by first | (with_reducible assumption) | assumption)
              have q145 : x11_1 < (l0.length : Int) := of_decide_eq_true (by first | (with_reducible assumption) | assumption)
              obtain ⟨ad145, A145_2, c145_2, e145, hx145_0, hx145_1, hx145_2, hx145_3, hx145_4, hl145_2, hi145_2⟩ := at_T42 HR0.out x11_1 p145 q145
              cases e145
              replace hx145_0 := (HB.out.cell (World.block_lt_of_cell? w _ hx145_0)).trans hx145_0
              replace hx145_1 := (HB.out.cell (World.block_lt_of_cell? w _ hx145_1)).trans hx145_1
              replace hx145_2 := (HB.out.cell (World.block_lt_of_cell? w _ hx145_2)).trans hx145_2
              replace hx145_3 := (HB.out.cell (World.block_lt_of_cell? w _ hx145_3)).trans hx145_3
              replace hx145_4 := (HB.out.cell (World.block_lt_of_cell? w _ hx145_4)).trans hx145_4
              have HR145_2 := Aside0.mk hi145_2
              have HC145_2 := Aside0.mk hl145_2
              clear hi145_2 hl145_2
              replace p145 := eq_true p145
              replace q145 := eq_true q145
              go_wp2_with (first | ((with_reducible refine gate_dst (N := 8) rfl ?_); refine box_event ?hg (N := 8) ?hd (cs := #[.int .i64 0, .string (⟨#[]⟩ : ByteArray), .slice none 0 0, .int .i64 0, .string (⟨#[]⟩ : ByteArray)]) (t := 42) ?hr ?_; (case hd => rfl); (case hg => rfl); (case hr => first | (go_simp; done) | (go_simp; rfl)); intro gb146 hg w9 hbox hb; have n0_ := Aside0.mk (below_step (by repeat (first | (with_reducible first | exact HB.out | apply below_alloc | apply pw_below_drewN | apply below_drew1) | exact HB.out)) hb); have n1_ := Aside0.mk (hbox); have n2_ := Aside0.mk ((by rw [hg]; exact (below_size (by repeat (first | (with_reducible first | exact HB.out | apply below_alloc | apply pw_below_drewN | apply below_drew1) | exact HB.out))) : w.heap.size ≤ gb146)); have n3_ := Aside0.mk ((by rw [hg]; exact (below_size (by repeat (first | (with_reducible first | exact HB.out | apply below_alloc | apply pw_below_drewN | apply below_drew1) | exact HB.out))) : w.heap.size ≤ gb146)); clear HB; have HB := n0_; have BK146 := n1_; have GW146 := n2_; have GE146 := n3_; clear n0_ n1_ n2_ n3_; clear hb hbox hg; have hcz10_0 : w9.cell? ⟨gb146, 0, none⟩ = some (.int .i64 0) := (blk_cell BK146.out 0).trans rfl; have hcz10_1 : w9.cell? ⟨gb146, 1, none⟩ = some (.string (⟨#[]⟩ : ByteArray)) := (blk_cell BK146.out 1).trans rfl; have hcz10_2 : w9.cell? ⟨gb146, 2, none⟩ = some (.slice none 0 0) := (blk_cell BK146.out 2).trans rfl; have hcz10_3 : w9.cell? ⟨gb146, 3, none⟩ = some (.int .i64 0) := (blk_cell BK146.out 3).trans rfl; have hcz10_4 : w9.cell? ⟨gb146, 4, none⟩ = some (.string (⟨#[]⟩ : ByteArray)) := (blk_cell BK146.out 4).trans rfl; have hfz10_0 := blk_frozen BK146.out 0; have hfz10_1 := blk_frozen BK146.out 1; have hfz10_2 := blk_frozen BK146.out 2; have hfz10_3 := blk_frozen BK146.out 3; have hfz10_4 := blk_frozen BK146.out 4) | ((with_reducible refine gate_callee (f := 35) rfl ?_); refine goesL_ (some 18) rfl rfl Tryz.func35 (by kernel_rfl) rfl #[.agg #[.int .i64 ((rd_T42 l0 x11_1).f0), .string ((rd_T42 l0 x11_1).f1), .slice A145_2 ((rd_T42 l0 x11_1).f2).length c145_2, .int .i64 ((rd_T42 l0 x11_1).f3), .string ((rd_T42 l0 x11_1).f4)], .slice A1 l1.length c1, .string a2] rfl (by (try simp only [List.map_toArray, List.map_cons, List.map_nil]); first | done | rfl | (simp only [List.length_drop, List.length_take]; rfl)) ?_; (with_reducible refine (spec_MatchesAddress.calls k1 ((rd_T42 l0 x11_1).f0) ((rd_T42 l0 x11_1).f1) _ _ ((rd_T42 l0 x11_1).f2) ((rd_T42 l0 x11_1).f3) ((rd_T42 l0 x11_1).f4) _ _ l1 a2 true _ ?side1 ?side2 ?side3 ?side4 A7.out).mono ?_); (case side1 => exact Kd.C_below HR145_2.out (by repeat (first | (with_reducible first | exact HB.out | apply below_alloc | apply pw_below_drewN | apply below_drew1 | refine below_set ?_ GE146.out) | exact HB.out))); (case side2 => exact HC145_2.out); (case side3 => exact Kd.C_below HR1.out (by repeat (first | (with_reducible first | exact HB.out | apply below_alloc | apply pw_below_drewN | apply below_drew1 | refine below_set ?_ GE146.out) | exact HB.out))); (case side4 => exact HC1.out); rintro e w11 ⟨rfl, hb⟩; refine ⟨_, rfl, ?_⟩; have n0_ := Aside0.mk (blk_below (g := gb146) (o := .cells #[.int .i64 ((rd_T42 l0 x11_1).f0), .string ((rd_T42 l0 x11_1).f1), .slice A145_2 ((rd_T42 l0 x11_1).f2).length c145_2, .int .i64 ((rd_T42 l0 x11_1).f3), .string ((rd_T42 l0 x11_1).f4)] 42 (0, 0)) (by (with_reducible repeat (first | refine blk_drewN ?_ _ | refine blk_drew ?_ | refine blk_alloc ?_ _)); refine blk_put (cs := #[.int .i64 ((rd_T42 l0 x11_1).f0), .string ((rd_T42 l0 x11_1).f1), .slice A145_2 ((rd_T42 l0 x11_1).f2).length c145_2, .int .i64 ((rd_T42 l0 x11_1).f3), .string (⟨#[]⟩ : ByteArray)]) ?_ 4 _ rfl; (with_reducible repeat (first | refine blk_drewN ?_ _ | refine blk_drew ?_ | refine blk_alloc ?_ _)); refine blk_put (cs := #[.int .i64 ((rd_T42 l0 x11_1).f0), .string ((rd_T42 l0 x11_1).f1), .slice A145_2 ((rd_T42 l0 x11_1).f2).length c145_2, .int .i64 0, .string (⟨#[]⟩ : ByteArray)]) ?_ 3 _ rfl; (with_reducible repeat (first | refine blk_drewN ?_ _ | refine blk_drew ?_ | refine blk_alloc ?_ _)); refine blk_put (cs := #[.int .i64 ((rd_T42 l0 x11_1).f0), .string ((rd_T42 l0 x11_1).f1), .slice none 0 0, .int .i64 0, .string (⟨#[]⟩ : ByteArray)]) ?_ 2 _ rfl; (with_reducible repeat (first | refine blk_drewN ?_ _ | refine blk_drew ?_ | refine blk_alloc ?_ _)); refine blk_put (cs := #[.int .i64 ((rd_T42 l0 x11_1).f0), .string (⟨#[]⟩ : ByteArray), .slice none 0 0, .int .i64 0, .string (⟨#[]⟩ : ByteArray)]) ?_ 1 _ rfl; (with_reducible repeat (first | refine blk_drewN ?_ _ | refine blk_drew ?_ | refine blk_alloc ?_ _)); refine blk_put (cs := #[.int .i64 0, .string (⟨#[]⟩ : ByteArray), .slice none 0 0, .int .i64 0, .string (⟨#[]⟩ : ByteArray)]) ?_ 0 _ rfl; (with_reducible repeat (first | refine blk_drewN ?_ _ | refine blk_drew ?_ | refine blk_alloc ?_ _)); exact BK146.out) hb); have n1_ := Aside0.mk (below_step (by repeat (first | (with_reducible first | exact HB.out | apply below_alloc | apply pw_below_drewN | apply below_drew1 | refine below_set ?_ GE146.out) | exact HB.out)) hb); clear BK146; clear HB; have BK146 := n0_; have HB := n1_; clear n0_ n1_; (try clear hb); (try clear hb2); (try clear hk); (try clear hi)))
              go_ret
              exact ⟨by first | rfl | (simp [errW_none, errW_some] <;> rfl) | (simp [*, errW_none, errW_some] <;> rfl), by repeat (first | (with_reducible first | exact HB.out | apply below_alloc | apply pw_below_drewN | apply below_drew1 | refine below_set ?_ GE146.out) | exact HB.out)⟩
            · replace c8 := Bool.eq_false_iff.mpr c8
              subst c8
              have H1 : (spec_AnyAddress.l0 k1 l1 a2 l0 (l0.length : Int) (wrap64 (x11_1 + 1))) = some r := by rw [if_neg (show ¬ (false = true) by decide)] at H; exact H
              clear H
              have H := H1
              clear H1
              have H' := Aside0.mk H
              clear H
              have p145 : 0 ≤ (x11_1 : Int) := of_decide_eq_true (by first | (with_reducible assumption) | assumption)
              have q145 : x11_1 < (l0.length : Int) := of_decide_eq_true (by first | (with_reducible assumption) | assumption)
              obtain ⟨ad145, A145_2, c145_2, e145, hx145_0, hx145_1, hx145_2, hx145_3, hx145_4, hl145_2, hi145_2⟩ := at_T42 HR0.out x11_1 p145 q145
              cases e145
              replace hx145_0 := (HB.out.cell (World.block_lt_of_cell? w _ hx145_0)).trans hx145_0
              replace hx145_1 := (HB.out.cell (World.block_lt_of_cell? w _ hx145_1)).trans hx145_1
              replace hx145_2 := (HB.out.cell (World.block_lt_of_cell? w _ hx145_2)).trans hx145_2
              replace hx145_3 := (HB.out.cell (World.block_lt_of_cell? w _ hx145_3)).trans hx145_3
              replace hx145_4 := (HB.out.cell (World.block_lt_of_cell? w _ hx145_4)).trans hx145_4
              have HR145_2 := Aside0.mk hi145_2
              have HC145_2 := Aside0.mk hl145_2
              clear hi145_2 hl145_2
              replace p145 := eq_true p145
              replace q145 := eq_true q145
              go_wp2_with (first | ((with_reducible refine gate_dst (N := 8) rfl ?_); refine box_event ?hg (N := 8) ?hd (cs := #[.int .i64 0, .string (⟨#[]⟩ : ByteArray), .slice none 0 0, .int .i64 0, .string (⟨#[]⟩ : ByteArray)]) (t := 42) ?hr ?_; (case hd => rfl); (case hg => rfl); (case hr => first | (go_simp; done) | (go_simp; rfl)); intro gb146 hg w12 hbox hb; have n0_ := Aside0.mk (below_step (by repeat (first | (with_reducible first | exact HB.out | apply below_alloc | apply pw_below_drewN | apply below_drew1) | exact HB.out)) hb); have n1_ := Aside0.mk (hbox); have n2_ := Aside0.mk ((by rw [hg]; exact (below_size (by repeat (first | (with_reducible first | exact HB.out | apply below_alloc | apply pw_below_drewN | apply below_drew1) | exact HB.out))) : w.heap.size ≤ gb146)); have n3_ := Aside0.mk ((by rw [hg]; exact (below_size (by repeat (first | (with_reducible first | exact HB.out | apply below_alloc | apply pw_below_drewN | apply below_drew1) | exact HB.out))) : w.heap.size ≤ gb146)); clear HB; have HB := n0_; have BK146 := n1_; have GW146 := n2_; have GE146 := n3_; clear n0_ n1_ n2_ n3_; clear hb hbox hg; have hcz13_0 : w12.cell? ⟨gb146, 0, none⟩ = some (.int .i64 0) := (blk_cell BK146.out 0).trans rfl; have hcz13_1 : w12.cell? ⟨gb146, 1, none⟩ = some (.string (⟨#[]⟩ : ByteArray)) := (blk_cell BK146.out 1).trans rfl; have hcz13_2 : w12.cell? ⟨gb146, 2, none⟩ = some (.slice none 0 0) := (blk_cell BK146.out 2).trans rfl; have hcz13_3 : w12.cell? ⟨gb146, 3, none⟩ = some (.int .i64 0) := (blk_cell BK146.out 3).trans rfl; have hcz13_4 : w12.cell? ⟨gb146, 4, none⟩ = some (.string (⟨#[]⟩ : ByteArray)) := (blk_cell BK146.out 4).trans rfl; have hfz13_0 := blk_frozen BK146.out 0; have hfz13_1 := blk_frozen BK146.out 1; have hfz13_2 := blk_frozen BK146.out 2; have hfz13_3 := blk_frozen BK146.out 3; have hfz13_4 := blk_frozen BK146.out 4) | ((with_reducible refine gate_callee (f := 35) rfl ?_); refine goesL_ (some 18) rfl rfl Tryz.func35 (by kernel_rfl) rfl #[.agg #[.int .i64 ((rd_T42 l0 x11_1).f0), .string ((rd_T42 l0 x11_1).f1), .slice A145_2 ((rd_T42 l0 x11_1).f2).length c145_2, .int .i64 ((rd_T42 l0 x11_1).f3), .string ((rd_T42 l0 x11_1).f4)], .slice A1 l1.length c1, .string a2] rfl (by (try simp only [List.map_toArray, List.map_cons, List.map_nil]); first | done | rfl | (simp only [List.length_drop, List.length_take]; rfl)) ?_; (with_reducible refine (spec_MatchesAddress.calls k1 ((rd_T42 l0 x11_1).f0) ((rd_T42 l0 x11_1).f1) _ _ ((rd_T42 l0 x11_1).f2) ((rd_T42 l0 x11_1).f3) ((rd_T42 l0 x11_1).f4) _ _ l1 a2 false _ ?side1 ?side2 ?side3 ?side4 A7.out).mono ?_); (case side1 => exact Kd.C_below HR145_2.out (by repeat (first | (with_reducible first | exact HB.out | apply below_alloc | apply pw_below_drewN | apply below_drew1 | refine below_set ?_ GE146.out) | exact HB.out))); (case side2 => exact HC145_2.out); (case side3 => exact Kd.C_below HR1.out (by repeat (first | (with_reducible first | exact HB.out | apply below_alloc | apply pw_below_drewN | apply below_drew1 | refine below_set ?_ GE146.out) | exact HB.out))); (case side4 => exact HC1.out); rintro e w14 ⟨rfl, hb⟩; refine ⟨_, rfl, ?_⟩; have n0_ := Aside0.mk (blk_below (g := gb146) (o := .cells #[.int .i64 ((rd_T42 l0 x11_1).f0), .string ((rd_T42 l0 x11_1).f1), .slice A145_2 ((rd_T42 l0 x11_1).f2).length c145_2, .int .i64 ((rd_T42 l0 x11_1).f3), .string ((rd_T42 l0 x11_1).f4)] 42 (0, 0)) (by (with_reducible repeat (first | refine blk_drewN ?_ _ | refine blk_drew ?_ | refine blk_alloc ?_ _)); refine blk_put (cs := #[.int .i64 ((rd_T42 l0 x11_1).f0), .string ((rd_T42 l0 x11_1).f1), .slice A145_2 ((rd_T42 l0 x11_1).f2).length c145_2, .int .i64 ((rd_T42 l0 x11_1).f3), .string (⟨#[]⟩ : ByteArray)]) ?_ 4 _ rfl; (with_reducible repeat (first | refine blk_drewN ?_ _ | refine blk_drew ?_ | refine blk_alloc ?_ _)); refine blk_put (cs := #[.int .i64 ((rd_T42 l0 x11_1).f0), .string ((rd_T42 l0 x11_1).f1), .slice A145_2 ((rd_T42 l0 x11_1).f2).length c145_2, .int .i64 0, .string (⟨#[]⟩ : ByteArray)]) ?_ 3 _ rfl; (with_reducible repeat (first | refine blk_drewN ?_ _ | refine blk_drew ?_ | refine blk_alloc ?_ _)); refine blk_put (cs := #[.int .i64 ((rd_T42 l0 x11_1).f0), .string ((rd_T42 l0 x11_1).f1), .slice none 0 0, .int .i64 0, .string (⟨#[]⟩ : ByteArray)]) ?_ 2 _ rfl; (with_reducible repeat (first | refine blk_drewN ?_ _ | refine blk_drew ?_ | refine blk_alloc ?_ _)); refine blk_put (cs := #[.int .i64 ((rd_T42 l0 x11_1).f0), .string (⟨#[]⟩ : ByteArray), .slice none 0 0, .int .i64 0, .string (⟨#[]⟩ : ByteArray)]) ?_ 1 _ rfl; (with_reducible repeat (first | refine blk_drewN ?_ _ | refine blk_drew ?_ | refine blk_alloc ?_ _)); refine blk_put (cs := #[.int .i64 0, .string (⟨#[]⟩ : ByteArray), .slice none 0 0, .int .i64 0, .string (⟨#[]⟩ : ByteArray)]) ?_ 0 _ rfl; (with_reducible repeat (first | refine blk_drewN ?_ _ | refine blk_drew ?_ | refine blk_alloc ?_ _)); exact BK146.out) hb); have n1_ := Aside0.mk (below_step (by repeat (first | (with_reducible first | exact HB.out | apply below_alloc | apply pw_below_drewN | apply below_drew1 | refine below_set ?_ GE146.out) | exact HB.out)) hb); clear BK146; clear HB; have BK146 := n0_; have HB := n1_; clear n0_ n1_; (try clear hb); (try clear hb2); (try clear hk); (try clear hi)))
              go_roundg k1
              case measure => have := HK1.out; omega
              case rel => exact ⟨(wrap64 (x11_1 + 1)), (by first | rfl | (simp; done) | (simp [*]; done)), H', ⟨by have := HK1.out; omega⟩, ⟨by repeat (first | (with_reducible first | exact HB.out | apply below_alloc | apply pw_below_drewN | apply below_drew1 | refine below_set ?_ GE146.out) | exact HB.out)⟩⟩
          · rw [if_neg c6] at H
            exact absurd H (by simp)
        · rw [if_neg c5] at H
          exact absurd H (by simp)
      · rw [if_neg c4] at H
        have c4b0 : decide (x11_1 < (l0.length : Int)) = false := decide_eq_false c4
        clear c4
        obtain rfl := Option.some.inj H
        go_wp2
        go_ret
        exact ⟨by first | rfl | (simp [errW_none, errW_some] <;> rfl) | (simp [*, errW_none, errW_some] <;> rfl), by repeat (first | (with_reducible first | exact HB.out | apply below_alloc | apply pw_below_drewN | apply below_drew1) | exact HB.out)⟩

end Go.Proofs.YtnchgmjeoajmiaaGreatDoor.P
