-- PRINTED by print.py (a twelfth state) out of the translation. Not trusted: Lean checks it.
import Derived.Test.YtnchgmjeoajmiaaGreatDoorPx0
import Derived.Test.YtnchgmjeoajmiaaGreatDoorPx1
namespace Go.Proofs.YtnchgmjeoajmiaaGreatDoor.P
open Go.RowKit Go.Proofs.YtnchgmjeoajmiaaGreatDoorW.PrintWords Go.Proofs.YtnchgmjeoajmiaaGreatDoorW.PrintLast Go.Proofs.YtnchgmjeoajmiaaGreatDoorW.PrintMore
attribute [local go_sem] max2_int min2_int max_two min_two max_three min_three max_four min_four   -- for this text's walks alone
set_option linter.unusedVariables false
set_option linter.unusedSimpArgs false

/-! ### spec_IsRule: function 31 -/
mutual
def spec_IsRule.j0 : Nat → Bool → Int → ByteArray → List Int → Int → ByteArray → Option (Bool)
  | 0, _, _, _, _, _, _ => none
  | k + 1, x11, x110000, x110001, x110002, x110003, x110004 => if x11 = true then (some false) else (if x110000 = 0 then (spec_IsRule.j1 k x110000 (x110000 == 0) x110000 x110001 x110002 x110003 x110004) else (spec_IsRule.j1 k x110000 (x110000 == 1) x110000 x110001 x110002 x110003 x110004))
def spec_IsRule.j1 : Nat → Int → Bool → Int → ByteArray → List Int → Int → ByteArray → Option (Bool)
  | 0, _, _, _, _, _, _, _ => none
  | k + 1, x13, x14, x110000, x110001, x110002, x110003, x110004 => if x14 = true then ((spec_IsName.f k x110001).bind fun t111 => (some t111)) else (if x13 = 2 then ((spec_IsAddress.f k x110002).bind fun t112 => (some t112)) else (if x13 = 3 then ((spec_IsAddress.f k x110002).bind fun t113 => (if t113 = true then (if x110003 ≥ 0 then (some (decide (x110003 ≤ 32))) else (some false)) else (some false))) else (some (x110000 == 4))))
end
def spec_IsRule.f (k : Nat) (a0_0 : Int) (a0_1 : ByteArray) (l0_2 : List Int) (a0_3 : Int) (a0_4 : ByteArray) : Option (Bool) := if a0_4.toList = ([] : List UInt8) then (spec_IsRule.j0 k false a0_0 a0_1 l0_2 a0_3 a0_4) else ((spec_IsPort.f k a0_4).bind fun t110 => (spec_IsRule.j0 k (!t110) a0_0 a0_1 l0_2 a0_3 a0_4))
theorem spec_IsRule.mono_l : ∀ k, (∀ y0 y1 y2 y3 y4 y5, LeO (spec_IsRule.j0 k y0 y1 y2 y3 y4 y5) (spec_IsRule.j0 (k + 1) y0 y1 y2 y3 y4 y5)) ∧ (∀ y0 y1 y2 y3 y4 y5 y6, LeO (spec_IsRule.j1 k y0 y1 y2 y3 y4 y5 y6) (spec_IsRule.j1 (k + 1) y0 y1 y2 y3 y4 y5 y6))
  | 0 => ⟨fun _ _ _ _ _ _ r h => by simp [spec_IsRule.j0] at h, fun _ _ _ _ _ _ _ r h => by simp [spec_IsRule.j1] at h⟩
  | k + 1 => by
    obtain ⟨ih0, ih1⟩ := spec_IsRule.mono_l k
    refine ⟨?_, ?_⟩
    · intro y0 y1 y2 y3 y4 y5
      unfold spec_IsRule.j0
      repeat' first
      | (with_reducible exact ih0 _ _ _ _ _ _)
      | (with_reducible exact ih1 _ _ _ _ _ _ _)
      | (with_reducible exact spec_IsAddress.mono _ _)
      | (with_reducible exact spec_IsName.mono _ _)
      | (with_reducible exact spec_IsPort.mono _ _)
      | (with_reducible exact LeO.refl _)
      | (with_reducible exact LeO.none _)
      | (with_reducible refine LeO.ite ?_ ?_)
      | (with_reducible refine LeO.bind ?_ (fun _ => ?_))
      | exact ih0 _ _ _ _ _ _
      | exact ih1 _ _ _ _ _ _ _
      | exact spec_IsAddress.mono _ _
      | exact spec_IsName.mono _ _
      | exact spec_IsPort.mono _ _
      | exact LeO.none _
      | refine LeO.ite ?_ ?_
      | refine LeO.bind ?_ (fun _ => ?_)
    · intro y0 y1 y2 y3 y4 y5 y6
      unfold spec_IsRule.j1
      repeat' first
      | (with_reducible exact ih0 _ _ _ _ _ _)
      | (with_reducible exact ih1 _ _ _ _ _ _ _)
      | (with_reducible exact spec_IsAddress.mono _ _)
      | (with_reducible exact spec_IsName.mono _ _)
      | (with_reducible exact spec_IsPort.mono _ _)
      | (with_reducible exact LeO.refl _)
      | (with_reducible exact LeO.none _)
      | (with_reducible refine LeO.ite ?_ ?_)
      | (with_reducible refine LeO.bind ?_ (fun _ => ?_))
      | exact ih0 _ _ _ _ _ _
      | exact ih1 _ _ _ _ _ _ _
      | exact spec_IsAddress.mono _ _
      | exact spec_IsName.mono _ _
      | exact spec_IsPort.mono _ _
      | exact LeO.none _
      | refine LeO.ite ?_ ?_
      | refine LeO.bind ?_ (fun _ => ?_)
theorem spec_IsRule.mono : ∀ a0 a1 a2 a3 a4 k, LeO (spec_IsRule.f k a0 a1 a2 a3 a4) (spec_IsRule.f (k + 1) a0 a1 a2 a3 a4) := by
  intro a0 a1 a2 a3 a4 k
  obtain ⟨ih0, ih1⟩ := spec_IsRule.mono_l k
  unfold spec_IsRule.f
  repeat' first
      | (with_reducible exact ih0 _ _ _ _ _ _)
      | (with_reducible exact ih1 _ _ _ _ _ _ _)
      | (with_reducible exact spec_IsAddress.mono _ _)
      | (with_reducible exact spec_IsName.mono _ _)
      | (with_reducible exact spec_IsPort.mono _ _)
      | (with_reducible exact LeO.refl _)
      | (with_reducible exact LeO.none _)
      | (with_reducible refine LeO.ite ?_ ?_)
      | (with_reducible refine LeO.bind ?_ (fun _ => ?_))
      | exact ih0 _ _ _ _ _ _
      | exact ih1 _ _ _ _ _ _ _
      | exact spec_IsAddress.mono _ _
      | exact spec_IsName.mono _ _
      | exact spec_IsPort.mono _ _
      | exact LeO.none _
      | refine LeO.ite ?_ ?_
      | refine LeO.bind ?_ (fun _ => ?_)
set_option maxHeartbeats 8000000 in
set_option maxRecDepth 100000 in
theorem spec_IsRule.calls (k : Nat) (a0_0 : Int) (a0_1 : ByteArray) (A0_2 : Option Addr) (c0_2 : Nat) (l0_2 : List Int) (a0_3 : Int) (a0_4 : ByteArray) (r : Bool) (w : World) (hr0_2 : Kd.C (Kd.int .i64) w A0_2 l0_2.length l0_2) (hc0_2 : l0_2.length ≤ c0_2) (h : spec_IsRule.f k a0_0 a0_1 l0_2 a0_3 a0_4 = some r) :
    Calls Tryz.prog 31 #[.agg #[.int .i64 a0_0, .string a0_1, .slice A0_2 l0_2.length c0_2, .int .i64 a0_3, .string a0_4]] w fun e w' => e = .returned (.bool r) ∧ Below w.heap.size w w' := by
  have hu42 := Tryz.underlying42
  have HR0_2 := Aside0.mk hr0_2
  have HC0_2 := Aside0.mk hc0_2
  clear hr0_2 hc0_2
  have HB := Aside0.mk (Below.refl w.heap.size w)
  have H : (if a0_4.toList = ([] : List UInt8) then (spec_IsRule.j0 k false a0_0 a0_1 l0_2 a0_3 a0_4) else ((spec_IsPort.f k a0_4).bind fun t110 => (spec_IsRule.j0 k (!t110) a0_0 a0_1 l0_2 a0_3 a0_4))) = some r := h
  clear h
  have HC2 := Aside0.mk H
  clear H
  go_enter Tryz.func31, Tryz.ntmps31
  go_upto_region 1 with (first | ((with_reducible refine gate_dst (N := 1) rfl ?_); refine box_event ?hg (N := 1) ?hd (cs := #[.int .i64 a0_0, .string a0_1, .slice A0_2 l0_2.length c0_2, .int .i64 a0_3, .string a0_4]) (t := 42) ?hr ?_; (case hd => rfl); (case hg => rfl); (case hr => first | (go_simp; done) | (go_simp; rfl)); intro gb109 hg w3 hbox hb; have n0_ := Aside0.mk (below_step (by repeat (first | (with_reducible first | exact HB.out | apply below_alloc | apply pw_below_drewN | apply below_drew1) | exact HB.out)) hb); have n1_ := Aside0.mk (hbox); have n2_ := Aside0.mk ((by rw [hg]; exact (below_size (by repeat (first | (with_reducible first | exact HB.out | apply below_alloc | apply pw_below_drewN | apply below_drew1) | exact HB.out))) : w.heap.size ≤ gb109)); have n3_ := Aside0.mk ((by rw [hg]; exact (below_size (by repeat (first | (with_reducible first | exact HB.out | apply below_alloc | apply pw_below_drewN | apply below_drew1) | exact HB.out))) : w.heap.size ≤ gb109)); clear HB; have HB := n0_; have BK109 := n1_; have GW109 := n2_; have GE109 := n3_; clear n0_ n1_ n2_ n3_; clear hb hbox hg))
  (try simp only [Act.put, List.setIfInBounds_toArray, List.set_cons_zero, List.set_cons_succ])
  go_cut [11] (fun v11 wc => ∃ (kq : Nat) (x11_1 : Bool), v11 = .bool x11_1 ∧ Aside0 (spec_IsRule.j0 kq x11_1 a0_0 a0_1 l0_2 a0_3 a0_4 = some r) ∧ Aside0 (kq ≤ k) ∧ Aside0 (wc.heap[gb109]? = some (.cells #[.int .i64 a0_0, .string a0_1, (.slice A0_2 l0_2.length c0_2), .int .i64 a0_3, .string a0_4] 42 (0, 0))) ∧ Aside0 (Below w.heap.size w wc))
  case first =>
    have H := HC2.out
    clear HC2
    by_cases c4 : a0_4.toList = ([] : List UInt8)
    · rw [if_pos c4] at H
      have c4b0 : (a0_4.toList == ([] : List UInt8)) = true := beq_iff_eq.mpr c4
      have c4b1 : (a0_4.toList != ([] : List UInt8)) = false := bne_eq_false_iff_eq.mpr c4
      clear c4
      (first | rw [c4b0] | (simp only [i64_w, i32_w]; rw [c4b0]) | skip)
      have H' := Aside0.mk H
      clear H
      have hcz5_0 : w3.cell? ⟨gb109, 0, none⟩ = some (.int .i64 a0_0) := (blk_cell BK109.out 0).trans rfl
      have hcz5_1 : w3.cell? ⟨gb109, 1, none⟩ = some (.string a0_1) := (blk_cell BK109.out 1).trans rfl
      have hcz5_2 : w3.cell? ⟨gb109, 2, none⟩ = some (.slice A0_2 l0_2.length c0_2) := (blk_cell BK109.out 2).trans rfl
      have hcz5_3 : w3.cell? ⟨gb109, 3, none⟩ = some (.int .i64 a0_3) := (blk_cell BK109.out 3).trans rfl
      have hcz5_4 : w3.cell? ⟨gb109, 4, none⟩ = some (.string a0_4) := (blk_cell BK109.out 4).trans rfl
      have hfz5_0 := blk_frozen BK109.out 0
      have hfz5_1 := blk_frozen BK109.out 1
      have hfz5_2 := blk_frozen BK109.out 2
      have hfz5_3 := blk_frozen BK109.out 3
      have hfz5_4 := blk_frozen BK109.out 4
      go_wp2
      go_meet
      case rel => exact ⟨_, (false), (by first | rfl | (simp; done) | (simp [*]; done)), H', ⟨by first | omega | exact Nat.le_refl _⟩, ⟨by (with_reducible repeat (first | refine blk_drewN ?_ _ | refine blk_drew ?_ | refine blk_alloc ?_ _)); exact BK109.out⟩, ⟨by repeat (first | (with_reducible first | exact HB.out | apply below_alloc | apply pw_below_drewN | apply below_drew1 | refine below_set ?_ GE109.out) | exact HB.out)⟩⟩
    · rw [if_neg c4] at H
      have c4b0 : (a0_4.toList == ([] : List UInt8)) = false := beq_eq_false_iff_ne.mpr c4
      have c4b1 : (a0_4.toList != ([] : List UInt8)) = true := bne_iff_ne.mpr c4
      (first | rw [c4b0] | (simp only [i64_w, i32_w]; rw [c4b0]) | skip)
      replace H := Option.bind_eq_some_iff.mp H
      obtain ⟨t110, A60, H⟩ := H
      replace H : (spec_IsRule.j0 k (!t110) a0_0 a0_1 l0_2 a0_3 a0_4) = some r := H
      have A6 := Aside0.mk A60
      clear A60
      have H' := Aside0.mk H
      clear H
      have hcz7_0 : w3.cell? ⟨gb109, 0, none⟩ = some (.int .i64 a0_0) := (blk_cell BK109.out 0).trans rfl
      have hcz7_1 : w3.cell? ⟨gb109, 1, none⟩ = some (.string a0_1) := (blk_cell BK109.out 1).trans rfl
      have hcz7_2 : w3.cell? ⟨gb109, 2, none⟩ = some (.slice A0_2 l0_2.length c0_2) := (blk_cell BK109.out 2).trans rfl
      have hcz7_3 : w3.cell? ⟨gb109, 3, none⟩ = some (.int .i64 a0_3) := (blk_cell BK109.out 3).trans rfl
      have hcz7_4 : w3.cell? ⟨gb109, 4, none⟩ = some (.string a0_4) := (blk_cell BK109.out 4).trans rfl
      have hfz7_0 := blk_frozen BK109.out 0
      have hfz7_1 := blk_frozen BK109.out 1
      have hfz7_2 := blk_frozen BK109.out 2
      have hfz7_3 := blk_frozen BK109.out 3
      have hfz7_4 := blk_frozen BK109.out 4
      go_wp2_with (first | (go_at_call 16; (with_reducible refine (spec_IsPort.calls k a0_4 t110 _ A6.out).mono ?_); rintro e w' ⟨rfl, ⟨nd, rfl⟩⟩))
      go_meet
      case rel => exact ⟨_, (!t110), (by first | rfl | (simp; done) | (simp [*]; done)), H', ⟨by first | omega | exact Nat.le_refl _⟩, ⟨by (with_reducible repeat (first | refine blk_drewN ?_ _ | refine blk_drew ?_ | refine blk_alloc ?_ _)); exact BK109.out⟩, ⟨by repeat (first | (with_reducible first | exact HB.out | apply below_alloc | apply pw_below_drewN | apply below_drew1 | refine below_set ?_ GE109.out) | exact HB.out)⟩⟩
  case rest =>
    clear HC2
    try clear p2
    try clear c3
    try clear c4
    try clear c4b0
    try clear c4b1
    try clear hcz5_0
    try clear hcz5_1
    try clear hcz5_2
    try clear hcz5_3
    try clear hcz5_4
    try clear hcz7_0
    try clear hcz7_1
    try clear hcz7_2
    try clear hcz7_3
    try clear hcz7_4
    try clear hfz5_0
    try clear hfz5_1
    try clear hfz5_2
    try clear hfz5_3
    try clear hfz5_4
    try clear hfz7_0
    try clear hfz7_1
    try clear hfz7_2
    try clear hfz7_3
    try clear hfz7_4
    obtain ⟨kq, x11_1, rfl, HA, HJ1, BK109, HB⟩ := hcut
    cases kq with
    | zero => exact absurd HA.out (by simp [spec_IsRule.j0])
    | succ kj1 =>
      have H := HA.out
      clear HA
      simp only [spec_IsRule.j0] at H
      by_cases c8 : x11_1 = true
      · subst c8
        have H1 : (some false) = some r := by rw [if_pos rfl] at H; exact H
        clear H
        have H := H1
        clear H1
        obtain rfl := Option.some.inj H
        go_wp2
        go_ret
        exact ⟨by first | rfl | (simp [errW_none, errW_some] <;> rfl) | (simp [*, errW_none, errW_some] <;> rfl), by repeat (first | (with_reducible first | exact HB.out | apply below_alloc | apply pw_below_drewN | apply below_drew1 | refine below_set ?_ GE109.out) | exact HB.out)⟩
      · replace c8 := Bool.eq_false_iff.mpr c8
        subst c8
        have H1 : (if a0_0 = 0 then (spec_IsRule.j1 kj1 a0_0 (a0_0 == 0) a0_0 a0_1 l0_2 a0_3 a0_4) else (spec_IsRule.j1 kj1 a0_0 (a0_0 == 1) a0_0 a0_1 l0_2 a0_3 a0_4)) = some r := by rw [if_neg (show ¬ (false = true) by decide)] at H; exact H
        clear H
        have H := H1
        clear H1
        have HC9 := Aside0.mk H
        clear H
        have hcz10_0 : wc.cell? ⟨gb109, 0, none⟩ = some (.int .i64 a0_0) := (blk_cell BK109.out 0).trans rfl
        have hcz10_1 : wc.cell? ⟨gb109, 1, none⟩ = some (.string a0_1) := (blk_cell BK109.out 1).trans rfl
        have hcz10_2 : wc.cell? ⟨gb109, 2, none⟩ = some (.slice A0_2 l0_2.length c0_2) := (blk_cell BK109.out 2).trans rfl
        have hcz10_3 : wc.cell? ⟨gb109, 3, none⟩ = some (.int .i64 a0_3) := (blk_cell BK109.out 3).trans rfl
        have hcz10_4 : wc.cell? ⟨gb109, 4, none⟩ = some (.string a0_4) := (blk_cell BK109.out 4).trans rfl
        have hfz10_0 := blk_frozen BK109.out 0
        have hfz10_1 := blk_frozen BK109.out 1
        have hfz10_2 := blk_frozen BK109.out 2
        have hfz10_3 := blk_frozen BK109.out 3
        have hfz10_4 := blk_frozen BK109.out 4
        go_upto_if 14 with (fail)
        go_cut [14] (fun v14 wc => ∃ (kq : Nat) (x14_8 : Bool), v14 = .bool x14_8 ∧ Aside0 (spec_IsRule.j1 kq a0_0 x14_8 a0_0 a0_1 l0_2 a0_3 a0_4 = some r) ∧ Aside0 (kq ≤ kj1) ∧ Aside0 (wc.heap[gb109]? = some (.cells #[.int .i64 a0_0, .string a0_1, (.slice A0_2 l0_2.length c0_2), .int .i64 a0_3, .string a0_4] 42 (0, 0))) ∧ Aside0 (Below w.heap.size w wc))
        case first =>
          have H := HC9.out
          clear HC9
          by_cases c11 : a0_0 = 0
          · rw [if_pos c11] at H
            have c11b0 : (a0_0 == 0) = true := beq_iff_eq.mpr c11
            have c11b1 : (a0_0 != 0) = false := bne_eq_false_iff_eq.mpr c11
            clear c11
            (first | rw [c11b0] | (simp only [i64_w, i32_w]; rw [c11b0]) | skip)
            have H' := Aside0.mk H
            clear H
            go_wp2
            go_meet
            case rel => exact ⟨_, ((a0_0 == 0)), (by first | rfl | (simp; done) | (simp [*]; done)), H', ⟨by have := HJ1.out; first | omega | exact Nat.le_refl _⟩, ⟨by (with_reducible repeat (first | refine blk_drewN ?_ _ | refine blk_drew ?_ | refine blk_alloc ?_ _)); exact BK109.out⟩, ⟨by repeat (first | (with_reducible first | exact HB.out | apply below_alloc | apply pw_below_drewN | apply below_drew1 | refine below_set ?_ GE109.out) | exact HB.out)⟩⟩
          · rw [if_neg c11] at H
            have c11b0 : (a0_0 == 0) = false := beq_eq_false_iff_ne.mpr c11
            have c11b1 : (a0_0 != 0) = true := bne_iff_ne.mpr c11
            (first | rw [c11b0] | (simp only [i64_w, i32_w]; rw [c11b0]) | skip)
            have H' := Aside0.mk H
            clear H
            go_wp2
            go_meet
            case rel => exact ⟨_, ((a0_0 == 1)), (by first | rfl | (simp; done) | (simp [*]; done)), H', ⟨by have := HJ1.out; first | omega | exact Nat.le_refl _⟩, ⟨by (with_reducible repeat (first | refine blk_drewN ?_ _ | refine blk_drew ?_ | refine blk_alloc ?_ _)); exact BK109.out⟩, ⟨by repeat (first | (with_reducible first | exact HB.out | apply below_alloc | apply pw_below_drewN | apply below_drew1 | refine below_set ?_ GE109.out) | exact HB.out)⟩⟩
        case rest =>
          clear HC9
          try clear c1
          try clear p2
          try clear c3
          try clear c4
          try clear c4b0
          try clear c4b1
          try clear c8
          try clear c11
          try clear c11b0
          try clear c11b1
          try clear hcz10_0
          try clear hcz10_1
          try clear hcz10_2
          try clear hcz10_3
          try clear hcz10_4
          try clear hcz5_0
          try clear hcz5_1
          try clear hcz5_2
          try clear hcz5_3
          try clear hcz5_4
          try clear hcz7_0
          try clear hcz7_1
          try clear hcz7_2
          try clear hcz7_3
          try clear hcz7_4
          try clear hfz10_0
          try clear hfz10_1
          try clear hfz10_2
          try clear hfz10_3
          try clear hfz10_4
          try clear hfz5_0
          try clear hfz5_1
          try clear hfz5_2
          try clear hfz5_3
          try clear hfz5_4
          try clear hfz7_0
          try clear hfz7_1
          try clear hfz7_2
          try clear hfz7_3
          try clear hfz7_4
          try clear p2
          obtain ⟨kq, x14_8, rfl, HA, HJ8, BK109, HB⟩ := hcut
          cases kq with
          | zero => exact absurd HA.out (by simp [spec_IsRule.j1])
          | succ kj8 =>
            have H := HA.out
            clear HA
            simp only [spec_IsRule.j1] at H
            by_cases c12 : x14_8 = true
            · subst c12
              have H1 : ((spec_IsName.f kj8 a0_1).bind fun t111 => (some t111)) = some r := by rw [if_pos rfl] at H; exact H
              clear H
              have H := H1
              clear H1
              replace H := Option.bind_eq_some_iff.mp H
              obtain ⟨t111, A130, H⟩ := H
              replace H : (some t111) = some r := H
              have A13 := Aside0.mk A130
              clear A130
              obtain rfl := Option.some.inj H
              have hcz14_0 : wc.cell? ⟨gb109, 0, none⟩ = some (.int .i64 a0_0) := (blk_cell BK109.out 0).trans rfl
              have hcz14_1 : wc.cell? ⟨gb109, 1, none⟩ = some (.string a0_1) := (blk_cell BK109.out 1).trans rfl
              have hcz14_2 : wc.cell? ⟨gb109, 2, none⟩ = some (.slice A0_2 l0_2.length c0_2) := (blk_cell BK109.out 2).trans rfl
              have hcz14_3 : wc.cell? ⟨gb109, 3, none⟩ = some (.int .i64 a0_3) := (blk_cell BK109.out 3).trans rfl
              have hcz14_4 : wc.cell? ⟨gb109, 4, none⟩ = some (.string a0_4) := (blk_cell BK109.out 4).trans rfl
              have hfz14_0 := blk_frozen BK109.out 0
              have hfz14_1 := blk_frozen BK109.out 1
              have hfz14_2 := blk_frozen BK109.out 2
              have hfz14_3 := blk_frozen BK109.out 3
              have hfz14_4 := blk_frozen BK109.out 4
              go_wp2_with (first | ((with_reducible refine gate_callee (f := 15) rfl ?_); refine goesL_ (some 19) rfl rfl Tryz.func15 (by kernel_rfl) rfl #[.string a0_1] rfl (by (try simp only [List.map_toArray, List.map_cons, List.map_nil]); first | done | rfl | (simp only [List.length_drop, List.length_take]; rfl)) ?_; (with_reducible refine (spec_IsName.calls kj8 a0_1 t111 _ A13.out).mono ?_); rintro e w' ⟨rfl, ⟨nd, rfl⟩⟩; refine ⟨_, rfl, ?_⟩))
              go_ret
              exact ⟨by first | rfl | (simp [errW_none, errW_some] <;> rfl) | (simp [*, errW_none, errW_some] <;> rfl), by repeat (first | (with_reducible first | exact HB.out | apply below_alloc | apply pw_below_drewN | apply below_drew1 | refine below_set ?_ GE109.out) | exact HB.out)⟩
            · replace c12 := Bool.eq_false_iff.mpr c12
              subst c12
              have H1 : (if a0_0 = 2 then ((spec_IsAddress.f kj8 l0_2).bind fun t112 => (some t112)) else (if a0_0 = 3 then ((spec_IsAddress.f kj8 l0_2).bind fun t113 => (if t113 = true then (if a0_3 ≥ 0 then (some (decide (a0_3 ≤ 32))) else (some false)) else (some false))) else (some (a0_0 == 4)))) = some r := by rw [if_neg (show ¬ (false = true) by decide)] at H; exact H
              clear H
              have H := H1
              clear H1
              by_cases c15 : a0_0 = 2
              · rw [if_pos c15] at H
                have c15b0 : (a0_0 == 2) = true := beq_iff_eq.mpr c15
                have c15b1 : (a0_0 != 2) = false := bne_eq_false_iff_eq.mpr c15
                clear c15
                replace H := Option.bind_eq_some_iff.mp H
                obtain ⟨t112, A160, H⟩ := H
                replace H : (some t112) = some r := H
                have A16 := Aside0.mk A160
                clear A160
                obtain rfl := Option.some.inj H
                have hcz17_0 : wc.cell? ⟨gb109, 0, none⟩ = some (.int .i64 a0_0) := (blk_cell BK109.out 0).trans rfl
                have hcz17_1 : wc.cell? ⟨gb109, 1, none⟩ = some (.string a0_1) := (blk_cell BK109.out 1).trans rfl
                have hcz17_2 : wc.cell? ⟨gb109, 2, none⟩ = some (.slice A0_2 l0_2.length c0_2) := (blk_cell BK109.out 2).trans rfl
                have hcz17_3 : wc.cell? ⟨gb109, 3, none⟩ = some (.int .i64 a0_3) := (blk_cell BK109.out 3).trans rfl
                have hcz17_4 : wc.cell? ⟨gb109, 4, none⟩ = some (.string a0_4) := (blk_cell BK109.out 4).trans rfl
                have hfz17_0 := blk_frozen BK109.out 0
                have hfz17_1 := blk_frozen BK109.out 1
                have hfz17_2 := blk_frozen BK109.out 2
                have hfz17_3 := blk_frozen BK109.out 3
                have hfz17_4 := blk_frozen BK109.out 4
                go_wp2_with (first | ((with_reducible refine gate_callee (f := 21) rfl ?_); refine goesL_ (some 24) rfl rfl Tryz.func21 (by kernel_rfl) rfl #[.slice A0_2 l0_2.length c0_2] rfl (by (try simp only [List.map_toArray, List.map_cons, List.map_nil]); first | done | rfl | (simp only [List.length_drop, List.length_take]; rfl)) ?_; (with_reducible refine (spec_IsAddress.calls kj8 _ _ l0_2 t112 _ ?side1 ?side2 A16.out).mono ?_); (case side1 => repeat (first | exact (Kd.C_below HR0_2.out HB.out) | (with_reducible refine Kd.C_alloc ?_ _) | (with_reducible refine Kd.C_drewN ?_ _) | (with_reducible refine Kd.C_drew ?_))); (case side2 => exact HC0_2.out); rintro e w' ⟨rfl, ⟨nd, rfl⟩⟩; refine ⟨_, rfl, ?_⟩))
                go_ret
                exact ⟨by first | rfl | (simp [errW_none, errW_some] <;> rfl) | (simp [*, errW_none, errW_some] <;> rfl), by repeat (first | (with_reducible first | exact HB.out | apply below_alloc | apply pw_below_drewN | apply below_drew1 | refine below_set ?_ GE109.out) | exact HB.out)⟩
              · rw [if_neg c15] at H
                have c15b0 : (a0_0 == 2) = false := beq_eq_false_iff_ne.mpr c15
                have c15b1 : (a0_0 != 2) = true := bne_iff_ne.mpr c15
                by_cases c18 : a0_0 = 3
                · rw [if_pos c18] at H
                  have c18b0 : (a0_0 == 3) = true := beq_iff_eq.mpr c18
                  have c18b1 : (a0_0 != 3) = false := bne_eq_false_iff_eq.mpr c18
                  clear c18
                  replace H := Option.bind_eq_some_iff.mp H
                  obtain ⟨t113, A190, H⟩ := H
                  replace H : (if t113 = true then (if a0_3 ≥ 0 then (some (decide (a0_3 ≤ 32))) else (some false)) else (some false)) = some r := H
                  have A19 := Aside0.mk A190
                  clear A190
                  by_cases c20 : t113 = true
                  · subst c20
                    have H1 : (if a0_3 ≥ 0 then (some (decide (a0_3 ≤ 32))) else (some false)) = some r := by rw [if_pos rfl] at H; exact H
                    clear H
                    have H := H1
                    clear H1
                    by_cases c21 : a0_3 ≥ 0
                    · rw [if_pos c21] at H
                      have c21b0 : decide (0 ≤ a0_3) = true := decide_eq_true c21
                      clear c21
                      obtain rfl := Option.some.inj H
                      have hcz22_0 : wc.cell? ⟨gb109, 0, none⟩ = some (.int .i64 a0_0) := (blk_cell BK109.out 0).trans rfl
                      have hcz22_1 : wc.cell? ⟨gb109, 1, none⟩ = some (.string a0_1) := (blk_cell BK109.out 1).trans rfl
                      have hcz22_2 : wc.cell? ⟨gb109, 2, none⟩ = some (.slice A0_2 l0_2.length c0_2) := (blk_cell BK109.out 2).trans rfl
                      have hcz22_3 : wc.cell? ⟨gb109, 3, none⟩ = some (.int .i64 a0_3) := (blk_cell BK109.out 3).trans rfl
                      have hcz22_4 : wc.cell? ⟨gb109, 4, none⟩ = some (.string a0_4) := (blk_cell BK109.out 4).trans rfl
                      have hfz22_0 := blk_frozen BK109.out 0
                      have hfz22_1 := blk_frozen BK109.out 1
                      have hfz22_2 := blk_frozen BK109.out 2
                      have hfz22_3 := blk_frozen BK109.out 3
                      have hfz22_4 := blk_frozen BK109.out 4
                      go_wp2_with (first | ((with_reducible refine gate_callee (f := 21) rfl ?_); refine goesL_ (some 29) rfl rfl Tryz.func21 (by kernel_rfl) rfl #[.slice A0_2 l0_2.length c0_2] rfl (by (try simp only [List.map_toArray, List.map_cons, List.map_nil]); first | done | rfl | (simp only [List.length_drop, List.length_take]; rfl)) ?_; (with_reducible refine (spec_IsAddress.calls kj8 _ _ l0_2 true _ ?side1 ?side2 A19.out).mono ?_); (case side1 => repeat (first | exact (Kd.C_below HR0_2.out HB.out) | (with_reducible refine Kd.C_alloc ?_ _) | (with_reducible refine Kd.C_drewN ?_ _) | (with_reducible refine Kd.C_drew ?_))); (case side2 => exact HC0_2.out); rintro e w' ⟨rfl, ⟨nd, rfl⟩⟩; refine ⟨_, rfl, ?_⟩))
                      go_ret
                      exact ⟨by first | rfl | (simp [errW_none, errW_some] <;> rfl) | (simp [*, errW_none, errW_some] <;> rfl), by repeat (first | (with_reducible first | exact HB.out | apply below_alloc | apply pw_below_drewN | apply below_drew1 | refine below_set ?_ GE109.out) | exact HB.out)⟩
                    · rw [if_neg c21] at H
                      have c21b0 : decide (0 ≤ a0_3) = false := decide_eq_false c21
                      clear c21
                      obtain rfl := Option.some.inj H
                      have hcz23_0 : wc.cell? ⟨gb109, 0, none⟩ = some (.int .i64 a0_0) := (blk_cell BK109.out 0).trans rfl
                      have hcz23_1 : wc.cell? ⟨gb109, 1, none⟩ = some (.string a0_1) := (blk_cell BK109.out 1).trans rfl
                      have hcz23_2 : wc.cell? ⟨gb109, 2, none⟩ = some (.slice A0_2 l0_2.length c0_2) := (blk_cell BK109.out 2).trans rfl
                      have hcz23_3 : wc.cell? ⟨gb109, 3, none⟩ = some (.int .i64 a0_3) := (blk_cell BK109.out 3).trans rfl
                      have hcz23_4 : wc.cell? ⟨gb109, 4, none⟩ = some (.string a0_4) := (blk_cell BK109.out 4).trans rfl
                      have hfz23_0 := blk_frozen BK109.out 0
                      have hfz23_1 := blk_frozen BK109.out 1
                      have hfz23_2 := blk_frozen BK109.out 2
                      have hfz23_3 := blk_frozen BK109.out 3
                      have hfz23_4 := blk_frozen BK109.out 4
                      go_wp2_with (first | ((with_reducible refine gate_callee (f := 21) rfl ?_); refine goesL_ (some 29) rfl rfl Tryz.func21 (by kernel_rfl) rfl #[.slice A0_2 l0_2.length c0_2] rfl (by (try simp only [List.map_toArray, List.map_cons, List.map_nil]); first | done | rfl | (simp only [List.length_drop, List.length_take]; rfl)) ?_; (with_reducible refine (spec_IsAddress.calls kj8 _ _ l0_2 true _ ?side1 ?side2 A19.out).mono ?_); (case side1 => repeat (first | exact (Kd.C_below HR0_2.out HB.out) | (with_reducible refine Kd.C_alloc ?_ _) | (with_reducible refine Kd.C_drewN ?_ _) | (with_reducible refine Kd.C_drew ?_))); (case side2 => exact HC0_2.out); rintro e w' ⟨rfl, ⟨nd, rfl⟩⟩; refine ⟨_, rfl, ?_⟩))
                      go_ret
                      exact ⟨by first | rfl | (simp [errW_none, errW_some] <;> rfl) | (simp [*, errW_none, errW_some] <;> rfl), by repeat (first | (with_reducible first | exact HB.out | apply below_alloc | apply pw_below_drewN | apply below_drew1 | refine below_set ?_ GE109.out) | exact HB.out)⟩
                  · replace c20 := Bool.eq_false_iff.mpr c20
                    subst c20
                    have H1 : (some false) = some r := by rw [if_neg (show ¬ (false = true) by decide)] at H; exact H
                    clear H
                    have H := H1
                    clear H1
                    obtain rfl := Option.some.inj H
                    have hcz24_0 : wc.cell? ⟨gb109, 0, none⟩ = some (.int .i64 a0_0) := (blk_cell BK109.out 0).trans rfl
                    have hcz24_1 : wc.cell? ⟨gb109, 1, none⟩ = some (.string a0_1) := (blk_cell BK109.out 1).trans rfl
                    have hcz24_2 : wc.cell? ⟨gb109, 2, none⟩ = some (.slice A0_2 l0_2.length c0_2) := (blk_cell BK109.out 2).trans rfl
                    have hcz24_3 : wc.cell? ⟨gb109, 3, none⟩ = some (.int .i64 a0_3) := (blk_cell BK109.out 3).trans rfl
                    have hcz24_4 : wc.cell? ⟨gb109, 4, none⟩ = some (.string a0_4) := (blk_cell BK109.out 4).trans rfl
                    have hfz24_0 := blk_frozen BK109.out 0
                    have hfz24_1 := blk_frozen BK109.out 1
                    have hfz24_2 := blk_frozen BK109.out 2
                    have hfz24_3 := blk_frozen BK109.out 3
                    have hfz24_4 := blk_frozen BK109.out 4
                    go_wp2_with (first | ((with_reducible refine gate_callee (f := 21) rfl ?_); refine goesL_ (some 29) rfl rfl Tryz.func21 (by kernel_rfl) rfl #[.slice A0_2 l0_2.length c0_2] rfl (by (try simp only [List.map_toArray, List.map_cons, List.map_nil]); first | done | rfl | (simp only [List.length_drop, List.length_take]; rfl)) ?_; (with_reducible refine (spec_IsAddress.calls kj8 _ _ l0_2 false _ ?side1 ?side2 A19.out).mono ?_); (case side1 => repeat (first | exact (Kd.C_below HR0_2.out HB.out) | (with_reducible refine Kd.C_alloc ?_ _) | (with_reducible refine Kd.C_drewN ?_ _) | (with_reducible refine Kd.C_drew ?_))); (case side2 => exact HC0_2.out); rintro e w' ⟨rfl, ⟨nd, rfl⟩⟩; refine ⟨_, rfl, ?_⟩))
                    go_ret
                    exact ⟨by first | rfl | (simp [errW_none, errW_some] <;> rfl) | (simp [*, errW_none, errW_some] <;> rfl), by repeat (first | (with_reducible first | exact HB.out | apply below_alloc | apply pw_below_drewN | apply below_drew1 | refine below_set ?_ GE109.out) | exact HB.out)⟩
                · rw [if_neg c18] at H
                  have c18b0 : (a0_0 == 3) = false := beq_eq_false_iff_ne.mpr c18
                  have c18b1 : (a0_0 != 3) = true := bne_iff_ne.mpr c18
                  obtain rfl := Option.some.inj H
                  have hcz25_0 : wc.cell? ⟨gb109, 0, none⟩ = some (.int .i64 a0_0) := (blk_cell BK109.out 0).trans rfl
                  have hcz25_1 : wc.cell? ⟨gb109, 1, none⟩ = some (.string a0_1) := (blk_cell BK109.out 1).trans rfl
                  have hcz25_2 : wc.cell? ⟨gb109, 2, none⟩ = some (.slice A0_2 l0_2.length c0_2) := (blk_cell BK109.out 2).trans rfl
                  have hcz25_3 : wc.cell? ⟨gb109, 3, none⟩ = some (.int .i64 a0_3) := (blk_cell BK109.out 3).trans rfl
                  have hcz25_4 : wc.cell? ⟨gb109, 4, none⟩ = some (.string a0_4) := (blk_cell BK109.out 4).trans rfl
                  have hfz25_0 := blk_frozen BK109.out 0
                  have hfz25_1 := blk_frozen BK109.out 1
                  have hfz25_2 := blk_frozen BK109.out 2
                  have hfz25_3 := blk_frozen BK109.out 3
                  have hfz25_4 := blk_frozen BK109.out 4
                  go_wp2
                  go_ret
                  exact ⟨by first | rfl | (simp [errW_none, errW_some] <;> rfl) | (simp [*, errW_none, errW_some] <;> rfl), by repeat (first | (with_reducible first | exact HB.out | apply below_alloc | apply pw_below_drewN | apply below_drew1 | refine below_set ?_ GE109.out) | exact HB.out)⟩

/-! ### spec_AreRules: function 20 -/
def spec_AreRules.l0 : Nat → List (S42) → List (S42) → Int → Int → Option (Bool)
  | 0, _, _, _, _ => none
  | k + 1, x0, x5, x6, x7 => if x7 < x6 then (if 0 ≤ x7 then (if x7 < (x5.length : Int) then ((spec_IsRule.f k ((rd_T42 x5 x7).f0) ((rd_T42 x5 x7).f1) ((rd_T42 x5 x7).f2) ((rd_T42 x5 x7).f3) ((rd_T42 x5 x7).f4)).bind fun t116 => (if t116 = true then (spec_AreRules.l0 k x0 x5 x6 (wrap64 (x7 + 1))) else (some false))) else (none)) else (none)) else (some (decide ((x0.length : Int) ≤ 30)))
def spec_AreRules.f (k : Nat) (l0 : List (S42)) : Option (Bool) := spec_AreRules.l0 k l0 l0 (l0.length : Int) 0
theorem spec_AreRules.mono_l : ∀ k, (∀ y0 y1 y2 y3, LeO (spec_AreRules.l0 k y0 y1 y2 y3) (spec_AreRules.l0 (k + 1) y0 y1 y2 y3))
  | 0 => fun _ _ _ _ r h => by simp [spec_AreRules.l0] at h
  | k + 1 => by
    have ih0 := spec_AreRules.mono_l k
    · intro y0 y1 y2 y3
      unfold spec_AreRules.l0
      repeat' first
      | (with_reducible exact ih0 _ _ _ _)
      | (with_reducible exact spec_IsRule.mono _ _ _ _ _ _)
      | (with_reducible exact LeO.refl _)
      | (with_reducible exact LeO.none _)
      | (with_reducible refine LeO.ite ?_ ?_)
      | (with_reducible refine LeO.bind ?_ (fun _ => ?_))
      | exact ih0 _ _ _ _
      | exact spec_IsRule.mono _ _ _ _ _ _
      | exact LeO.none _
      | refine LeO.ite ?_ ?_
      | refine LeO.bind ?_ (fun _ => ?_)
theorem spec_AreRules.mono : ∀ a0 k, LeO (spec_AreRules.f k a0) (spec_AreRules.f (k + 1) a0) := by
  intro a0 k
  have ih0 := spec_AreRules.mono_l k
  unfold spec_AreRules.f
  repeat' first
      | (with_reducible exact ih0 _ _ _ _)
      | (with_reducible exact spec_IsRule.mono _ _ _ _ _ _)
      | (with_reducible exact LeO.refl _)
      | (with_reducible exact LeO.none _)
      | (with_reducible refine LeO.ite ?_ ?_)
      | (with_reducible refine LeO.bind ?_ (fun _ => ?_))
      | exact ih0 _ _ _ _
      | exact spec_IsRule.mono _ _ _ _ _ _
      | exact LeO.none _
      | refine LeO.ite ?_ ?_
      | refine LeO.bind ?_ (fun _ => ?_)
set_option maxHeartbeats 8000000 in
set_option maxRecDepth 100000 in
theorem spec_AreRules.calls (k : Nat) (A0 : Option Addr) (c0 : Nat) (l0 : List (S42)) (r : Bool) (w : World) (hr0 : Kd.C k42 w A0 l0.length l0) (hc0 : l0.length ≤ c0) (h : spec_AreRules.f k l0 = some r) :
    Calls Tryz.prog 20 #[.slice A0 l0.length c0] w fun e w' => e = .returned (.bool r) ∧ Below w.heap.size w w' := by
  have hu42 := Tryz.underlying42
  have HR0 := Aside0.mk hr0
  have HC0 := Aside0.mk hc0
  clear hr0 hc0
  have HB := Aside0.mk (Below.refl w.heap.size w)
  have H : (spec_AreRules.l0 k l0 l0 (l0.length : Int) 0) = some r := h
  clear h
  have H' := Aside0.mk H
  clear H
  go_enter Tryz.func20, Tryz.ntmps20
  go_wp2
  go_loopg [7] k (fun kq v7 w' => ∃ (x7_1 : Int), v7 = .int .i64 x7_1 ∧ Aside0 (spec_AreRules.l0 kq l0 l0 (l0.length : Int) x7_1 = some r) ∧ Aside0 (kq ≤ k) ∧ Aside0 (Below w.heap.size w w'))
  case atStart => exact ⟨(0), (by first | rfl | (simp; done) | (simp [*]; done)), H', ⟨Nat.le_refl _⟩, ⟨by repeat (first | (with_reducible first | exact HB.out | apply below_alloc | apply pw_below_drewN | apply below_drew1) | exact HB.out)⟩⟩
  case round =>
    clear H'
    obtain ⟨x7_1, rfl, HA, HK1, HB⟩ := hrel
    cases gk with
    | zero => exact absurd HA.out (by simp [spec_AreRules.l0])
    | succ k1 =>
      have H := HA.out
      clear HA
      simp only [spec_AreRules.l0] at H
      by_cases c2 : x7_1 < (l0.length : Int)
      · rw [if_pos c2] at H
        have c2b0 : decide (x7_1 < (l0.length : Int)) = true := decide_eq_true c2
        clear c2
        by_cases c3 : 0 ≤ x7_1
        · rw [if_pos c3] at H
          have c3b0 : decide (0 ≤ x7_1) = true := decide_eq_true c3
          clear c3
          by_cases c4 : x7_1 < (l0.length : Int)
          · rw [if_pos c4] at H
            have c4b0 : decide (x7_1 < (l0.length : Int)) = true := decide_eq_true c4
            clear c4
            replace H := Option.bind_eq_some_iff.mp H
            obtain ⟨t116, A50, H⟩ := H
            replace H : (if t116 = true then (spec_AreRules.l0 k1 l0 l0 (l0.length : Int) (wrap64 (x7_1 + 1))) else (some false)) = some r := H
            have A5 := Aside0.mk A50
            clear A50
            by_cases c6 : t116 = true
            · subst c6
              have H1 : (spec_AreRules.l0 k1 l0 l0 (l0.length : Int) (wrap64 (x7_1 + 1))) = some r := by rw [if_pos rfl] at H; exact H
              clear H
              have H := H1
              clear H1
              have H' := Aside0.mk H
              clear H
              have p114 : 0 ≤ (x7_1 : Int) := of_decide_eq_true (by first | (with_reducible assumption) | assumption)
              have q114 : x7_1 < (l0.length : Int) := of_decide_eq_true (by first | (with_reducible assumption) | assumption)
              obtain ⟨ad114, A114_2, c114_2, e114, hx114_0, hx114_1, hx114_2, hx114_3, hx114_4, hl114_2, hi114_2⟩ := at_T42 HR0.out x7_1 p114 q114
              cases e114
              replace hx114_0 := (HB.out.cell (World.block_lt_of_cell? w _ hx114_0)).trans hx114_0
              replace hx114_1 := (HB.out.cell (World.block_lt_of_cell? w _ hx114_1)).trans hx114_1
              replace hx114_2 := (HB.out.cell (World.block_lt_of_cell? w _ hx114_2)).trans hx114_2
              replace hx114_3 := (HB.out.cell (World.block_lt_of_cell? w _ hx114_3)).trans hx114_3
              replace hx114_4 := (HB.out.cell (World.block_lt_of_cell? w _ hx114_4)).trans hx114_4
              have HR114_2 := Aside0.mk hi114_2
              have HC114_2 := Aside0.mk hl114_2
              clear hi114_2 hl114_2
              replace p114 := eq_true p114
              replace q114 := eq_true q114
              go_wp2_with (first | ((with_reducible refine gate_dst (N := 4) rfl ?_); refine box_event ?hg (N := 4) ?hd (cs := #[.int .i64 0, .string (⟨#[]⟩ : ByteArray), .slice none 0 0, .int .i64 0, .string (⟨#[]⟩ : ByteArray)]) (t := 42) ?hr ?_; (case hd => rfl); (case hg => rfl); (case hr => first | (go_simp; done) | (go_simp; rfl)); intro gb115 hg w7 hbox hb; have n0_ := Aside0.mk (below_step (by repeat (first | (with_reducible first | exact HB.out | apply below_alloc | apply pw_below_drewN | apply below_drew1) | exact HB.out)) hb); have n1_ := Aside0.mk (hbox); have n2_ := Aside0.mk ((by rw [hg]; exact (below_size (by repeat (first | (with_reducible first | exact HB.out | apply below_alloc | apply pw_below_drewN | apply below_drew1) | exact HB.out))) : w.heap.size ≤ gb115)); have n3_ := Aside0.mk ((by rw [hg]; exact (below_size (by repeat (first | (with_reducible first | exact HB.out | apply below_alloc | apply pw_below_drewN | apply below_drew1) | exact HB.out))) : w.heap.size ≤ gb115)); clear HB; have HB := n0_; have BK115 := n1_; have GW115 := n2_; have GE115 := n3_; clear n0_ n1_ n2_ n3_; clear hb hbox hg; have hcz8_0 : w7.cell? ⟨gb115, 0, none⟩ = some (.int .i64 0) := (blk_cell BK115.out 0).trans rfl; have hcz8_1 : w7.cell? ⟨gb115, 1, none⟩ = some (.string (⟨#[]⟩ : ByteArray)) := (blk_cell BK115.out 1).trans rfl; have hcz8_2 : w7.cell? ⟨gb115, 2, none⟩ = some (.slice none 0 0) := (blk_cell BK115.out 2).trans rfl; have hcz8_3 : w7.cell? ⟨gb115, 3, none⟩ = some (.int .i64 0) := (blk_cell BK115.out 3).trans rfl; have hcz8_4 : w7.cell? ⟨gb115, 4, none⟩ = some (.string (⟨#[]⟩ : ByteArray)) := (blk_cell BK115.out 4).trans rfl; have hfz8_0 := blk_frozen BK115.out 0; have hfz8_1 := blk_frozen BK115.out 1; have hfz8_2 := blk_frozen BK115.out 2; have hfz8_3 := blk_frozen BK115.out 3; have hfz8_4 := blk_frozen BK115.out 4) | ((with_reducible refine gate_callee (f := 31) rfl ?_); refine goesL_ (some 12) rfl rfl Tryz.func31 (by kernel_rfl) rfl #[.agg #[.int .i64 ((rd_T42 l0 x7_1).f0), .string ((rd_T42 l0 x7_1).f1), .slice A114_2 ((rd_T42 l0 x7_1).f2).length c114_2, .int .i64 ((rd_T42 l0 x7_1).f3), .string ((rd_T42 l0 x7_1).f4)]] rfl (by (try simp only [List.map_toArray, List.map_cons, List.map_nil]); first | done | rfl | (simp only [List.length_drop, List.length_take]; rfl)) ?_; (with_reducible refine (spec_IsRule.calls k1 ((rd_T42 l0 x7_1).f0) ((rd_T42 l0 x7_1).f1) _ _ ((rd_T42 l0 x7_1).f2) ((rd_T42 l0 x7_1).f3) ((rd_T42 l0 x7_1).f4) true _ ?side1 ?side2 A5.out).mono ?_); (case side1 => exact Kd.C_below HR114_2.out (by repeat (first | (with_reducible first | exact HB.out | apply below_alloc | apply pw_below_drewN | apply below_drew1 | refine below_set ?_ GE115.out) | exact HB.out))); (case side2 => exact HC114_2.out); rintro e w9 ⟨rfl, hb⟩; refine ⟨_, rfl, ?_⟩; have n0_ := Aside0.mk (blk_below (g := gb115) (o := .cells #[.int .i64 ((rd_T42 l0 x7_1).f0), .string ((rd_T42 l0 x7_1).f1), .slice A114_2 ((rd_T42 l0 x7_1).f2).length c114_2, .int .i64 ((rd_T42 l0 x7_1).f3), .string ((rd_T42 l0 x7_1).f4)] 42 (0, 0)) (by (with_reducible repeat (first | refine blk_drewN ?_ _ | refine blk_drew ?_ | refine blk_alloc ?_ _)); refine blk_put (cs := #[.int .i64 ((rd_T42 l0 x7_1).f0), .string ((rd_T42 l0 x7_1).f1), .slice A114_2 ((rd_T42 l0 x7_1).f2).length c114_2, .int .i64 ((rd_T42 l0 x7_1).f3), .string (⟨#[]⟩ : ByteArray)]) ?_ 4 _ rfl; (with_reducible repeat (first | refine blk_drewN ?_ _ | refine blk_drew ?_ | refine blk_alloc ?_ _)); refine blk_put (cs := #[.int .i64 ((rd_T42 l0 x7_1).f0), .string ((rd_T42 l0 x7_1).f1), .slice A114_2 ((rd_T42 l0 x7_1).f2).length c114_2, .int .i64 0, .string (⟨#[]⟩ : ByteArray)]) ?_ 3 _ rfl; (with_reducible repeat (first | refine blk_drewN ?_ _ | refine blk_drew ?_ | refine blk_alloc ?_ _)); refine blk_put (cs := #[.int .i64 ((rd_T42 l0 x7_1).f0), .string ((rd_T42 l0 x7_1).f1), .slice none 0 0, .int .i64 0, .string (⟨#[]⟩ : ByteArray)]) ?_ 2 _ rfl; (with_reducible repeat (first | refine blk_drewN ?_ _ | refine blk_drew ?_ | refine blk_alloc ?_ _)); refine blk_put (cs := #[.int .i64 ((rd_T42 l0 x7_1).f0), .string (⟨#[]⟩ : ByteArray), .slice none 0 0, .int .i64 0, .string (⟨#[]⟩ : ByteArray)]) ?_ 1 _ rfl; (with_reducible repeat (first | refine blk_drewN ?_ _ | refine blk_drew ?_ | refine blk_alloc ?_ _)); refine blk_put (cs := #[.int .i64 0, .string (⟨#[]⟩ : ByteArray), .slice none 0 0, .int .i64 0, .string (⟨#[]⟩ : ByteArray)]) ?_ 0 _ rfl; (with_reducible repeat (first | refine blk_drewN ?_ _ | refine blk_drew ?_ | refine blk_alloc ?_ _)); exact BK115.out) hb); have n1_ := Aside0.mk (below_step (by repeat (first | (with_reducible first | exact HB.out | apply below_alloc | apply pw_below_drewN | apply below_drew1 | refine below_set ?_ GE115.out) | exact HB.out)) hb); clear BK115; clear HB; have BK115 := n0_; have HB := n1_; clear n0_ n1_; (try clear hb); (try clear hb2); (try clear hk); (try clear hi)))
              go_roundg k1
              case measure => have := HK1.out; omega
              case rel => exact ⟨(wrap64 (x7_1 + 1)), (by first | rfl | (simp; done) | (simp [*]; done)), H', ⟨by have := HK1.out; omega⟩, ⟨by repeat (first | (with_reducible first | exact HB.out | apply below_alloc | apply pw_below_drewN | apply below_drew1 | refine below_set ?_ GE115.out) | exact HB.out)⟩⟩
            · replace c6 := Bool.eq_false_iff.mpr c6
              subst c6
              have H1 : (some false) = some r := by rw [if_neg (show ¬ (false = true) by decide)] at H; exact H
              clear H
              have H := H1
              clear H1
              obtain rfl := Option.some.inj H
              have p114 : 0 ≤ (x7_1 : Int) := of_decide_eq_true (by first | (with_reducible assumption) | assumption)
              have q114 : x7_1 < (l0.length : Int) := of_decide_eq_true (by first | (with_reducible assumption) | assumption)
              obtain ⟨ad114, A114_2, c114_2, e114, hx114_0, hx114_1, hx114_2, hx114_3, hx114_4, hl114_2, hi114_2⟩ := at_T42 HR0.out x7_1 p114 q114
              cases e114
              replace hx114_0 := (HB.out.cell (World.block_lt_of_cell? w _ hx114_0)).trans hx114_0
              replace hx114_1 := (HB.out.cell (World.block_lt_of_cell? w _ hx114_1)).trans hx114_1
              replace hx114_2 := (HB.out.cell (World.block_lt_of_cell? w _ hx114_2)).trans hx114_2
              replace hx114_3 := (HB.out.cell (World.block_lt_of_cell? w _ hx114_3)).trans hx114_3
              replace hx114_4 := (HB.out.cell (World.block_lt_of_cell? w _ hx114_4)).trans hx114_4
              have HR114_2 := Aside0.mk hi114_2
              have HC114_2 := Aside0.mk hl114_2
              clear hi114_2 hl114_2
              replace p114 := eq_true p114
              replace q114 := eq_true q114
              go_wp2_with (first | ((with_reducible refine gate_dst (N := 4) rfl ?_); refine box_event ?hg (N := 4) ?hd (cs := #[.int .i64 0, .string (⟨#[]⟩ : ByteArray), .slice none 0 0, .int .i64 0, .string (⟨#[]⟩ : ByteArray)]) (t := 42) ?hr ?_; (case hd => rfl); (case hg => rfl); (case hr => first | (go_simp; done) | (go_simp; rfl)); intro gb115 hg w10 hbox hb; have n0_ := Aside0.mk (below_step (by repeat (first | (with_reducible first | exact HB.out | apply below_alloc | apply pw_below_drewN | apply below_drew1) | exact HB.out)) hb); have n1_ := Aside0.mk (hbox); have n2_ := Aside0.mk ((by rw [hg]; exact (below_size (by repeat (first | (with_reducible first | exact HB.out | apply below_alloc | apply pw_below_drewN | apply below_drew1) | exact HB.out))) : w.heap.size ≤ gb115)); have n3_ := Aside0.mk ((by rw [hg]; exact (below_size (by repeat (first | (with_reducible first | exact HB.out | apply below_alloc | apply pw_below_drewN | apply below_drew1) | exact HB.out))) : w.heap.size ≤ gb115)); clear HB; have HB := n0_; have BK115 := n1_; have GW115 := n2_; have GE115 := n3_; clear n0_ n1_ n2_ n3_; clear hb hbox hg; have hcz11_0 : w10.cell? ⟨gb115, 0, none⟩ = some (.int .i64 0) := (blk_cell BK115.out 0).trans rfl; have hcz11_1 : w10.cell? ⟨gb115, 1, none⟩ = some (.string (⟨#[]⟩ : ByteArray)) := (blk_cell BK115.out 1).trans rfl; have hcz11_2 : w10.cell? ⟨gb115, 2, none⟩ = some (.slice none 0 0) := (blk_cell BK115.out 2).trans rfl; have hcz11_3 : w10.cell? ⟨gb115, 3, none⟩ = some (.int .i64 0) := (blk_cell BK115.out 3).trans rfl; have hcz11_4 : w10.cell? ⟨gb115, 4, none⟩ = some (.string (⟨#[]⟩ : ByteArray)) := (blk_cell BK115.out 4).trans rfl; have hfz11_0 := blk_frozen BK115.out 0; have hfz11_1 := blk_frozen BK115.out 1; have hfz11_2 := blk_frozen BK115.out 2; have hfz11_3 := blk_frozen BK115.out 3; have hfz11_4 := blk_frozen BK115.out 4) | ((with_reducible refine gate_callee (f := 31) rfl ?_); refine goesL_ (some 12) rfl rfl Tryz.func31 (by kernel_rfl) rfl #[.agg #[.int .i64 ((rd_T42 l0 x7_1).f0), .string ((rd_T42 l0 x7_1).f1), .slice A114_2 ((rd_T42 l0 x7_1).f2).length c114_2, .int .i64 ((rd_T42 l0 x7_1).f3), .string ((rd_T42 l0 x7_1).f4)]] rfl (by (try simp only [List.map_toArray, List.map_cons, List.map_nil]); first | done | rfl | (simp only [List.length_drop, List.length_take]; rfl)) ?_; (with_reducible refine (spec_IsRule.calls k1 ((rd_T42 l0 x7_1).f0) ((rd_T42 l0 x7_1).f1) _ _ ((rd_T42 l0 x7_1).f2) ((rd_T42 l0 x7_1).f3) ((rd_T42 l0 x7_1).f4) false _ ?side1 ?side2 A5.out).mono ?_); (case side1 => exact Kd.C_below HR114_2.out (by repeat (first | (with_reducible first | exact HB.out | apply below_alloc | apply pw_below_drewN | apply below_drew1 | refine below_set ?_ GE115.out) | exact HB.out))); (case side2 => exact HC114_2.out); rintro e w12 ⟨rfl, hb⟩; refine ⟨_, rfl, ?_⟩; have n0_ := Aside0.mk (blk_below (g := gb115) (o := .cells #[.int .i64 ((rd_T42 l0 x7_1).f0), .string ((rd_T42 l0 x7_1).f1), .slice A114_2 ((rd_T42 l0 x7_1).f2).length c114_2, .int .i64 ((rd_T42 l0 x7_1).f3), .string ((rd_T42 l0 x7_1).f4)] 42 (0, 0)) (by (with_reducible repeat (first | refine blk_drewN ?_ _ | refine blk_drew ?_ | refine blk_alloc ?_ _)); refine blk_put (cs := #[.int .i64 ((rd_T42 l0 x7_1).f0), .string ((rd_T42 l0 x7_1).f1), .slice A114_2 ((rd_T42 l0 x7_1).f2).length c114_2, .int .i64 ((rd_T42 l0 x7_1).f3), .string (⟨#[]⟩ : ByteArray)]) ?_ 4 _ rfl; (with_reducible repeat (first | refine blk_drewN ?_ _ | refine blk_drew ?_ | refine blk_alloc ?_ _)); refine blk_put (cs := #[.int .i64 ((rd_T42 l0 x7_1).f0), .string ((rd_T42 l0 x7_1).f1), .slice A114_2 ((rd_T42 l0 x7_1).f2).length c114_2, .int .i64 0, .string (⟨#[]⟩ : ByteArray)]) ?_ 3 _ rfl; (with_reducible repeat (first | refine blk_drewN ?_ _ | refine blk_drew ?_ | refine blk_alloc ?_ _)); refine blk_put (cs := #[.int .i64 ((rd_T42 l0 x7_1).f0), .string ((rd_T42 l0 x7_1).f1), .slice none 0 0, .int .i64 0, .string (⟨#[]⟩ : ByteArray)]) ?_ 2 _ rfl; (with_reducible repeat (first | refine blk_drewN ?_ _ | refine blk_drew ?_ | refine blk_alloc ?_ _)); refine blk_put (cs := #[.int .i64 ((rd_T42 l0 x7_1).f0), .string (⟨#[]⟩ : ByteArray), .slice none 0 0, .int .i64 0, .string (⟨#[]⟩ : ByteArray)]) ?_ 1 _ rfl; (with_reducible repeat (first | refine blk_drewN ?_ _ | refine blk_drew ?_ | refine blk_alloc ?_ _)); refine blk_put (cs := #[.int .i64 0, .string (⟨#[]⟩ : ByteArray), .slice none 0 0, .int .i64 0, .string (⟨#[]⟩ : ByteArray)]) ?_ 0 _ rfl; (with_reducible repeat (first | refine blk_drewN ?_ _ | refine blk_drew ?_ | refine blk_alloc ?_ _)); exact BK115.out) hb); have n1_ := Aside0.mk (below_step (by repeat (first | (with_reducible first | exact HB.out | apply below_alloc | apply pw_below_drewN | apply below_drew1 | refine below_set ?_ GE115.out) | exact HB.out)) hb); clear BK115; clear HB; have BK115 := n0_; have HB := n1_; clear n0_ n1_; (try clear hb); (try clear hb2); (try clear hk); (try clear hi)))
              go_ret
              exact ⟨by first | rfl | (simp [errW_none, errW_some] <;> rfl) | (simp [*, errW_none, errW_some] <;> rfl), by repeat (first | (with_reducible first | exact HB.out | apply below_alloc | apply pw_below_drewN | apply below_drew1 | refine below_set ?_ GE115.out) | exact HB.out)⟩
          · rw [if_neg c4] at H
            exact absurd H (by simp)
        · rw [if_neg c3] at H
          exact absurd H (by simp)
      · rw [if_neg c2] at H
        have c2b0 : decide (x7_1 < (l0.length : Int)) = false := decide_eq_false c2
        clear c2
        obtain rfl := Option.some.inj H
        go_wp2
        go_ret
        exact ⟨by first | rfl | (simp [errW_none, errW_some] <;> rfl) | (simp [*, errW_none, errW_some] <;> rfl), by repeat (first | (with_reducible first | exact HB.out | apply below_alloc | apply pw_below_drewN | apply below_drew1) | exact HB.out)⟩

/-! ### spec_withPort: function 43 -/
def spec_withPort.f (a0 : ByteArray) (a1 : ByteArray) : Option (ByteArray) := if a1.toList = ([] : List UInt8) then (some a0) else (if a0.size + 1 ≤ 9223372036854775807 then (if (a0 ++ (⟨#[58]⟩ : ByteArray)).size + a1.size ≤ 9223372036854775807 then (some ((a0 ++ (⟨#[58]⟩ : ByteArray)) ++ a1)) else (none)) else (none))
set_option maxHeartbeats 8000000 in
set_option maxRecDepth 100000 in
theorem spec_withPort.calls (a0 : ByteArray) (a1 : ByteArray) (r : ByteArray) (w : World) (h : spec_withPort.f a0 a1 = some r) :
    Calls Tryz.prog 43 #[.string a0, .string a1] w fun e w' => e = .returned (.string r) ∧ Drawn0 w w' := by
  have H : (if a1.toList = ([] : List UInt8) then (some a0) else (if a0.size + 1 ≤ 9223372036854775807 then (if (a0 ++ (⟨#[58]⟩ : ByteArray)).size + a1.size ≤ 9223372036854775807 then (some ((a0 ++ (⟨#[58]⟩ : ByteArray)) ++ a1)) else (none)) else (none))) = some r := h
  clear h
  by_cases c3 : a1.toList = ([] : List UInt8)
  · rw [if_pos c3] at H
    have c3b0 : (a1.toList == ([] : List UInt8)) = true := beq_iff_eq.mpr c3
    have c3b1 : (a1.toList != ([] : List UInt8)) = false := bne_eq_false_iff_eq.mpr c3
    clear c3
    obtain rfl := Option.some.inj H
    go_enter Tryz.func43, Tryz.ntmps43
    go_wp2
    go_ret
    exact ⟨by first | rfl | (simp; done) | (simp [*]; done), by repeat (first | exact Drawn0.refl _ | apply Drawn0.step)⟩
  · rw [if_neg c3] at H
    have c3b0 : (a1.toList == ([] : List UInt8)) = false := beq_eq_false_iff_ne.mpr c3
    have c3b1 : (a1.toList != ([] : List UInt8)) = true := bne_iff_ne.mpr c3
    by_cases c4 : a0.size + 1 ≤ 9223372036854775807
    · rw [if_pos c4] at H
      have c4b0 := eq_true c4
      have c4b1 : decide (a0.size + 1 ≤ 9223372036854775807) = true := decide_eq_true c4
      try have c4b2 : (9223372036854775807 < a0.size + 1) = False := eq_false (Nat.not_lt.2 c4)
      by_cases c5 : (a0 ++ (⟨#[58]⟩ : ByteArray)).size + a1.size ≤ 9223372036854775807
      · rw [if_pos c5] at H
        have c5b0 := eq_true c5
        have c5b1 : decide ((a0 ++ (⟨#[58]⟩ : ByteArray)).size + a1.size ≤ 9223372036854775807) = true := decide_eq_true c5
        try have c5b2 : (9223372036854775807 < (a0 ++ (⟨#[58]⟩ : ByteArray)).size + a1.size) = False := eq_false (Nat.not_lt.2 c5)
        obtain rfl := Option.some.inj H
        go_enter Tryz.func43, Tryz.ntmps43
        go_wp2
        go_ret
        exact ⟨by first | rfl | (simp; done) | (simp [*]; done), by repeat (first | exact Drawn0.refl _ | apply Drawn0.step)⟩
      · rw [if_neg c5] at H
        exact absurd H (by simp)
    · rw [if_neg c4] at H
      exact absurd H (by simp)

/-! ### httpproxy_zzIndex: function 67 -/
def httpproxy_zzIndex.l0 : Nat → ByteArray → ByteArray → Int → Option (Int)
  | 0, _, _, _ => none
  | k + 1, x0, x1, x5 => if (wrap64 (x5 + (x1.size : Int))) ≤ (x0.size : Int) then (if 0 ≤ x5 then (if x5 ≤ (wrap64 (x5 + (x1.size : Int))) then (if (x0.extract (x5 : Int).toNat ((wrap64 (x5 + (x1.size : Int))) : Int).toNat).toList = x1.toList then (some x5) else (httpproxy_zzIndex.l0 k x0 x1 (wrap64 (x5 + 1)))) else (none)) else (none)) else (some (-1))
def httpproxy_zzIndex.f (k : Nat) (a0 : ByteArray) (a1 : ByteArray) : Option (Int) := httpproxy_zzIndex.l0 k a0 a1 0
theorem httpproxy_zzIndex.mono_l : ∀ k, (∀ y0 y1 y2, LeO (httpproxy_zzIndex.l0 k y0 y1 y2) (httpproxy_zzIndex.l0 (k + 1) y0 y1 y2))
  | 0 => fun _ _ _ r h => by simp [httpproxy_zzIndex.l0] at h
  | k + 1 => by
    have ih0 := httpproxy_zzIndex.mono_l k
    · intro y0 y1 y2
      unfold httpproxy_zzIndex.l0
      repeat' first
      | (with_reducible exact ih0 _ _ _)
      | (with_reducible exact LeO.refl _)
      | (with_reducible exact LeO.none _)
      | (with_reducible refine LeO.ite ?_ ?_)
      | (with_reducible refine LeO.bind ?_ (fun _ => ?_))
      | exact ih0 _ _ _
      | exact LeO.none _
      | refine LeO.ite ?_ ?_
      | refine LeO.bind ?_ (fun _ => ?_)
theorem httpproxy_zzIndex.mono : ∀ a0 a1 k, LeO (httpproxy_zzIndex.f k a0 a1) (httpproxy_zzIndex.f (k + 1) a0 a1) := by
  intro a0 a1 k
  have ih0 := httpproxy_zzIndex.mono_l k
  unfold httpproxy_zzIndex.f
  repeat' first
      | (with_reducible exact ih0 _ _ _)
      | (with_reducible exact LeO.refl _)
      | (with_reducible exact LeO.none _)
      | (with_reducible refine LeO.ite ?_ ?_)
      | (with_reducible refine LeO.bind ?_ (fun _ => ?_))
      | exact ih0 _ _ _
      | exact LeO.none _
      | refine LeO.ite ?_ ?_
      | refine LeO.bind ?_ (fun _ => ?_)
set_option maxHeartbeats 8000000 in
set_option maxRecDepth 100000 in
theorem httpproxy_zzIndex.calls (k : Nat) (a0 : ByteArray) (a1 : ByteArray) (r : Int) (w : World) (h : httpproxy_zzIndex.f k a0 a1 = some r) :
    Calls Tryz.prog 67 #[.string a0, .string a1] w fun e w' => e = .returned (.int .i64 r) ∧ Drawn0 w w' := by
  have H : (httpproxy_zzIndex.l0 k a0 a1 0) = some r := h
  clear h
  have H' := Aside0.mk H
  clear H
  go_enter Tryz.func67, Tryz.ntmps67
  go_wp2
  go_loopg [5] k (fun kq v5 w' => ∃ (x5_1 : Int), v5 = .int .i64 x5_1 ∧ Aside0 (httpproxy_zzIndex.l0 kq a0 a1 x5_1 = some r) ∧ Aside0 (kq ≤ k) ∧ Drawn0 w w')
  case atStart => exact ⟨(0), (by first | rfl | (simp; done) | (simp [*]; done)), H', ⟨Nat.le_refl _⟩, by repeat (first | exact Drawn0.refl _ | apply Drawn0.step)⟩
  case round =>
    clear H'
    try clear p2
    obtain ⟨x5_1, rfl, HA, HK1, ⟨m1, rfl⟩⟩ := hrel
    cases gk with
    | zero => exact absurd HA.out (by simp [httpproxy_zzIndex.l0])
    | succ k1 =>
      have H := HA.out
      clear HA
      simp only [httpproxy_zzIndex.l0] at H
      by_cases c3 : (wrap64 (x5_1 + (a1.size : Int))) ≤ (a0.size : Int)
      · rw [if_pos c3] at H
        have c3b0 : decide ((wrap64 (x5_1 + (a1.size : Int))) ≤ (a0.size : Int)) = true := decide_eq_true c3
        clear c3
        by_cases c4 : 0 ≤ x5_1
        · rw [if_pos c4] at H
          have c4b0 := eq_true c4
          have c4b1 : decide (0 ≤ x5_1) = true := decide_eq_true c4
          clear c4
          by_cases c5 : x5_1 ≤ (wrap64 (x5_1 + (a1.size : Int)))
          · rw [if_pos c5] at H
            have c5b0 := eq_true c5
            have c5b1 : decide (x5_1 ≤ (wrap64 (x5_1 + (a1.size : Int)))) = true := decide_eq_true c5
            have c6b0 := eq_true (of_decide_eq_true (by first | (with_reducible assumption) | assumption) : (wrap64 (x5_1 + (a1.size : Int))) ≤ (a0.size : Int))
            by_cases c7 : (a0.extract (x5_1 : Int).toNat ((wrap64 (x5_1 + (a1.size : Int))) : Int).toNat).toList = a1.toList
            · rw [if_pos c7] at H
              have c7b0 : ((a0.extract (x5_1 : Int).toNat ((wrap64 (x5_1 + (a1.size : Int))) : Int).toNat).toList == a1.toList) = true := beq_iff_eq.mpr c7
              have c7b1 : ((a0.extract (x5_1 : Int).toNat ((wrap64 (x5_1 + (a1.size : Int))) : Int).toNat).toList != a1.toList) = false := bne_eq_false_iff_eq.mpr c7
              clear c7
              obtain rfl := Option.some.inj H
              go_wp2
              go_ret
              exact ⟨by first | rfl | (simp; done) | (simp [*]; done), by repeat (first | exact Drawn0.refl _ | apply Drawn0.step)⟩
            · rw [if_neg c7] at H
              have c7b0 : ((a0.extract (x5_1 : Int).toNat ((wrap64 (x5_1 + (a1.size : Int))) : Int).toNat).toList == a1.toList) = false := beq_eq_false_iff_ne.mpr c7
              have c7b1 : ((a0.extract (x5_1 : Int).toNat ((wrap64 (x5_1 + (a1.size : Int))) : Int).toNat).toList != a1.toList) = true := bne_iff_ne.mpr c7
              have H' := Aside0.mk H
              clear H
              go_wp2
              go_roundg k1
              case measure => have := HK1.out; omega
              case rel => exact ⟨(wrap64 (x5_1 + 1)), (by first | rfl | (simp; done) | (simp [*]; done)), H', ⟨by have := HK1.out; omega⟩, by repeat (first | exact Drawn0.refl _ | apply Drawn0.step)⟩
          · rw [if_neg c5] at H
            exact absurd H (by simp)
        · rw [if_neg c4] at H
          exact absurd H (by simp)
      · rw [if_neg c3] at H
        have c3b0 : decide ((wrap64 (x5_1 + (a1.size : Int))) ≤ (a0.size : Int)) = false := decide_eq_false c3
        clear c3
        obtain rfl := Option.some.inj H
        go_wp2
        go_ret
        exact ⟨by first | rfl | (simp; done) | (simp [*]; done), by repeat (first | exact Drawn0.refl _ | apply Drawn0.step)⟩

/-! ### httpproxy_zzSplit: function 52 -/
def httpproxy_zzSplit.l0 : Nat → ByteArray → ByteArray → List ByteArray → Option (List ByteArray)
  | 0, _, _, _ => none
  | k + 1, x0, x1, x5 => (httpproxy_zzIndex.f k x0 x1).bind fun t117 => (if t117 < 0 then (if x5.length < 8796093022208 then (some (x5 ++ [x0])) else (none)) else (if 0 ≤ t117 then (if t117 ≤ (x0.size : Int) then (if x5.length < 8796093022208 then (if 0 ≤ (wrap64 (t117 + (x1.size : Int))) then (if (wrap64 (t117 + (x1.size : Int))) ≤ (x0.size : Int) then (httpproxy_zzSplit.l0 k (x0.extract ((wrap64 (t117 + (x1.size : Int))) : Int).toNat x0.size) x1 (x5 ++ [x0.extract 0 (t117 : Int).toNat])) else (none)) else (none)) else (none)) else (none)) else (none)))
def httpproxy_zzSplit.f (k : Nat) (a0 : ByteArray) (a1 : ByteArray) : Option (List ByteArray) := httpproxy_zzSplit.l0 k a0 a1 ([] : List ByteArray)
theorem httpproxy_zzSplit.mono_l : ∀ k, (∀ y0 y1 y2, LeO (httpproxy_zzSplit.l0 k y0 y1 y2) (httpproxy_zzSplit.l0 (k + 1) y0 y1 y2))
  | 0 => fun _ _ _ r h => by simp [httpproxy_zzSplit.l0] at h
  | k + 1 => by
    have ih0 := httpproxy_zzSplit.mono_l k
    · intro y0 y1 y2
      unfold httpproxy_zzSplit.l0
      repeat' first
      | (with_reducible exact ih0 _ _ _)
      | (with_reducible exact httpproxy_zzIndex.mono _ _ _)
      | (with_reducible exact LeO.refl _)
      | (with_reducible exact LeO.none _)
      | (with_reducible refine LeO.ite ?_ ?_)
      | (with_reducible refine LeO.bind ?_ (fun _ => ?_))
      | exact ih0 _ _ _
      | exact httpproxy_zzIndex.mono _ _ _
      | exact LeO.none _
      | refine LeO.ite ?_ ?_
      | refine LeO.bind ?_ (fun _ => ?_)
theorem httpproxy_zzSplit.mono : ∀ a0 a1 k, LeO (httpproxy_zzSplit.f k a0 a1) (httpproxy_zzSplit.f (k + 1) a0 a1) := by
  intro a0 a1 k
  have ih0 := httpproxy_zzSplit.mono_l k
  unfold httpproxy_zzSplit.f
  repeat' first
      | (with_reducible exact ih0 _ _ _)
      | (with_reducible exact httpproxy_zzIndex.mono _ _ _)
      | (with_reducible exact LeO.refl _)
      | (with_reducible exact LeO.none _)
      | (with_reducible refine LeO.ite ?_ ?_)
      | (with_reducible refine LeO.bind ?_ (fun _ => ?_))
      | exact ih0 _ _ _
      | exact httpproxy_zzIndex.mono _ _ _
      | exact LeO.none _
      | refine LeO.ite ?_ ?_
      | refine LeO.bind ?_ (fun _ => ?_)
set_option maxHeartbeats 8000000 in
set_option maxRecDepth 100000 in
theorem httpproxy_zzSplit.calls (k : Nat) (a0 : ByteArray) (a1 : ByteArray) (r : List ByteArray) (w : World) (h : httpproxy_zzSplit.f k a0 a1 = some r) :
    Calls Tryz.prog 52 #[.string a0, .string a1] w fun e w' => ∃ v0_ : Value, e = .returned (v0_) ∧ Kd.R Kd.string 9 w' w.heap.size (fun _ => True) v0_ r ∧ Below w.heap.size w w' := by
  have HB := Aside0.mk (Below.refl w.heap.size w)
  have H : (httpproxy_zzSplit.l0 k a0 a1 ([] : List ByteArray)) = some r := h
  clear h
  have H' := Aside0.mk H
  clear H
  go_enter Tryz.func52, Tryz.ntmps52
  go_wp2
  go_loopg [0, 5] k (fun kq v0 v5 w' => ∃ (x0_1 : ByteArray) (x5_1 : List ByteArray), v0 = .string x0_1 ∧ Aside0 (httpproxy_zzSplit.l0 kq x0_1 a1 x5_1 = some r) ∧ Aside0 (kq ≤ k) ∧ Aside0 (Kd.R Kd.string 9 w' w.heap.size (fun _ => True) v5 x5_1) ∧ Aside0 (Below w.heap.size w w'))
  case atStart => exact ⟨(a0), (([] : List ByteArray)), (by first | rfl | (simp; done) | (simp [*]; done)), H', ⟨Nat.le_refl _⟩, ⟨by first | exact Kd.R_nil _ _ _ _ _ | exact Kd.N_nil _ _ _ _ _ | exact Kd.V_nil _ _ _ _ _ | exact Kd.Q_nil _ _ _ _ _ | exact Kd.S_nil _ _ _ _ _⟩, ⟨by repeat (first | (with_reducible first | exact HB.out | apply below_alloc | apply pw_below_drewN | apply below_drew1) | exact HB.out)⟩⟩
  case round =>
    clear H'
    try clear p2
    obtain ⟨x0_1, x5_1, rfl, HA, HK1, HO_5, HB⟩ := hrel
    cases gk with
    | zero => exact absurd HA.out (by simp [httpproxy_zzSplit.l0])
    | succ k1 =>
      have H := HA.out
      clear HA
      simp only [httpproxy_zzSplit.l0] at H
      replace H := Option.bind_eq_some_iff.mp H
      obtain ⟨t117, A30, H⟩ := H
      replace H : (if t117 < 0 then (if x5_1.length < 8796093022208 then (some (x5_1 ++ [x0_1])) else (none)) else (if 0 ≤ t117 then (if t117 ≤ (x0_1.size : Int) then (if x5_1.length < 8796093022208 then (if 0 ≤ (wrap64 (t117 + (a1.size : Int))) then (if (wrap64 (t117 + (a1.size : Int))) ≤ (x0_1.size : Int) then (httpproxy_zzSplit.l0 k1 (x0_1.extract ((wrap64 (t117 + (a1.size : Int))) : Int).toNat x0_1.size) a1 (x5_1 ++ [x0_1.extract 0 (t117 : Int).toNat])) else (none)) else (none)) else (none)) else (none)) else (none))) = some r := H
      have A3 := Aside0.mk A30
      clear A30
      by_cases c4 : t117 < 0
      · rw [if_pos c4] at H
        have c4b0 : decide (t117 < 0) = true := decide_eq_true c4
        clear c4
        by_cases c5 : x5_1.length < 8796093022208
        · rw [if_pos c5] at H
          have LMc5 := Aside0.mk c5
          clear c5
          obtain ⟨y118, hy118⟩ : ∃ y_ : List ByteArray, y_ = (x5_1 ++ [x0_1]) := ⟨_, rfl⟩
          replace H : (some y118) = some r := by first | (rw [hy118]; with_reducible exact H) | (have H2_ := (Option.bind_some _ _).symm.trans H; rw [hy118]; with_reducible exact H2_) | (have H2_ := (Option.bind_some _ _).symm.trans H; with_reducible exact H2_) | with_reducible exact H | (rw [hy118]; exact H) | exact H
          have Ny118 := Aside0.mk hy118
          clear hy118
          obtain rfl := Option.some.inj H
          go_wp2_with (first | ((with_reducible refine gate_callee (f := 67) rfl ?_); refine goesL_ (some 9) rfl rfl Tryz.func67 (by kernel_rfl) rfl #[.string x0_1, .string a1] rfl (by (try simp only [List.map_toArray, List.map_cons, List.map_nil]); first | done | rfl | (simp only [List.length_drop, List.length_take]; rfl)) ?_; (with_reducible refine (httpproxy_zzIndex.calls k1 x0_1 a1 t117 _ A3.out).mono ?_); rintro e w' ⟨rfl, ⟨nd, rfl⟩⟩; refine ⟨_, rfl, ?_⟩) | ((with_reducible refine gate_builtin (b := .append) (xs := #[.tmp 12, .tmp 14]) rfl ?_); at_builtin; refine Kd.R_append Kd.string (w0 := w) w.heap.size rfl (.tmp 12) (.tmp 14) 83 9 (.string ⟨#[]⟩) 16 rfl Tryz.underlying83 info9 rfl (by decide) (by omega) u5 x5_1 x0_1 [.string x0_1] (fun _ => True) (fun _ => False) rfl rfl ?aP (fun _ hk => hk.elim) ?aF ?aO ?aB ?aS ?aL ?_; (case aP => exact rfl); (case aB => exact (by repeat (first | (with_reducible first | exact HB.out | apply below_alloc | apply pw_below_drewN | apply below_drew1) | exact HB.out))); (case aF => exact (fun _ _ => trivial)); (case aO => exact (by (with_reducible repeat (first | apply Kd.R_alloc | apply Kd.R_drewN | apply Kd.R_drew)); exact HO_5.out)); (case aS => exact (below_size (by repeat (first | (with_reducible first | exact HB.out | apply below_alloc | apply pw_below_drewN | apply below_drew1) | exact HB.out)))); (case aL => have := LMc5.out; omega); intro v119 w6 ho hb hg hat; rw [← Ny118.out] at ho; have n0_ := Aside0.mk (hb); have n1_ := Aside0.mk (ho); clear HB; clear HO_5; have HB := n0_; have HO120 := n1_; clear n0_ n1_; clear ho hb hg hat))
          go_ret
          exact ⟨_, by first | rfl | (simp [errW_none, errW_some] <;> rfl) | (simp [*, errW_none, errW_some] <;> rfl), by (with_reducible repeat (first | apply Kd.R_alloc | apply Kd.R_drewN | apply Kd.R_drew)); exact HO120.out, by repeat (first | (with_reducible first | exact HB.out | apply below_alloc | apply pw_below_drewN | apply below_drew1) | exact HB.out)⟩
        · rw [if_neg c5] at H
          exact absurd H (by simp)
      · rw [if_neg c4] at H
        have c4b0 : decide (t117 < 0) = false := decide_eq_false c4
        clear c4
        by_cases c7 : 0 ≤ t117
        · rw [if_pos c7] at H
          have c7b0 := eq_true c7
          have c7b1 : decide (0 ≤ t117) = true := decide_eq_true c7
          clear c7
          by_cases c8 : t117 ≤ (x0_1.size : Int)
          · rw [if_pos c8] at H
            have c8b0 := eq_true c8
            have c8b1 : decide (t117 ≤ (x0_1.size : Int)) = true := decide_eq_true c8
            clear c8
            by_cases c9 : x5_1.length < 8796093022208
            · rw [if_pos c9] at H
              have LMc9 := Aside0.mk c9
              clear c9
              obtain ⟨y121, hy121⟩ : ∃ y_ : List ByteArray, y_ = (x5_1 ++ [x0_1.extract 0 (t117 : Int).toNat]) := ⟨_, rfl⟩
              replace H : (if 0 ≤ (wrap64 (t117 + (a1.size : Int))) then (if (wrap64 (t117 + (a1.size : Int))) ≤ (x0_1.size : Int) then (httpproxy_zzSplit.l0 k1 (x0_1.extract ((wrap64 (t117 + (a1.size : Int))) : Int).toNat x0_1.size) a1 y121) else (none)) else (none)) = some r := by first | (rw [hy121]; with_reducible exact H) | (have H2_ := (Option.bind_some _ _).symm.trans H; rw [hy121]; with_reducible exact H2_) | (have H2_ := (Option.bind_some _ _).symm.trans H; with_reducible exact H2_) | with_reducible exact H | (rw [hy121]; exact H) | exact H
              have Ny121 := Aside0.mk hy121
              clear hy121
              obtain ⟨ji10, hji10⟩ : ∃ j_ : Int, (wrap64 (t117 + (a1.size : Int))) = j_ := ⟨_, rfl⟩
              replace H : (if 0 ≤ (ji10) then (if (ji10) ≤ (x0_1.size : Int) then (httpproxy_zzSplit.l0 k1 (x0_1.extract ((ji10) : Int).toNat x0_1.size) a1 y121) else (none)) else (none)) = some r := by first | (rw [hji10] at H; exact H) | (simp only [hji10] at H ⊢; exact H)
              (try rw [hji10] at A3)
              have hji10w : (IntKind.i64.wrap (t117 + (a1.size : Int))) = ji10 := (i64_w _).trans hji10
              by_cases c11 : 0 ≤ (ji10)
              · rw [if_pos c11] at H
                have c11b0 := eq_true c11
                have c11b1 : decide (0 ≤ (ji10)) = true := decide_eq_true c11
                clear c11
                by_cases c12 : (ji10) ≤ (x0_1.size : Int)
                · rw [if_pos c12] at H
                  have c12b0 := eq_true c12
                  have c12b1 : decide ((ji10) ≤ (x0_1.size : Int)) = true := decide_eq_true c12
                  clear c12
                  have H' := Aside0.mk H
                  clear H
                  go_wp2_with (first | ((with_reducible refine gate_callee (f := 67) rfl ?_); refine goesL_ (some 9) rfl rfl Tryz.func67 (by kernel_rfl) rfl #[.string x0_1, .string a1] rfl (by (try simp only [List.map_toArray, List.map_cons, List.map_nil]); first | done | rfl | (simp only [List.length_drop, List.length_take]; rfl)) ?_; (with_reducible refine (httpproxy_zzIndex.calls k1 x0_1 a1 t117 _ A3.out).mono ?_); rintro e w' ⟨rfl, ⟨nd, rfl⟩⟩; refine ⟨_, rfl, ?_⟩) | ((with_reducible refine gate_builtin (b := .append) (xs := #[.tmp 16, .tmp 20]) rfl ?_); at_builtin; refine Kd.R_append Kd.string (w0 := w) w.heap.size rfl (.tmp 16) (.tmp 20) 83 9 (.string ⟨#[]⟩) 16 rfl Tryz.underlying83 info9 rfl (by decide) (by omega) u5 x5_1 (x0_1.extract 0 (t117 : Int).toNat) [.string (x0_1.extract 0 (t117 : Int).toNat)] (fun _ => True) (fun _ => False) rfl rfl ?aP (fun _ hk => hk.elim) ?aF ?aO ?aB ?aS ?aL ?_; (case aP => exact rfl); (case aB => exact (by repeat (first | (with_reducible first | exact HB.out | apply below_alloc | apply pw_below_drewN | apply below_drew1) | exact HB.out))); (case aF => exact (fun _ _ => trivial)); (case aO => exact (by (with_reducible repeat (first | apply Kd.R_alloc | apply Kd.R_drewN | apply Kd.R_drew)); exact HO_5.out)); (case aS => exact (below_size (by repeat (first | (with_reducible first | exact HB.out | apply below_alloc | apply pw_below_drewN | apply below_drew1) | exact HB.out)))); (case aL => have := LMc9.out; omega); intro v122 w13 ho hb hg hat; rw [← Ny121.out] at ho; have n0_ := Aside0.mk (hb); have n1_ := Aside0.mk (ho); clear HB; clear HO_5; have HB := n0_; have HO123 := n1_; clear n0_ n1_; clear ho hb hg hat))
                  go_roundg k1
                  case measure => have := HK1.out; omega
                  case rel => exact ⟨(x0_1.extract ((ji10) : Int).toNat x0_1.size), (y121), (by first | rfl | (simp; done) | (simp only [← hji10] <;> (first | rfl | simp)) | (simp [*]; done)), H', ⟨by have := HK1.out; omega⟩, ⟨by (with_reducible repeat (first | apply Kd.R_alloc | apply Kd.R_drewN | apply Kd.R_drew)); exact HO123.out⟩, ⟨by repeat (first | (with_reducible first | exact HB.out | apply below_alloc | apply pw_below_drewN | apply below_drew1) | exact HB.out)⟩⟩
                · rw [if_neg c12] at H
                  exact absurd H (by simp)
              · rw [if_neg c11] at H
                exact absurd H (by simp)
            · rw [if_neg c9] at H
              exact absurd H (by simp)
          · rw [if_neg c8] at H
            exact absurd H (by simp)
        · rw [if_neg c7] at H
          exact absurd H (by simp)

end Go.Proofs.YtnchgmjeoajmiaaGreatDoor.P
