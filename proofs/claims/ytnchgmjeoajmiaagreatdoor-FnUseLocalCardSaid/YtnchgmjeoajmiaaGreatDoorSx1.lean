-- PRINTED by print.py (a twelfth state) out of the translation. Not trusted: Lean checks it.
import Derived.Test.YtnchgmjeoajmiaaGreatDoorSx0
namespace Go.Proofs.YtnchgmjeoajmiaaGreatDoor.S
open Go.RowKit Go.Proofs.YtnchgmjeoajmiaaGreatDoorW.PrintWords Go.Proofs.YtnchgmjeoajmiaaGreatDoorW.PrintLast Go.Proofs.YtnchgmjeoajmiaaGreatDoorW.PrintMore
attribute [local go_sem] max2_int min2_int max_two min_two max_three min_three max_four min_four   -- for this text's walks alone
set_option linter.unusedVariables false
set_option linter.unusedSimpArgs false

/-! ### byteorder_BEUint64: function 158 -/
def byteorder_BEUint64.f (l0 : List Int) : Option (Int) := if 7 < (l0.length : Int) then (if 6 < (l0.length : Int) then (if 5 < (l0.length : Int) then (if 4 < (l0.length : Int) then (if 3 < (l0.length : Int) then (if 2 < (l0.length : Int) then (if 1 < (l0.length : Int) then (if 0 < (l0.length : Int) then (some (Go.bits .or .u64 (Go.bits .or .u64 (Go.bits .or .u64 (Go.bits .or .u64 (Go.bits .or .u64 (Go.bits .or .u64 (Go.bits .or .u64 (IntKind.u64.wrap (rd l0 7)) (IntKind.u64.wrap ((IntKind.u64.wrap (rd l0 6)) * 256))) (IntKind.u64.wrap ((IntKind.u64.wrap (rd l0 5)) * 65536))) (IntKind.u64.wrap ((IntKind.u64.wrap (rd l0 4)) * 16777216))) (IntKind.u64.wrap ((IntKind.u64.wrap (rd l0 3)) * 4294967296))) (IntKind.u64.wrap ((IntKind.u64.wrap (rd l0 2)) * 1099511627776))) (IntKind.u64.wrap ((IntKind.u64.wrap (rd l0 1)) * 281474976710656))) (IntKind.u64.wrap ((IntKind.u64.wrap (rd l0 0)) * 72057594037927936)))) else (none)) else (none)) else (none)) else (none)) else (none)) else (none)) else (none)) else (none)
set_option maxHeartbeats 8000000 in
set_option maxRecDepth 100000 in
theorem byteorder_BEUint64.calls (A0 : Option Addr) (c0 : Nat) (l0 : List Int) (r : Int) (w : World) (hr0 : Kd.C (Kd.int .u8) w A0 l0.length l0) (hc0 : l0.length ≤ c0) (h : byteorder_BEUint64.f l0 = some r) :
    Calls Tryz.prog 158 #[.slice A0 l0.length c0] w fun e w' => e = .returned (.int .u64 r) ∧ Drawn0 w w' := by
  have HR0 := Aside0.mk hr0
  have HC0 := Aside0.mk hc0
  clear hr0 hc0
  have H : (if 7 < (l0.length : Int) then (if 6 < (l0.length : Int) then (if 5 < (l0.length : Int) then (if 4 < (l0.length : Int) then (if 3 < (l0.length : Int) then (if 2 < (l0.length : Int) then (if 1 < (l0.length : Int) then (if 0 < (l0.length : Int) then (some (Go.bits .or .u64 (Go.bits .or .u64 (Go.bits .or .u64 (Go.bits .or .u64 (Go.bits .or .u64 (Go.bits .or .u64 (Go.bits .or .u64 (IntKind.u64.wrap (rd l0 7)) (IntKind.u64.wrap ((IntKind.u64.wrap (rd l0 6)) * 256))) (IntKind.u64.wrap ((IntKind.u64.wrap (rd l0 5)) * 65536))) (IntKind.u64.wrap ((IntKind.u64.wrap (rd l0 4)) * 16777216))) (IntKind.u64.wrap ((IntKind.u64.wrap (rd l0 3)) * 4294967296))) (IntKind.u64.wrap ((IntKind.u64.wrap (rd l0 2)) * 1099511627776))) (IntKind.u64.wrap ((IntKind.u64.wrap (rd l0 1)) * 281474976710656))) (IntKind.u64.wrap ((IntKind.u64.wrap (rd l0 0)) * 72057594037927936)))) else (none)) else (none)) else (none)) else (none)) else (none)) else (none)) else (none)) else (none)) = some r := h
  clear h
  by_cases c2 : 7 < (l0.length : Int)
  · rw [if_pos c2] at H
    have c2b0 : decide (7 < (l0.length : Int)) = true := decide_eq_true c2
    have c2b1 : decide (7 < l0.length) = true := decide_eq_true (by omega)
    clear c2
    by_cases c3 : 6 < (l0.length : Int)
    · rw [if_pos c3] at H
      have c3b0 : decide (6 < (l0.length : Int)) = true := decide_eq_true c3
      have c3b1 : decide (6 < l0.length) = true := decide_eq_true (by omega)
      clear c3
      by_cases c4 : 5 < (l0.length : Int)
      · rw [if_pos c4] at H
        have c4b0 : decide (5 < (l0.length : Int)) = true := decide_eq_true c4
        have c4b1 : decide (5 < l0.length) = true := decide_eq_true (by omega)
        clear c4
        by_cases c5 : 4 < (l0.length : Int)
        · rw [if_pos c5] at H
          have c5b0 : decide (4 < (l0.length : Int)) = true := decide_eq_true c5
          have c5b1 : decide (4 < l0.length) = true := decide_eq_true (by omega)
          clear c5
          by_cases c6 : 3 < (l0.length : Int)
          · rw [if_pos c6] at H
            have c6b0 : decide (3 < (l0.length : Int)) = true := decide_eq_true c6
            have c6b1 : decide (3 < l0.length) = true := decide_eq_true (by omega)
            clear c6
            by_cases c7 : 2 < (l0.length : Int)
            · rw [if_pos c7] at H
              have c7b0 : decide (2 < (l0.length : Int)) = true := decide_eq_true c7
              have c7b1 : decide (2 < l0.length) = true := decide_eq_true (by omega)
              clear c7
              by_cases c8 : 1 < (l0.length : Int)
              · rw [if_pos c8] at H
                have c8b0 : decide (1 < (l0.length : Int)) = true := decide_eq_true c8
                have c8b1 : decide (1 < l0.length) = true := decide_eq_true (by omega)
                clear c8
                by_cases c9 : 0 < (l0.length : Int)
                · rw [if_pos c9] at H
                  have c9b0 : decide (0 < (l0.length : Int)) = true := decide_eq_true c9
                  have c9b1 : decide (0 < l0.length) = true := decide_eq_true (by omega)
                  clear c9
                  obtain rfl := Option.some.inj H
                  have p101 : 0 ≤ (7 : Int) := (by omega)
                  have q101 : 7 < (l0.length : Int) := of_decide_eq_true (by first | (with_reducible assumption) | assumption)
                  obtain ⟨ad101, e101, hx101_0⟩ := Kd.at_int HR0.out 7 p101 q101
                  cases e101
                  (try simp only [show (7 : Int).toNat = 7 from rfl, Nat.reduceMul, Nat.reduceEqDiff, Go.Addr.add, ↓reduceIte] at hx101_0)
                  have qi101 : (7 < l0.length) = True := eq_true (by omega)
                  (try rw [show ((7 : Int)).toNat = 7 from rfl] at hx101_0)
                  replace p101 := eq_true p101
                  replace q101 := eq_true q101
                  have p102 : 0 ≤ (7 : Int) := (by omega)
                  have q102 : 7 < (l0.length : Int) := of_decide_eq_true (by first | (with_reducible assumption) | assumption)
                  obtain ⟨ad102, e102, hx102_0⟩ := Kd.at_int HR0.out 7 p102 q102
                  obtain rfl : ad101 = ad102 := (by injection e102)
                  (try simp only [show (7 : Int).toNat = 7 from rfl, Nat.reduceMul, Nat.reduceEqDiff, Go.Addr.add, ↓reduceIte] at hx102_0)
                  have qi102 : (7 < l0.length) = True := eq_true (by omega)
                  (try rw [show ((7 : Int)).toNat = 7 from rfl] at hx102_0)
                  replace p102 := eq_true p102
                  replace q102 := eq_true q102
                  have p103 : 0 ≤ (6 : Int) := (by omega)
                  have q103 : 6 < (l0.length : Int) := of_decide_eq_true (by first | (with_reducible assumption) | assumption)
                  obtain ⟨ad103, e103, hx103_0⟩ := Kd.at_int HR0.out 6 p103 q103
                  obtain rfl : ad101 = ad103 := (by injection e103)
                  (try simp only [show (6 : Int).toNat = 6 from rfl, Nat.reduceMul, Nat.reduceEqDiff, Go.Addr.add, ↓reduceIte] at hx103_0)
                  have qi103 : (6 < l0.length) = True := eq_true (by omega)
                  (try rw [show ((6 : Int)).toNat = 6 from rfl] at hx103_0)
                  replace p103 := eq_true p103
                  replace q103 := eq_true q103
                  have p104 : 0 ≤ (5 : Int) := (by omega)
                  have q104 : 5 < (l0.length : Int) := of_decide_eq_true (by first | (with_reducible assumption) | assumption)
                  obtain ⟨ad104, e104, hx104_0⟩ := Kd.at_int HR0.out 5 p104 q104
                  obtain rfl : ad101 = ad104 := (by injection e104)
                  (try simp only [show (5 : Int).toNat = 5 from rfl, Nat.reduceMul, Nat.reduceEqDiff, Go.Addr.add, ↓reduceIte] at hx104_0)
                  have qi104 : (5 < l0.length) = True := eq_true (by omega)
                  (try rw [show ((5 : Int)).toNat = 5 from rfl] at hx104_0)
                  replace p104 := eq_true p104
                  replace q104 := eq_true q104
                  have p105 : 0 ≤ (4 : Int) := (by omega)
                  have q105 : 4 < (l0.length : Int) := of_decide_eq_true (by first | (with_reducible assumption) | assumption)
                  obtain ⟨ad105, e105, hx105_0⟩ := Kd.at_int HR0.out 4 p105 q105
                  obtain rfl : ad101 = ad105 := (by injection e105)
                  (try simp only [show (4 : Int).toNat = 4 from rfl, Nat.reduceMul, Nat.reduceEqDiff, Go.Addr.add, ↓reduceIte] at hx105_0)
                  have qi105 : (4 < l0.length) = True := eq_true (by omega)
                  (try rw [show ((4 : Int)).toNat = 4 from rfl] at hx105_0)
                  replace p105 := eq_true p105
                  replace q105 := eq_true q105
                  have p106 : 0 ≤ (3 : Int) := (by omega)
                  have q106 : 3 < (l0.length : Int) := of_decide_eq_true (by first | (with_reducible assumption) | assumption)
                  obtain ⟨ad106, e106, hx106_0⟩ := Kd.at_int HR0.out 3 p106 q106
                  obtain rfl : ad101 = ad106 := (by injection e106)
                  (try simp only [show (3 : Int).toNat = 3 from rfl, Nat.reduceMul, Nat.reduceEqDiff, Go.Addr.add, ↓reduceIte] at hx106_0)
                  have qi106 : (3 < l0.length) = True := eq_true (by omega)
                  (try rw [show ((3 : Int)).toNat = 3 from rfl] at hx106_0)
                  replace p106 := eq_true p106
                  replace q106 := eq_true q106
                  have p107 : 0 ≤ (2 : Int) := (by omega)
                  have q107 : 2 < (l0.length : Int) := of_decide_eq_true (by first | (with_reducible assumption) | assumption)
                  obtain ⟨ad107, e107, hx107_0⟩ := Kd.at_int HR0.out 2 p107 q107
                  obtain rfl : ad101 = ad107 := (by injection e107)
                  (try simp only [show (2 : Int).toNat = 2 from rfl, Nat.reduceMul, Nat.reduceEqDiff, Go.Addr.add, ↓reduceIte] at hx107_0)
                  have qi107 : (2 < l0.length) = True := eq_true (by omega)
                  (try rw [show ((2 : Int)).toNat = 2 from rfl] at hx107_0)
                  replace p107 := eq_true p107
                  replace q107 := eq_true q107
                  have p108 : 0 ≤ (1 : Int) := (by omega)
                  have q108 : 1 < (l0.length : Int) := of_decide_eq_true (by first | (with_reducible assumption) | assumption)
                  obtain ⟨ad108, e108, hx108_0⟩ := Kd.at_int HR0.out 1 p108 q108
                  obtain rfl : ad101 = ad108 := (by injection e108)
                  (try simp only [show (1 : Int).toNat = 1 from rfl, Nat.reduceMul, Nat.reduceEqDiff, Go.Addr.add, ↓reduceIte] at hx108_0)
                  have qi108 : (1 < l0.length) = True := eq_true (by omega)
                  (try rw [show ((1 : Int)).toNat = 1 from rfl] at hx108_0)
                  replace p108 := eq_true p108
                  replace q108 := eq_true q108
                  have p109 : 0 ≤ (0 : Int) := (by omega)
                  have q109 : 0 < (l0.length : Int) := of_decide_eq_true (by first | (with_reducible assumption) | assumption)
                  obtain ⟨ad109, e109, hx109_0⟩ := Kd.at_int HR0.out 0 p109 q109
                  obtain rfl : ad101 = ad109 := (by injection e109)
                  have qi109 : (0 < l0.length) = True := eq_true (by omega)
                  (try rw [show ((0 : Int)).toNat = 0 from rfl] at hx109_0)
                  (try rw [Addr.add_zero'] at hx109_0)
                  replace p109 := eq_true p109
                  replace q109 := eq_true q109
                  go_enter Tryz.func158, Tryz.ntmps158
                  go_wp2
                  repeat (go_quiet (fail); try go_wp2)
                  go_ret
                  exact ⟨by first | rfl | (simp; done) | (simp [*]; done), by repeat (first | exact Drawn0.refl _ | apply Drawn0.step)⟩
                · rw [if_neg c9] at H
                  exact absurd H (by simp)
              · rw [if_neg c8] at H
                exact absurd H (by simp)
            · rw [if_neg c7] at H
              exact absurd H (by simp)
          · rw [if_neg c6] at H
            exact absurd H (by simp)
        · rw [if_neg c5] at H
          exact absurd H (by simp)
      · rw [if_neg c4] at H
        exact absurd H (by simp)
    · rw [if_neg c3] at H
      exact absurd H (by simp)
  · rw [if_neg c2] at H
    exact absurd H (by simp)

/-! ### netcidr_isZeros: function 130 -/
def netcidr_isZeros.l0 : Nat → List Int → Int → Option (Bool)
  | 0, _, _ => none
  | k + 1, x0, x3 => if x3 < (x0.length : Int) then (if 0 ≤ x3 then (if (rd x0 x3) = 0 then (netcidr_isZeros.l0 k x0 (wrap64 (x3 + 1))) else (some false)) else (none)) else (some true)
def netcidr_isZeros.f (k : Nat) (l0 : List Int) : Option (Bool) := netcidr_isZeros.l0 k l0 0
theorem netcidr_isZeros.mono_l : ∀ k, (∀ y0 y1, LeO (netcidr_isZeros.l0 k y0 y1) (netcidr_isZeros.l0 (k + 1) y0 y1))
  | 0 => fun _ _ r h => by simp [netcidr_isZeros.l0] at h
  | k + 1 => by
    have ih0 := netcidr_isZeros.mono_l k
    · intro y0 y1
      unfold netcidr_isZeros.l0
      repeat' first
      | (with_reducible exact ih0 _ _)
      | (with_reducible exact LeO.refl _)
      | (with_reducible exact LeO.none _)
      | (with_reducible refine LeO.ite ?_ ?_)
      | (with_reducible refine LeO.bind ?_ (fun _ => ?_))
      | exact ih0 _ _
      | exact LeO.none _
      | refine LeO.ite ?_ ?_
      | refine LeO.bind ?_ (fun _ => ?_)
theorem netcidr_isZeros.mono : ∀ a0 k, LeO (netcidr_isZeros.f k a0) (netcidr_isZeros.f (k + 1) a0) := by
  intro a0 k
  have ih0 := netcidr_isZeros.mono_l k
  unfold netcidr_isZeros.f
  repeat' first
      | (with_reducible exact ih0 _ _)
      | (with_reducible exact LeO.refl _)
      | (with_reducible exact LeO.none _)
      | (with_reducible refine LeO.ite ?_ ?_)
      | (with_reducible refine LeO.bind ?_ (fun _ => ?_))
      | exact ih0 _ _
      | exact LeO.none _
      | refine LeO.ite ?_ ?_
      | refine LeO.bind ?_ (fun _ => ?_)
set_option maxHeartbeats 8000000 in
set_option maxRecDepth 100000 in
theorem netcidr_isZeros.calls (k : Nat) (A0 : Option Addr) (c0 : Nat) (l0 : List Int) (r : Bool) (w : World) (hr0 : Kd.C (Kd.int .u8) w A0 l0.length l0) (hc0 : l0.length ≤ c0) (h : netcidr_isZeros.f k l0 = some r) :
    Calls Tryz.prog 130 #[.slice A0 l0.length c0] w fun e w' => e = .returned (.bool r) ∧ Drawn0 w w' := by
  have HR0 := Aside0.mk hr0
  have HC0 := Aside0.mk hc0
  clear hr0 hc0
  have H : (netcidr_isZeros.l0 k l0 0) = some r := h
  clear h
  have H' := Aside0.mk H
  clear H
  go_enter Tryz.func130, Tryz.ntmps130
  go_wp2
  go_loopg [3] k (fun kq v3 w' => ∃ (x3_1 : Int), v3 = .int .i64 x3_1 ∧ Aside0 (netcidr_isZeros.l0 kq l0 x3_1 = some r) ∧ Aside0 (kq ≤ k) ∧ Drawn0 w w')
  case atStart => exact ⟨(0), (by first | rfl | (simp; done) | (simp [*]; done)), H', ⟨Nat.le_refl _⟩, by repeat (first | exact Drawn0.refl _ | apply Drawn0.step)⟩
  case round =>
    clear H'
    try clear c1
    obtain ⟨x3_1, rfl, HA, HK1, ⟨m1, rfl⟩⟩ := hrel
    cases gk with
    | zero => exact absurd HA.out (by simp [netcidr_isZeros.l0])
    | succ k1 =>
      have H := HA.out
      clear HA
      simp only [netcidr_isZeros.l0] at H
      by_cases c2 : x3_1 < (l0.length : Int)
      · rw [if_pos c2] at H
        have c2b0 : decide (x3_1 < (l0.length : Int)) = true := decide_eq_true c2
        clear c2
        by_cases c3 : 0 ≤ x3_1
        · rw [if_pos c3] at H
          have c3b0 : decide (0 ≤ x3_1) = true := decide_eq_true c3
          clear c3
          by_cases c4 : (rd l0 x3_1) = 0
          · rw [if_pos c4] at H
            have c4b0 : ((rd l0 x3_1) == 0) = true := beq_iff_eq.mpr c4
            have c4b1 : ((rd l0 x3_1) != 0) = false := bne_eq_false_iff_eq.mpr c4
            clear c4
            have H' := Aside0.mk H
            clear H
            have p110 : 0 ≤ (x3_1 : Int) := of_decide_eq_true (by first | (with_reducible assumption) | assumption)
            have q110 : x3_1 < (l0.length : Int) := of_decide_eq_true (by first | (with_reducible assumption) | assumption)
            obtain ⟨ad110, e110, hx110_0⟩ := Kd.at_int HR0.out x3_1 p110 q110
            cases e110
            replace p110 := eq_true p110
            replace q110 := eq_true q110
            go_wp2
            go_roundg k1
            case measure => have := HK1.out; omega
            case rel => exact ⟨(wrap64 (x3_1 + 1)), (by first | rfl | (simp; done) | (simp [*]; done)), H', ⟨by have := HK1.out; omega⟩, by repeat (first | exact Drawn0.refl _ | apply Drawn0.step)⟩
          · rw [if_neg c4] at H
            have c4b0 : ((rd l0 x3_1) == 0) = false := beq_eq_false_iff_ne.mpr c4
            have c4b1 : ((rd l0 x3_1) != 0) = true := bne_iff_ne.mpr c4
            obtain rfl := Option.some.inj H
            have p110 : 0 ≤ (x3_1 : Int) := of_decide_eq_true (by first | (with_reducible assumption) | assumption)
            have q110 : x3_1 < (l0.length : Int) := of_decide_eq_true (by first | (with_reducible assumption) | assumption)
            obtain ⟨ad110, e110, hx110_0⟩ := Kd.at_int HR0.out x3_1 p110 q110
            cases e110
            replace p110 := eq_true p110
            replace q110 := eq_true q110
            go_wp2
            go_ret
            exact ⟨by first | rfl | (simp; done) | (simp [*]; done), by repeat (first | exact Drawn0.refl _ | apply Drawn0.step)⟩
        · rw [if_neg c3] at H
          exact absurd H (by simp)
      · rw [if_neg c2] at H
        have c2b0 : decide (x3_1 < (l0.length : Int)) = false := decide_eq_false c2
        clear c2
        obtain rfl := Option.some.inj H
        go_wp2
        go_ret
        exact ⟨by first | rfl | (simp; done) | (simp [*]; done), by repeat (first | exact Drawn0.refl _ | apply Drawn0.step)⟩

/-- THE ONE PURE STATEMENT of netcidr_isZeros: yours. -/
def netcidr_isZeros.Pure : Prop := ∀ (l0 : List Int), l0.length ≤ maxLen → l0.length * 1 ≤ 140737488351232 → (∀ x ∈ l0, (Lit.int .u8 x).wf = true) → ∃ k, netcidr_isZeros.f k l0 = some true
theorem netcidr_isZeros.walk (P : netcidr_isZeros.Pure) (a0 : Option Addr) (len0 cap0 : Nat) (z0 : List Int) (w : World) (w0 : (a0 = none ∧ len0 = 0 ∧ cap0 = 0 ∧ z0 = []) ∨ ∃ x, a0 = some x ∧ len0 ≤ cap0 ∧ cap0 ≤ maxLen ∧ z0.length = cap0 ∧ (∀ i, i < z0.length → w.cell? (x.add i) = some (.int .u8 (z0.getD i 0))) ∧ ∀ n ∈ z0, (Lit.int .u8 n).wf = true) (y0 : len0 * 1 ≤ 140737488351232) :
    Calls Tryz.prog 130 #[.slice a0 len0 cap0] w fun e w' => e = .returned (.bool true) ∧ Below w.heap.size w w' := by
  obtain ⟨l0, rfl, hr0, hm0, hw0, hc0⟩ := ReadsInt.ofRowC w0
  obtain ⟨k, h⟩ := P l0 hm0 y0 hw0
  refine (netcidr_isZeros.calls k _ _ l0 true w (Kd.C_of_reads (d := (0 : Int)) (h1 := fun _ => rfl) hr0) hc0 h).mono ?_
  rintro e w' ⟨rfl, hd⟩
  exact ⟨rfl, hd.below⟩

/-! ### netcidr_IPv6loopback: function 96 -/
def netcidr_IPv6loopback.f  : Option (List Int) := some (([0, 0, 0, 0, 0, 0, 0, 0, 0, 0, 0, 0, 0, 0, 0, 1] : List Int))
set_option maxHeartbeats 8000000 in
set_option maxRecDepth 100000 in
theorem netcidr_IPv6loopback.calls  (r : List Int) (w : World) (h : netcidr_IPv6loopback.f  = some r) :
    Calls Tryz.prog 96 #[] w fun e w' => ∃ v0_ : Value, e = .returned (v0_) ∧ Kd.R (Kd.int .u8) 5 w' w.heap.size (fun _ => True) v0_ r ∧ Below w.heap.size w w' := by
  have HB := Aside0.mk (Below.refl w.heap.size w)
  have H : (some (([0, 0, 0, 0, 0, 0, 0, 0, 0, 0, 0, 0, 0, 0, 0, 1] : List Int))) = some r := h
  clear h
  obtain ⟨y111, hy111⟩ : ∃ y_ : List Int, y_ = (([0, 0, 0, 0, 0, 0, 0, 0, 0, 0, 0, 0, 0, 0, 0, 1] : List Int)) := ⟨_, rfl⟩
  replace H : (some y111) = some r := by first | (rw [hy111]; with_reducible exact H) | (have H2_ := (Option.bind_some _ _).symm.trans H; rw [hy111]; with_reducible exact H2_) | (have H2_ := (Option.bind_some _ _).symm.trans H; with_reducible exact H2_) | with_reducible exact H | (rw [hy111]; exact H) | exact H
  have Ny111 := Aside0.mk hy111
  clear hy111
  obtain rfl := Option.some.inj H
  go_enter Tryz.func96, Tryz.ntmps96
  go_wp2_with (first | ((with_reducible refine gate_dst (N := 1) rfl ?_); refine Kd.R_lit (Kd.int .u8) _ 5 ?hg (N := 1) ?hd (xs := ([0, 0, 0, 0, 0, 0, 0, 0, 0, 0, 0, 0, 0, 0, 0, 1] : List Int)) (inner := [.int .u8 0, .int .u8 0, .int .u8 0, .int .u8 0, .int .u8 0, .int .u8 0, .int .u8 0, .int .u8 0, .int .u8 0, .int .u8 0, .int .u8 0, .int .u8 0, .int .u8 0, .int .u8 0, .int .u8 0, .int .u8 1]) (ok := fun _ => True) (okp := fun _ => True) ?hr ?hp (fun _ hk => hk) trivial (Below.refl _ _) (Nat.le_refl _) (by simp) ?_; (case hd => rfl); (case hg => rfl); (case hr => first | (go_simp; done) | (go_simp; rfl)); (case hp => exact (Reps.one (show Kd.M (Kd.int .u8) _ _ _ 0 [.int .u8 0] from rfl) (Reps.one (show Kd.M (Kd.int .u8) _ _ _ 0 [.int .u8 0] from rfl) (Reps.one (show Kd.M (Kd.int .u8) _ _ _ 0 [.int .u8 0] from rfl) (Reps.one (show Kd.M (Kd.int .u8) _ _ _ 0 [.int .u8 0] from rfl) (Reps.one (show Kd.M (Kd.int .u8) _ _ _ 0 [.int .u8 0] from rfl) (Reps.one (show Kd.M (Kd.int .u8) _ _ _ 0 [.int .u8 0] from rfl) (Reps.one (show Kd.M (Kd.int .u8) _ _ _ 0 [.int .u8 0] from rfl) (Reps.one (show Kd.M (Kd.int .u8) _ _ _ 0 [.int .u8 0] from rfl) (Reps.one (show Kd.M (Kd.int .u8) _ _ _ 0 [.int .u8 0] from rfl) (Reps.one (show Kd.M (Kd.int .u8) _ _ _ 0 [.int .u8 0] from rfl) (Reps.one (show Kd.M (Kd.int .u8) _ _ _ 0 [.int .u8 0] from rfl) (Reps.one (show Kd.M (Kd.int .u8) _ _ _ 0 [.int .u8 0] from rfl) (Reps.one (show Kd.M (Kd.int .u8) _ _ _ 0 [.int .u8 0] from rfl) (Reps.one (show Kd.M (Kd.int .u8) _ _ _ 0 [.int .u8 0] from rfl) (Reps.one (show Kd.M (Kd.int .u8) _ _ _ 0 [.int .u8 0] from rfl) (Reps.one (show Kd.M (Kd.int .u8) _ _ _ 1 [.int .u8 1] from rfl) (Reps.none _ _)))))))))))))))))); intro v112 w1 ho2 hb hg_ hnew_; clear hg_ hnew_; (first | rw [← Ny111.out] at ho2 | (simp only [Int.reduceToNat] at ho2; rw [← Ny111.out] at ho2)); have n0_ := Aside0.mk (Kd.R_lower ho2 (below_size (by repeat (first | (with_reducible first | exact HB.out | apply below_alloc | apply pw_below_drewN | apply below_drew1) | exact HB.out)))); have n1_ := Aside0.mk (below_step (by repeat (first | (with_reducible first | exact HB.out | apply below_alloc | apply pw_below_drewN | apply below_drew1) | exact HB.out)) hb); clear HB; have HO113 := n0_; have HB := n1_; clear n0_ n1_; clear hb ho2))
  go_ret
  exact ⟨_, by first | rfl | (simp [errW_none, errW_some] <;> rfl) | (simp [*, errW_none, errW_some] <;> rfl), by (with_reducible repeat (first | apply Kd.R_alloc | apply Kd.R_drewN | apply Kd.R_drew)); exact HO113.out, by repeat (first | (with_reducible first | exact HB.out | apply below_alloc | apply pw_below_drewN | apply below_drew1) | exact HB.out)⟩

end Go.Proofs.YtnchgmjeoajmiaaGreatDoor.S
