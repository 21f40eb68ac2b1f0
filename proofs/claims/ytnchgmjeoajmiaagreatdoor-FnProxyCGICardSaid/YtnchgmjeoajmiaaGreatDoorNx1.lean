-- PRINTED by print.py (a twelfth state) out of the translation. Not trusted: Lean checks it.
import Derived.Test.YtnchgmjeoajmiaaGreatDoorNx0
namespace Go.Proofs.YtnchgmjeoajmiaaGreatDoor.N
open Go.RowKit Go.Proofs.YtnchgmjeoajmiaaGreatDoorW.PrintWords Go.Proofs.YtnchgmjeoajmiaaGreatDoorW.PrintLast Go.Proofs.YtnchgmjeoajmiaaGreatDoorW.PrintMore
attribute [local go_sem] max2_int min2_int max_two min_two max_three min_three max_four min_four   -- for this text's walks alone
set_option linter.unusedVariables false
set_option linter.unusedSimpArgs false

/-! ### neturl_zzIndex: function 137 -/
def neturl_zzIndex.l0 : Nat → ByteArray → ByteArray → Int → Option (Int)
  | 0, _, _, _ => none
  | k + 1, x0, x1, x5 => if (wrap64 (x5 + (x1.size : Int))) ≤ (x0.size : Int) then (if 0 ≤ x5 then (if x5 ≤ (wrap64 (x5 + (x1.size : Int))) then (if (x0.extract (x5 : Int).toNat ((wrap64 (x5 + (x1.size : Int))) : Int).toNat).toList = x1.toList then (some x5) else (neturl_zzIndex.l0 k x0 x1 (wrap64 (x5 + 1)))) else (none)) else (none)) else (some (-1))
def neturl_zzIndex.f (k : Nat) (a0 : ByteArray) (a1 : ByteArray) : Option (Int) := neturl_zzIndex.l0 k a0 a1 0
theorem neturl_zzIndex.mono_l : ∀ k, (∀ y0 y1 y2, LeO (neturl_zzIndex.l0 k y0 y1 y2) (neturl_zzIndex.l0 (k + 1) y0 y1 y2))
  | 0 => fun _ _ _ r h => by simp [neturl_zzIndex.l0] at h
  | k + 1 => by
    have ih0 := neturl_zzIndex.mono_l k
    · intro y0 y1 y2
      unfold neturl_zzIndex.l0
      repeat' first
      | (with_reducible exact ih0 _ _ _)
      | (with_reducible exact LeO.refl _)
      | (with_reducible exact LeO.none _)
      | (with_reducible refine LeO.ite ?_ ?_)
      | (with_reducible refine LeO.bind ?_ (fun _ => ?_))
      | exact ih0 _ _ _
      | exact LeO.none _
      | refine LeO.ite ?_ ?_
      | refine LeO.bind ?_ (fun _ => ?_)
theorem neturl_zzIndex.mono : ∀ a0 a1 k, LeO (neturl_zzIndex.f k a0 a1) (neturl_zzIndex.f (k + 1) a0 a1) := by
  intro a0 a1 k
  have ih0 := neturl_zzIndex.mono_l k
  unfold neturl_zzIndex.f
  repeat' first
      | (with_reducible exact ih0 _ _ _)
      | (with_reducible exact LeO.refl _)
      | (with_reducible exact LeO.none _)
      | (with_reducible refine LeO.ite ?_ ?_)
      | (with_reducible refine LeO.bind ?_ (fun _ => ?_))
      | exact ih0 _ _ _
      | exact LeO.none _
      | refine LeO.ite ?_ ?_
      | refine LeO.bind ?_ (fun _ => ?_)
set_option maxHeartbeats 8000000 in
set_option maxRecDepth 100000 in
theorem neturl_zzIndex.calls (k : Nat) (a0 : ByteArray) (a1 : ByteArray) (r : Int) (w : World) (h : neturl_zzIndex.f k a0 a1 = some r) :
    Calls Tryz.prog 137 #[.string a0, .string a1] w fun e w' => e = .returned (.int .i64 r) ∧ Drawn0 w w' := by
  have H : (neturl_zzIndex.l0 k a0 a1 0) = some r := h
  clear h
  have H' := Aside0.mk H
  clear H
  go_enter Tryz.func137, Tryz.ntmps137
  go_wp2
  go_loopg [5] k (fun kq v5 w' => ∃ (x5_1 : Int), v5 = .int .i64 x5_1 ∧ Aside0 (neturl_zzIndex.l0 kq a0 a1 x5_1 = some r) ∧ Aside0 (kq ≤ k) ∧ Drawn0 w w')
  case atStart => exact ⟨(0), (by first | rfl | (simp; done) | (simp [*]; done)), H', ⟨Nat.le_refl _⟩, by repeat (first | exact Drawn0.refl _ | apply Drawn0.step)⟩
  case round =>
    clear H'
    try clear c1
    try clear p2
    obtain ⟨x5_1, rfl, HA, HK1, ⟨m1, rfl⟩⟩ := hrel
    cases gk with
    | zero => exact absurd HA.out (by simp [neturl_zzIndex.l0])
    | succ k1 =>
      have H := HA.out
      clear HA
      simp only [neturl_zzIndex.l0] at H
      by_cases c3 : (wrap64 (x5_1 + (a1.size : Int))) ≤ (a0.size : Int)
      · rw [if_pos c3] at H
        have c3b0 : decide ((wrap64 (x5_1 + (a1.size : Int))) ≤ (a0.size : Int)) = true := decide_eq_true c3
        clear c3
        by_cases c4 : 0 ≤ x5_1
        · rw [if_pos c4] at H
          have c4b0 := eq_true c4
          have c4b1 : decide (0 ≤ x5_1) = true := decide_eq_true c4
          clear c4
          by_cases c5 : x5_1 ≤ (wrap64 (x5_1 + (a1.size : Int)))
          · rw [if_pos c5] at H
            have c5b0 := eq_true c5
            have c5b1 : decide (x5_1 ≤ (wrap64 (x5_1 + (a1.size : Int)))) = true := decide_eq_true c5
            have c6b0 := eq_true (of_decide_eq_true (by first | (with_reducible assumption) | assumption) : (wrap64 (x5_1 + (a1.size : Int))) ≤ (a0.size : Int))
            by_cases c7 : (a0.extract (x5_1 : Int).toNat ((wrap64 (x5_1 + (a1.size : Int))) : Int).toNat).toList = a1.toList
            · rw [if_pos c7] at H
              have c7b0 : ((a0.extract (x5_1 : Int).toNat ((wrap64 (x5_1 + (a1.size : Int))) : Int).toNat).toList == a1.toList) = true := beq_iff_eq.mpr c7
              have c7b1 : ((a0.extract (x5_1 : Int).toNat ((wrap64 (x5_1 + (a1.size : Int))) : Int).toNat).toList != a1.toList) = false := bne_eq_false_iff_eq.mpr c7
              clear c7
              obtain rfl := Option.some.inj H
              go_wp2
              go_ret
              exact ⟨by first | rfl | (simp; done) | (simp [*]; done), by repeat (first | exact Drawn0.refl _ | apply Drawn0.step)⟩
            · rw [if_neg c7] at H
              have c7b0 : ((a0.extract (x5_1 : Int).toNat ((wrap64 (x5_1 + (a1.size : Int))) : Int).toNat).toList == a1.toList) = false := beq_eq_false_iff_ne.mpr c7
              have c7b1 : ((a0.extract (x5_1 : Int).toNat ((wrap64 (x5_1 + (a1.size : Int))) : Int).toNat).toList != a1.toList) = true := bne_iff_ne.mpr c7
              have H' := Aside0.mk H
              clear H
              go_wp2
              go_roundg k1
              case measure => have := HK1.out; omega
              case rel => exact ⟨(wrap64 (x5_1 + 1)), (by first | rfl | (simp; done) | (simp [*]; done)), H', ⟨by have := HK1.out; omega⟩, by repeat (first | exact Drawn0.refl _ | apply Drawn0.step)⟩
          · rw [if_neg c5] at H
            exact absurd H (by simp)
        · rw [if_neg c4] at H
          exact absurd H (by simp)
      · rw [if_neg c3] at H
        have c3b0 : decide ((wrap64 (x5_1 + (a1.size : Int))) ≤ (a0.size : Int)) = false := decide_eq_false c3
        clear c3
        obtain rfl := Option.some.inj H
        go_wp2
        go_ret
        exact ⟨by first | rfl | (simp; done) | (simp [*]; done), by repeat (first | exact Drawn0.refl _ | apply Drawn0.step)⟩

/-! ### neturl_zzCut: function 104 -/
def neturl_zzCut.f (k : Nat) (a0 : ByteArray) (a1 : ByteArray) : Option (ByteArray × ByteArray × Bool) := (neturl_zzIndex.f k a0 a1).bind fun t101 => (if t101 ≥ 0 then (if 0 ≤ t101 then (if t101 ≤ (a0.size : Int) then (if 0 ≤ (wrap64 (t101 + (a1.size : Int))) then (if (wrap64 (t101 + (a1.size : Int))) ≤ (a0.size : Int) then (some (a0.extract 0 (t101 : Int).toNat, a0.extract ((wrap64 (t101 + (a1.size : Int))) : Int).toNat a0.size, true)) else (none)) else (none)) else (none)) else (none)) else (some (a0, (⟨#[]⟩ : ByteArray), false)))
theorem neturl_zzCut.mono : ∀ a0 a1 k, LeO (neturl_zzCut.f k a0 a1) (neturl_zzCut.f (k + 1) a0 a1) := by
  intro a0 a1 k
  unfold neturl_zzCut.f
  repeat' first
      | (with_reducible exact neturl_zzIndex.mono _ _ _)
      | (with_reducible exact LeO.refl _)
      | (with_reducible exact LeO.none _)
      | (with_reducible refine LeO.ite ?_ ?_)
      | (with_reducible refine LeO.bind ?_ (fun _ => ?_))
      | exact neturl_zzIndex.mono _ _ _
      | exact LeO.none _
      | refine LeO.ite ?_ ?_
      | refine LeO.bind ?_ (fun _ => ?_)
set_option maxHeartbeats 8000000 in
set_option maxRecDepth 100000 in
theorem neturl_zzCut.calls (k : Nat) (a0 : ByteArray) (a1 : ByteArray) (r1 : ByteArray) (r2 : ByteArray) (r3 : Bool) (w : World) (h : neturl_zzCut.f k a0 a1 = some (r1, r2, r3)) :
    Calls Tryz.prog 104 #[.string a0, .string a1] w fun e w' => e = .returned (.tuple #[.string r1, .string r2, .bool r3]) ∧ Drawn0 w w' := by
  have H : ((neturl_zzIndex.f k a0 a1).bind fun t101 => (if t101 ≥ 0 then (if 0 ≤ t101 then (if t101 ≤ (a0.size : Int) then (if 0 ≤ (wrap64 (t101 + (a1.size : Int))) then (if (wrap64 (t101 + (a1.size : Int))) ≤ (a0.size : Int) then (some (a0.extract 0 (t101 : Int).toNat, a0.extract ((wrap64 (t101 + (a1.size : Int))) : Int).toNat a0.size, true)) else (none)) else (none)) else (none)) else (none)) else (some (a0, (⟨#[]⟩ : ByteArray), false)))) = some (r1, r2, r3) := h
  clear h
  replace H := Option.bind_eq_some_iff.mp H
  obtain ⟨t101, A30, H⟩ := H
  replace H : (if t101 ≥ 0 then (if 0 ≤ t101 then (if t101 ≤ (a0.size : Int) then (if 0 ≤ (wrap64 (t101 + (a1.size : Int))) then (if (wrap64 (t101 + (a1.size : Int))) ≤ (a0.size : Int) then (some (a0.extract 0 (t101 : Int).toNat, a0.extract ((wrap64 (t101 + (a1.size : Int))) : Int).toNat a0.size, true)) else (none)) else (none)) else (none)) else (none)) else (some (a0, (⟨#[]⟩ : ByteArray), false))) = some (r1, r2, r3) := H
  have A3 := Aside0.mk A30
  clear A30
  by_cases c4 : t101 ≥ 0
  · rw [if_pos c4] at H
    have c4b0 : decide (0 ≤ t101) = true := decide_eq_true c4
    clear c4
    by_cases c5 : 0 ≤ t101
    · rw [if_pos c5] at H
      have c5b0 := eq_true c5
      have c5b1 : decide (0 ≤ t101) = true := decide_eq_true c5
      clear c5
      by_cases c6 : t101 ≤ (a0.size : Int)
      · rw [if_pos c6] at H
        have c6b0 := eq_true c6
        have c6b1 : decide (t101 ≤ (a0.size : Int)) = true := decide_eq_true c6
        clear c6
        obtain ⟨ji7, hji7⟩ : ∃ j_ : Int, (wrap64 (t101 + (a1.size : Int))) = j_ := ⟨_, rfl⟩
        replace H : (if 0 ≤ (ji7) then (if (ji7) ≤ (a0.size : Int) then (some (a0.extract 0 (t101 : Int).toNat, a0.extract ((ji7) : Int).toNat a0.size, true)) else (none)) else (none)) = some (r1, r2, r3) := by first | (rw [hji7] at H; exact H) | (simp only [hji7] at H ⊢; exact H)
        (try rw [hji7] at A3)
        have hji7w : (IntKind.i64.wrap (t101 + (a1.size : Int))) = ji7 := (i64_w _).trans hji7
        by_cases c8 : 0 ≤ (ji7)
        · rw [if_pos c8] at H
          have c8b0 := eq_true c8
          have c8b1 : decide (0 ≤ (ji7)) = true := decide_eq_true c8
          clear c8
          by_cases c9 : (ji7) ≤ (a0.size : Int)
          · rw [if_pos c9] at H
            have c9b0 := eq_true c9
            have c9b1 : decide ((ji7) ≤ (a0.size : Int)) = true := decide_eq_true c9
            clear c9
            simp only [Option.some.injEq, Prod.mk.injEq] at H
            obtain ⟨rfl, rfl, rfl⟩ := H
            go_enter Tryz.func104, Tryz.ntmps104
            go_wp2_with (first | (go_at_call 137; (with_reducible refine (neturl_zzIndex.calls k a0 a1 t101 _ A3.out).mono ?_); rintro e w' ⟨rfl, ⟨nd, rfl⟩⟩; (try first | exact ⟨rfl, _, World.drewN_drewN _ _ _⟩ | exact ⟨rfl, _, Eq.trans (World.drewN_drewN _ _ _) (congrArg (World.drewN _) (Nat.add_assoc _ _ _))⟩)))
            repeat (go_quiet (first | (go_at_call 137; (with_reducible refine (neturl_zzIndex.calls k a0 a1 t101 _ A3.out).mono ?_); rintro e w' ⟨rfl, ⟨nd, rfl⟩⟩; (try first | exact ⟨rfl, _, World.drewN_drewN _ _ _⟩ | exact ⟨rfl, _, Eq.trans (World.drewN_drewN _ _ _) (congrArg (World.drewN _) (Nat.add_assoc _ _ _))⟩))); try go_wp2_with (first | (go_at_call 137; (with_reducible refine (neturl_zzIndex.calls k a0 a1 t101 _ A3.out).mono ?_); rintro e w' ⟨rfl, ⟨nd, rfl⟩⟩; (try first | exact ⟨rfl, _, World.drewN_drewN _ _ _⟩ | exact ⟨rfl, _, Eq.trans (World.drewN_drewN _ _ _) (congrArg (World.drewN _) (Nat.add_assoc _ _ _))⟩))))
            go_ret3
            exact ⟨by first | rfl | (simp; done) | (simp only [← hji7] <;> (first | rfl | simp)) | (simp [*]; done), by repeat (first | exact Drawn0.refl _ | apply Drawn0.step)⟩
          · rw [if_neg c9] at H
            exact absurd H (by simp)
        · rw [if_neg c8] at H
          exact absurd H (by simp)
      · rw [if_neg c6] at H
        exact absurd H (by simp)
    · rw [if_neg c5] at H
      exact absurd H (by simp)
  · rw [if_neg c4] at H
    have c4b0 : decide (0 ≤ t101) = false := decide_eq_false c4
    clear c4
    simp only [Option.some.injEq, Prod.mk.injEq] at H
    obtain ⟨rfl, rfl, rfl⟩ := H
    go_enter Tryz.func104, Tryz.ntmps104
    go_wp2_with (first | (go_at_call 137; (with_reducible refine (neturl_zzIndex.calls k a0 a1 t101 _ A3.out).mono ?_); rintro e w' ⟨rfl, ⟨nd, rfl⟩⟩; (try first | exact ⟨rfl, _, World.drewN_drewN _ _ _⟩ | exact ⟨rfl, _, Eq.trans (World.drewN_drewN _ _ _) (congrArg (World.drewN _) (Nat.add_assoc _ _ _))⟩)))
    repeat (go_quiet (first | (go_at_call 137; (with_reducible refine (neturl_zzIndex.calls k a0 a1 t101 _ A3.out).mono ?_); rintro e w' ⟨rfl, ⟨nd, rfl⟩⟩; (try first | exact ⟨rfl, _, World.drewN_drewN _ _ _⟩ | exact ⟨rfl, _, Eq.trans (World.drewN_drewN _ _ _) (congrArg (World.drewN _) (Nat.add_assoc _ _ _))⟩))); try go_wp2_with (first | (go_at_call 137; (with_reducible refine (neturl_zzIndex.calls k a0 a1 t101 _ A3.out).mono ?_); rintro e w' ⟨rfl, ⟨nd, rfl⟩⟩; (try first | exact ⟨rfl, _, World.drewN_drewN _ _ _⟩ | exact ⟨rfl, _, Eq.trans (World.drewN_drewN _ _ _) (congrArg (World.drewN _) (Nat.add_assoc _ _ _))⟩))))
    go_ret3
    exact ⟨by first | rfl | (simp; done) | (simp [*]; done), by repeat (first | exact Drawn0.refl _ | apply Drawn0.step)⟩

/-! ### neturl_zzContains: function 142 -/
def neturl_zzContains.f (k : Nat) (a0 : ByteArray) (a1 : ByteArray) : Option (Bool) := (neturl_zzIndex.f k a0 a1).bind fun t102 => (some (decide (t102 ≥ 0)))
theorem neturl_zzContains.mono : ∀ a0 a1 k, LeO (neturl_zzContains.f k a0 a1) (neturl_zzContains.f (k + 1) a0 a1) := by
  intro a0 a1 k
  unfold neturl_zzContains.f
  repeat' first
      | (with_reducible exact neturl_zzIndex.mono _ _ _)
      | (with_reducible exact LeO.refl _)
      | (with_reducible exact LeO.none _)
      | (with_reducible refine LeO.ite ?_ ?_)
      | (with_reducible refine LeO.bind ?_ (fun _ => ?_))
      | exact neturl_zzIndex.mono _ _ _
      | exact LeO.none _
      | refine LeO.ite ?_ ?_
      | refine LeO.bind ?_ (fun _ => ?_)
set_option maxHeartbeats 8000000 in
set_option maxRecDepth 100000 in
theorem neturl_zzContains.calls (k : Nat) (a0 : ByteArray) (a1 : ByteArray) (r : Bool) (w : World) (h : neturl_zzContains.f k a0 a1 = some r) :
    Calls Tryz.prog 142 #[.string a0, .string a1] w fun e w' => e = .returned (.bool r) ∧ Drawn0 w w' := by
  have H : ((neturl_zzIndex.f k a0 a1).bind fun t102 => (some (decide (t102 ≥ 0)))) = some r := h
  clear h
  replace H := Option.bind_eq_some_iff.mp H
  obtain ⟨t102, A30, H⟩ := H
  replace H : (some (decide (t102 ≥ 0))) = some r := H
  have A3 := Aside0.mk A30
  clear A30
  obtain rfl := Option.some.inj H
  go_enter Tryz.func142, Tryz.ntmps142
  go_wp2_with (first | ((with_reducible refine gate_callee (f := 137) rfl ?_); refine goesL_ (some 7) rfl rfl Tryz.func137 (by kernel_rfl) rfl #[.string a0, .string a1] rfl (by (try simp only [List.map_toArray, List.map_cons, List.map_nil]); first | done | rfl | (simp only [List.length_drop, List.length_take]; rfl)) ?_; (with_reducible refine (neturl_zzIndex.calls k a0 a1 t102 _ A3.out).mono ?_); rintro e w' ⟨rfl, ⟨nd, rfl⟩⟩; refine ⟨_, rfl, ?_⟩))
  go_ret
  exact ⟨by first | rfl | (simp; done) | (simp [*]; done), by repeat (first | exact Drawn0.refl _ | apply Drawn0.step)⟩

/-- THE ONE PURE STATEMENT of neturl_zzContains: yours. -/
def neturl_zzContains.Pure : Prop := ∀ (a0 : ByteArray) (a1 : ByteArray), a0.size ≤ 140737488351232 → a1.size ≤ 140737488351232 → ∃ k, neturl_zzContains.f k a0 a1 = some true
theorem neturl_zzContains.walk (P : neturl_zzContains.Pure) (a0 : ByteArray) (a1 : ByteArray) (w : World) (w0 : a0.size ≤ 140737488351232) (w1 : a1.size ≤ 140737488351232) :
    Calls Tryz.prog 142 #[.string a0, .string a1] w fun e w' => e = .returned (.bool true) ∧ Below w.heap.size w w' := by
  obtain ⟨k, h⟩ := P a0 a1 w0 w1
  refine (neturl_zzContains.calls k a0 a1 true w h).mono ?_
  rintro e w' ⟨rfl, hd⟩
  exact ⟨rfl, hd.below⟩

/-! ### neturl_stringContainsCTLByte: function 138 -/
def neturl_stringContainsCTLByte.l0 : Nat → ByteArray → Int → Option (Bool)
  | 0, _, _ => none
  | k + 1, x0, x3 => if x3 < (x0.size : Int) then (if 0 ≤ x3 then (if (bt x0 x3) < 32 then (some true) else (if (bt x0 x3) = 127 then (some true) else (neturl_stringContainsCTLByte.l0 k x0 (wrap64 (x3 + 1))))) else (none)) else (some false)
def neturl_stringContainsCTLByte.f (k : Nat) (a0 : ByteArray) : Option (Bool) := neturl_stringContainsCTLByte.l0 k a0 0
theorem neturl_stringContainsCTLByte.mono_l : ∀ k, (∀ y0 y1, LeO (neturl_stringContainsCTLByte.l0 k y0 y1) (neturl_stringContainsCTLByte.l0 (k + 1) y0 y1))
  | 0 => fun _ _ r h => by simp [neturl_stringContainsCTLByte.l0] at h
  | k + 1 => by
    have ih0 := neturl_stringContainsCTLByte.mono_l k
    · intro y0 y1
      unfold neturl_stringContainsCTLByte.l0
      repeat' first
      | (with_reducible exact ih0 _ _)
      | (with_reducible exact LeO.refl _)
      | (with_reducible exact LeO.none _)
      | (with_reducible refine LeO.ite ?_ ?_)
      | (with_reducible refine LeO.bind ?_ (fun _ => ?_))
      | exact ih0 _ _
      | exact LeO.none _
      | refine LeO.ite ?_ ?_
      | refine LeO.bind ?_ (fun _ => ?_)
theorem neturl_stringContainsCTLByte.mono : ∀ a0 k, LeO (neturl_stringContainsCTLByte.f k a0) (neturl_stringContainsCTLByte.f (k + 1) a0) := by
  intro a0 k
  have ih0 := neturl_stringContainsCTLByte.mono_l k
  unfold neturl_stringContainsCTLByte.f
  repeat' first
      | (with_reducible exact ih0 _ _)
      | (with_reducible exact LeO.refl _)
      | (with_reducible exact LeO.none _)
      | (with_reducible refine LeO.ite ?_ ?_)
      | (with_reducible refine LeO.bind ?_ (fun _ => ?_))
      | exact ih0 _ _
      | exact LeO.none _
      | refine LeO.ite ?_ ?_
      | refine LeO.bind ?_ (fun _ => ?_)
set_option maxHeartbeats 8000000 in
set_option maxRecDepth 100000 in
theorem neturl_stringContainsCTLByte.calls (k : Nat) (a0 : ByteArray) (r : Bool) (w : World) (h : neturl_stringContainsCTLByte.f k a0 = some r) :
    Calls Tryz.prog 138 #[.string a0] w fun e w' => e = .returned (.bool r) ∧ Drawn0 w w' := by
  have H : (neturl_stringContainsCTLByte.l0 k a0 0) = some r := h
  clear h
  have H' := Aside0.mk H
  clear H
  go_enter Tryz.func138, Tryz.ntmps138
  go_wp2
  go_loopg [3] k (fun kq v3 w' => ∃ (x3_1 : Int), v3 = .int .i64 x3_1 ∧ Aside0 (neturl_stringContainsCTLByte.l0 kq a0 x3_1 = some r) ∧ Aside0 (kq ≤ k) ∧ Drawn0 w w')
  case atStart => exact ⟨(0), (by first | rfl | (simp; done) | (simp [*]; done)), H', ⟨Nat.le_refl _⟩, by repeat (first | exact Drawn0.refl _ | apply Drawn0.step)⟩
  case round =>
    clear H'
    try clear c1
    obtain ⟨x3_1, rfl, HA, HK1, ⟨m1, rfl⟩⟩ := hrel
    cases gk with
    | zero => exact absurd HA.out (by simp [neturl_stringContainsCTLByte.l0])
    | succ k1 =>
      have H := HA.out
      clear HA
      simp only [neturl_stringContainsCTLByte.l0] at H
      by_cases c2 : x3_1 < (a0.size : Int)
      · rw [if_pos c2] at H
        have c2b0 : decide (x3_1 < (a0.size : Int)) = true := decide_eq_true c2
        clear c2
        by_cases c3 : 0 ≤ x3_1
        · rw [if_pos c3] at H
          have c3b0 : decide (0 ≤ x3_1) = true := decide_eq_true c3
          clear c3
          by_cases c5 : (bt a0 x3_1) < 32
          · rw [if_pos c5] at H
            have c5b0 : decide ((bt a0 x3_1) < 32) = true := decide_eq_true c5
            clear c5
            obtain rfl := Option.some.inj H
            have p4 : 0 ≤ (x3_1 : Int) := of_decide_eq_true (by first | (with_reducible assumption) | assumption)
            have q4 : x3_1 < (a0.size : Int) := of_decide_eq_true (by first | (with_reducible assumption) | assumption)
            have hx4 := bt_at a0 x3_1
            replace p4 := eq_true p4
            replace q4 := eq_true q4
            go_wp2
            go_ret
            exact ⟨by first | rfl | (simp; done) | (simp [*]; done), by repeat (first | exact Drawn0.refl _ | apply Drawn0.step)⟩
          · rw [if_neg c5] at H
            have c5b0 : decide ((bt a0 x3_1) < 32) = false := decide_eq_false c5
            clear c5
            by_cases c6 : (bt a0 x3_1) = 127
            · rw [if_pos c6] at H
              have c6b0 : ((bt a0 x3_1) == 127) = true := beq_iff_eq.mpr c6
              have c6b1 : ((bt a0 x3_1) != 127) = false := bne_eq_false_iff_eq.mpr c6
              clear c6
              obtain rfl := Option.some.inj H
              have p4 : 0 ≤ (x3_1 : Int) := of_decide_eq_true (by first | (with_reducible assumption) | assumption)
              have q4 : x3_1 < (a0.size : Int) := of_decide_eq_true (by first | (with_reducible assumption) | assumption)
              have hx4 := bt_at a0 x3_1
              replace p4 := eq_true p4
              replace q4 := eq_true q4
              go_wp2
              go_ret
              exact ⟨by first | rfl | (simp; done) | (simp [*]; done), by repeat (first | exact Drawn0.refl _ | apply Drawn0.step)⟩
            · rw [if_neg c6] at H
              have c6b0 : ((bt a0 x3_1) == 127) = false := beq_eq_false_iff_ne.mpr c6
              have c6b1 : ((bt a0 x3_1) != 127) = true := bne_iff_ne.mpr c6
              have H' := Aside0.mk H
              clear H
              have p4 : 0 ≤ (x3_1 : Int) := of_decide_eq_true (by first | (with_reducible assumption) | assumption)
              have q4 : x3_1 < (a0.size : Int) := of_decide_eq_true (by first | (with_reducible assumption) | assumption)
              have hx4 := bt_at a0 x3_1
              replace p4 := eq_true p4
              replace q4 := eq_true q4
              go_wp2
              go_roundg k1
              case measure => have := HK1.out; omega
              case rel => exact ⟨(wrap64 (x3_1 + 1)), (by first | rfl | (simp; done) | (simp [*]; done)), H', ⟨by have := HK1.out; omega⟩, by repeat (first | exact Drawn0.refl _ | apply Drawn0.step)⟩
        · rw [if_neg c3] at H
          exact absurd H (by simp)
      · rw [if_neg c2] at H
        have c2b0 : decide (x3_1 < (a0.size : Int)) = false := decide_eq_false c2
        clear c2
        obtain rfl := Option.some.inj H
        go_wp2
        go_ret
        exact ⟨by first | rfl | (simp; done) | (simp [*]; done), by repeat (first | exact Drawn0.refl _ | apply Drawn0.step)⟩

/-- THE ONE PURE STATEMENT of neturl_stringContainsCTLByte: yours. -/
def neturl_stringContainsCTLByte.Pure : Prop := ∀ (a0 : ByteArray), a0.size ≤ 140737488351232 → ∃ k, neturl_stringContainsCTLByte.f k a0 = some true
theorem neturl_stringContainsCTLByte.walk (P : neturl_stringContainsCTLByte.Pure) (a0 : ByteArray) (w : World) (w0 : a0.size ≤ 140737488351232) :
    Calls Tryz.prog 138 #[.string a0] w fun e w' => e = .returned (.bool true) ∧ Below w.heap.size w w' := by
  obtain ⟨k, h⟩ := P a0 w0
  refine (neturl_stringContainsCTLByte.calls k a0 true w h).mono ?_
  rintro e w' ⟨rfl, hd⟩
  exact ⟨rfl, hd.below⟩

end Go.Proofs.YtnchgmjeoajmiaaGreatDoor.N
