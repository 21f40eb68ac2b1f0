/- The walks of the setting and of the door UseProxy. -/
import Derived.Test.YtnchgmjeoajmiaaGreatDoorNa
import Derived.Deep.AppendLies
import Derived.Test.YtnchgmjeoajmiaaGreatDoorShelf
import Derived.Test.YtnchgmjeoajmiaaGreatDoorPx2
import Derived.Great.Walk
import Derived.Handy
/-! Conf -/
namespace Go.Proofs.YtnchgmjeoajmiaaGreatDoor
open Go.RowKit Go.Proofs.YtnchgmjeoajmiaaGreatDoorW.PrintWords
set_option linter.unusedSimpArgs false
set_option linter.unusedVariables false

/-- A matcher of the list. -/
inductive Mt where
  | all
  | net (l m : List Int)
  | ip (a b c d : Int) (port : ByteArray)
  | dom (host port : ByteArray) (mh : Bool)

/-- How a matcher lies in the heap. -/
def MtV (w : World) : Mt → Value → Prop
  | .all, v => v = .iface 86 (.agg #[])
  | .net l m, v => ∃ q gi gm, v = .iface 91 (.agg #[.pointer (some ⟨q, 0, none⟩)]) ∧ w.heap[q]? = some (.cells #[.slice (some ⟨gi, 0, none⟩) 4 4, .slice (some ⟨gm, 0, none⟩) 4 4] 143 (0, 0)) ∧
      w.heap[gi]? = some (.cells (l.map (Value.int .u8)).toArray 5 (0, 0)) ∧ w.heap[gm]? = some (.cells (m.map (Value.int .u8)).toArray 5 (0, 0))
  | .ip a b c d port, v => ∃ g, v = .iface 96 (.agg #[.slice (some ⟨g, 0, none⟩) 16 16, .string port]) ∧ w.heap[g]? = some (.cells (([0, 0, 0, 0, 0, 0, 0, 0, 0, 0, 255, 255, a, b, c, d] : List Int).map (Value.int .u8)).toArray 139 (0, 0))
  | .dom host port mh, v => v = .iface 100 (.agg #[.string host, .string port, .bool mh])

/-- All blocks of cells but the lists of matchers and the setting itself stay as they are. -/
def Kp (w w' : World) : Prop := ∀ (k : Nat) (xs : Array Value) (t : TypeId), w.heap[k]? = some (.cells xs t (0, 0)) → t ≠ 79 → t ≠ 77 → w'.heap[k]? = some (.cells xs t (0, 0))
theorem Kp.refl (w : World) : Kp w w := fun _ _ _ h _ _ => h
theorem Kp.trans {a b c : World} (h : Kp a b) (k : Kp b c) : Kp a c := fun i xs t hh h1 h2 => k i xs t (h i xs t hh h1 h2) h1 h2
theorem Kp.below {w w' : World} (h : Below w.heap.size w w') : Kp w w' := fun k xs t hh _ _ => (h.block k (blk_lt hh)).trans hh
theorem Kp.set {w : World} {cb : Nat} {cs : Array Value} (h : w.heap[cb]? = some (.cells cs 77 (0, 0))) (i : Nat) (u : Value) : Kp w (w.setCell ⟨cb, i, none⟩ u) := fun k xs t hh _ h2 => by
  have hne : k ≠ cb := by
    rintro rfl
    rw [h] at hh
    injection hh with hh
    injection hh with _ hh _
    exact h2 hh.symm
  rw [Below.heap_setCell _ _ _ _ hne]
  exact hh
theorem Kp.grown {w w' : World} {row : Option Nat} (hg : w.grownBy w' row) (ht : ∀ g, row = some g → ∃ cs, w.heap[g]? = some (.cells cs 79 (0, 0))) : Kp w w' := fun k xs t hh h1 _ => by
  rw [hg.block k (blk_lt hh) (fun e => by
    obtain ⟨cs, hc⟩ := ht k e.symm
    rw [hc] at hh
    injection hh with hh
    injection hh with _ hh _
    exact h1 hh.symm)]
  exact hh

theorem MtV.kept {w w' : World} (hk : Kp w w') : ∀ {m : Mt} {v : Value}, MtV w m v → MtV w' m v
  | .all, _, h => h
  | .net _ _, _, ⟨q, gi, gm, hv, h1, h2, h3⟩ => ⟨q, gi, gm, hv, hk _ _ _ h1 (by decide) (by decide), hk _ _ _ h2 (by decide) (by decide), hk _ _ _ h3 (by decide) (by decide)⟩
  | .ip _ _ _ _ _, _, ⟨g, hv, h1⟩ => ⟨g, hv, hk _ _ _ h1 (by decide) (by decide)⟩
  | .dom _ _ _, _, h => h

/-- A list of matchers lies in a slice of the call's own. -/
def Ms (w : World) (B : Nat) (v : Value) (ms : List Mt) : Prop := ∃ xs, w.ownsRow B 79 1 v ms.length xs ∧ ∀ (j : Nat) m, ms[j]? = some m → ∃ u, xs[j]? = some u ∧ MtV w m u

theorem Ms.typed {w : World} {B : Nat} {v : Value} {ms : List Mt} (h : Ms w B v ms) (g : Nat) (hg : v.ownBlock = some g) : B ≤ g ∧ ∃ cs, w.heap[g]? = some (.cells cs 79 (0, 0)) := by
  obtain ⟨xs, ⟨_, ho⟩, _⟩ := h
  rcases ho with ⟨rfl, _⟩ | ⟨g', cap, cur, rfl, hb, hh, _⟩
  · simp [Value.ownBlock] at hg
  · simp only [Value.ownBlock, Option.some.injEq] at hg
    subst hg
    exact ⟨hb, cur, hh⟩

theorem Ms.nil (w : World) (B : Nat) : Ms w B (.slice none 0 0) [] := ⟨[], World.ownsRow_nil _ _ _ _, fun j m h => by simp at h⟩

/-- Kept where its own block is kept. -/
theorem Ms.kept {w w' : World} {B : Nat} {v : Value} {ms : List Mt} (h : Ms w B v ms) (hk : Kp w w') (hb : ∀ g, v.ownBlock = some g → w'.heap[g]? = w.heap[g]?) : Ms w' B v ms := by
  obtain ⟨xs, ⟨hl, ho⟩, hm⟩ := h
  refine ⟨xs, ⟨hl, ?_⟩, fun j m hj => ?_⟩
  · rcases ho with ho | ⟨g, cap, cur, rfl, hB, hh, hr⟩
    · exact .inl ho
    · exact .inr ⟨g, cap, cur, rfl, hB, (hb g rfl).trans hh, hr⟩
  · obtain ⟨u, h1, h2⟩ := hm j m hj
    exact ⟨u, h1, h2.kept hk⟩

/-- One matcher appended. -/
theorem Ms.snoc {w' : World} {B : Nat} {v' : Value} {ms : List Mt} {xs : List Value} {m : Mt} {u : Value} (hm : ∀ (j : Nat) m, ms[j]? = some m → ∃ u, xs[j]? = some u ∧ MtV w' m u) (hl : xs.length = ms.length)
    (ho : w'.ownsRow B 79 1 v' (ms.length + 1) (xs ++ [u])) (hu : MtV w' m u) : Ms w' B v' (ms ++ [m]) := by
  refine ⟨xs ++ [u], by simpa using ho, fun j m' hj => ?_⟩
  rcases Nat.lt_or_ge j ms.length with hlt | hge
  · rw [List.getElem?_append_left hlt] at hj
    obtain ⟨u', h1, h2⟩ := hm j m' hj
    exact ⟨u', by rw [List.getElem?_append_left (by omega)]; exact h1, h2⟩
  · have : j = ms.length := by
      have := (List.getElem?_eq_some_iff.1 hj).1
      simp at this
      omega
    subst this
    simp only [List.getElem?_concat_length, Option.some.injEq] at hj
    subst hj
    exact ⟨u, by rw [← hl]; simp, hu⟩

/-- The setting with its two lists. -/
def CF (B cb : Nat) (x0 x1 x2 x3 x4 x5 : Value) (ips doms : List Mt) (w : World) : Prop :=
  ∃ vi vd, w.heap[cb]? = some (.cells #[x0, x1, x2, x3, x4, x5, vi, vd] 77 (0, 0)) ∧ Ms w B vi ips ∧ Ms w B vd doms ∧ (∀ g, vi.ownBlock = some g → vd.ownBlock ≠ some g)

theorem CF.below {B cb : Nat} {x0 x1 x2 x3 x4 x5 : Value} {ips doms : List Mt} {w w' : World} (h : CF B cb x0 x1 x2 x3 x4 x5 ips doms w) (hb : Below w.heap.size w w') : CF B cb x0 x1 x2 x3 x4 x5 ips doms w' := by
  obtain ⟨vi, vd, h0, h1, h2, h3⟩ := h
  refine ⟨vi, vd, (hb.block cb (blk_lt h0)).trans h0, h1.kept (Kp.below hb) (fun g hg => ?_), h2.kept (Kp.below hb) (fun g hg => ?_), h3⟩
  · obtain ⟨_, cs, hc⟩ := h1.typed g hg
    exact hb.block g (blk_lt hc)
  · obtain ⟨_, cs, hc⟩ := h2.typed g hg
    exact hb.block g (blk_lt hc)

/-! ### The loop's frame -/
def firstLoop : Code → Option Code
  | .loop c => some c
  | .seq a b => match firstLoop a with
    | some c => some c
    | none => firstLoop b
  | .block _ c => firstLoop c
  | .scope c => firstLoop c
  | .cond _ a b => match firstLoop a with
    | some c => some c
    | none => firstLoop b
  | _ => none
noncomputable def initBody : Code := ((Tryz.f47.body.bind firstLoop).getD .skip)

set_option maxRecDepth 1000000 in
def InitF (cb g n cap i : Nat) (u : Nat → Value) : Act := ⟨#[.pointer (some ⟨cb, 0, none⟩), u 1, u 2, u 3, u 4, u 5, u 6, u 7, u 8, u 9, u 10, u 11, u 12, u 13, u 14, u 15, u 16, u 17, u 18, u 19, u 20, u 21, u 22, u 23, u 24, u 25, u 26, u 27, u 28, u 29, u 30, u 31, u 32, u 33, u 34, u 35, u 36, u 37, u 38, u 39, u 40, u 41, u 42, u 43, u 44, u 45, u 46, u 47, u 48, u 49, u 50, u 51, u 52, .slice (some ⟨g, 0, none⟩) n cap, .int .i64 (n : Int), .int .i64 (i : Int), u 56, u 57, u 58, u 59, u 60, u 61, u 62, u 63, u 64, u 65, u 66, u 67, u 68, u 69, u 70, u 71, u 72, u 73, u 74, u 75, u 76, u 77, u 78, u 79, u 80, u 81, u 82, u 83, u 84, u 85, u 86, u 87, u 88, u 89, u 90, u 91, u 92, u 93, u 94, u 95, u 96, u 97, u 98, u 99, u 100, u 101, u 102, u 103, u 104, u 105, u 106, u 107, u 108, u 109, u 110, u 111, u 112, u 113, u 114, u 115, u 116, u 117, u 118, u 119, u 120, u 121, u 122, u 123, u 124, u 125, u 126, u 127, u 128, u 129, u 130, u 131, u 132, u 133, u 134, u 135, u 136, u 137, u 138, u 139, u 140, u 141, u 142, u 143, u 144, u 145, u 146, u 147, u 148, u 149, u 150, u 151, u 152, u 153, u 154, u 155, u 156, u 157, u 158, u 159, u 160, u 161, u 162, u 163, u 164, u 165, u 166, u 167, u 168, u 169, u 170, u 171, u 172, u 173, u 174, u 175, u 176, u 177, u 178], []⟩
def IvF (cb g n cap i : Nat) (a : Act) : Prop := ∃ u, a = InitF cb g n cap i u
set_option maxRecDepth 1000000 in
theorem IvF.mk (cb g n cap i : Nat) (t1 t2 t3 t4 t5 t6 t7 t8 t9 t10 t11 t12 t13 t14 t15 t16 t17 t18 t19 t20 t21 t22 t23 t24 t25 t26 t27 t28 t29 t30 t31 t32 t33 t34 t35 t36 t37 t38 t39 t40 t41 t42 t43 t44 t45 t46 t47 t48 t49 t50 t51 t52 t56 t57 t58 t59 t60 t61 t62 t63 t64 t65 t66 t67 t68 t69 t70 t71 t72 t73 t74 t75 t76 t77 t78 t79 t80 t81 t82 t83 t84 t85 t86 t87 t88 t89 t90 t91 t92 t93 t94 t95 t96 t97 t98 t99 t100 t101 t102 t103 t104 t105 t106 t107 t108 t109 t110 t111 t112 t113 t114 t115 t116 t117 t118 t119 t120 t121 t122 t123 t124 t125 t126 t127 t128 t129 t130 t131 t132 t133 t134 t135 t136 t137 t138 t139 t140 t141 t142 t143 t144 t145 t146 t147 t148 t149 t150 t151 t152 t153 t154 t155 t156 t157 t158 t159 t160 t161 t162 t163 t164 t165 t166 t167 t168 t169 t170 t171 t172 t173 t174 t175 t176 t177 t178 : Value) : IvF cb g n cap i ⟨#[.pointer (some ⟨cb, 0, none⟩), t1, t2, t3, t4, t5, t6, t7, t8, t9, t10, t11, t12, t13, t14, t15, t16, t17, t18, t19, t20, t21, t22, t23, t24, t25, t26, t27, t28, t29, t30, t31, t32, t33, t34, t35, t36, t37, t38, t39, t40, t41, t42, t43, t44, t45, t46, t47, t48, t49, t50, t51, t52, .slice (some ⟨g, 0, none⟩) n cap, .int .i64 (n : Int), .int .i64 (i : Int), t56, t57, t58, t59, t60, t61, t62, t63, t64, t65, t66, t67, t68, t69, t70, t71, t72, t73, t74, t75, t76, t77, t78, t79, t80, t81, t82, t83, t84, t85, t86, t87, t88, t89, t90, t91, t92, t93, t94, t95, t96, t97, t98, t99, t100, t101, t102, t103, t104, t105, t106, t107, t108, t109, t110, t111, t112, t113, t114, t115, t116, t117, t118, t119, t120, t121, t122, t123, t124, t125, t126, t127, t128, t129, t130, t131, t132, t133, t134, t135, t136, t137, t138, t139, t140, t141, t142, t143, t144, t145, t146, t147, t148, t149, t150, t151, t152, t153, t154, t155, t156, t157, t158, t159, t160, t161, t162, t163, t164, t165, t166, t167, t168, t169, t170, t171, t172, t173, t174, t175, t176, t177, t178], []⟩ :=
  ⟨fun j => match j with
    | 1 => t1
    | 2 => t2
    | 3 => t3
    | 4 => t4
    | 5 => t5
    | 6 => t6
    | 7 => t7
    | 8 => t8
    | 9 => t9
    | 10 => t10
    | 11 => t11
    | 12 => t12
    | 13 => t13
    | 14 => t14
    | 15 => t15
    | 16 => t16
    | 17 => t17
    | 18 => t18
    | 19 => t19
    | 20 => t20
    | 21 => t21
    | 22 => t22
    | 23 => t23
    | 24 => t24
    | 25 => t25
    | 26 => t26
    | 27 => t27
    | 28 => t28
    | 29 => t29
    | 30 => t30
    | 31 => t31
    | 32 => t32
    | 33 => t33
    | 34 => t34
    | 35 => t35
    | 36 => t36
    | 37 => t37
    | 38 => t38
    | 39 => t39
    | 40 => t40
    | 41 => t41
    | 42 => t42
    | 43 => t43
    | 44 => t44
    | 45 => t45
    | 46 => t46
    | 47 => t47
    | 48 => t48
    | 49 => t49
    | 50 => t50
    | 51 => t51
    | 52 => t52
    | 56 => t56
    | 57 => t57
    | 58 => t58
    | 59 => t59
    | 60 => t60
    | 61 => t61
    | 62 => t62
    | 63 => t63
    | 64 => t64
    | 65 => t65
    | 66 => t66
    | 67 => t67
    | 68 => t68
    | 69 => t69
    | 70 => t70
    | 71 => t71
    | 72 => t72
    | 73 => t73
    | 74 => t74
    | 75 => t75
    | 76 => t76
    | 77 => t77
    | 78 => t78
    | 79 => t79
    | 80 => t80
    | 81 => t81
    | 82 => t82
    | 83 => t83
    | 84 => t84
    | 85 => t85
    | 86 => t86
    | 87 => t87
    | 88 => t88
    | 89 => t89
    | 90 => t90
    | 91 => t91
    | 92 => t92
    | 93 => t93
    | 94 => t94
    | 95 => t95
    | 96 => t96
    | 97 => t97
    | 98 => t98
    | 99 => t99
    | 100 => t100
    | 101 => t101
    | 102 => t102
    | 103 => t103
    | 104 => t104
    | 105 => t105
    | 106 => t106
    | 107 => t107
    | 108 => t108
    | 109 => t109
    | 110 => t110
    | 111 => t111
    | 112 => t112
    | 113 => t113
    | 114 => t114
    | 115 => t115
    | 116 => t116
    | 117 => t117
    | 118 => t118
    | 119 => t119
    | 120 => t120
    | 121 => t121
    | 122 => t122
    | 123 => t123
    | 124 => t124
    | 125 => t125
    | 126 => t126
    | 127 => t127
    | 128 => t128
    | 129 => t129
    | 130 => t130
    | 131 => t131
    | 132 => t132
    | 133 => t133
    | 134 => t134
    | 135 => t135
    | 136 => t136
    | 137 => t137
    | 138 => t138
    | 139 => t139
    | 140 => t140
    | 141 => t141
    | 142 => t142
    | 143 => t143
    | 144 => t144
    | 145 => t145
    | 146 => t146
    | 147 => t147
    | 148 => t148
    | 149 => t149
    | 150 => t150
    | 151 => t151
    | 152 => t152
    | 153 => t153
    | 154 => t154
    | 155 => t155
    | 156 => t156
    | 157 => t157
    | 158 => t158
    | 159 => t159
    | 160 => t160
    | 161 => t161
    | 162 => t162
    | 163 => t163
    | 164 => t164
    | 165 => t165
    | 166 => t166
    | 167 => t167
    | 168 => t168
    | 169 => t169
    | 170 => t170
    | 171 => t171
    | 172 => t172
    | 173 => t173
    | 174 => t174
    | 175 => t175
    | 176 => t176
    | 177 => t177
    | 178 => t178
    | _ => undef, rfl⟩
end Go.Proofs.YtnchgmjeoajmiaaGreatDoor

/-! Inita -/
namespace Go.Proofs.YtnchgmjeoajmiaaGreatDoor
open Go.RowKit Go.Proofs.YtnchgmjeoajmiaaGreatDoorW.PrintWords
set_option linter.unusedSimpArgs false
set_option linter.unusedVariables false

/-- What ToLower of TrimSpace makes of an item. -/
def tidy (s : ByteArray) : ByteArray := ⟨(Lib.toLowerA (Lib.trimSpace s.data.toList)).toArray⟩

/-- An item that the two library functions take: ASCII and not too long. -/
structure Item (s p : ByteArray) : Prop where
  size : s.size ≤ 140737488355328
  ascii : ∀ (j : Nat) (b : UInt8), s.data.toList[j]? = some b → b.toNat < 128
  size' : (Lib.trimSpace s.data.toList).length ≤ 140737488355328
  ascii' : ∀ (j : Nat) (b : UInt8), (Lib.trimSpace s.data.toList)[j]? = some b → b.toNat < 128
  eq : tidy s = p

/-- A list of one matcher in a new block. -/
theorem Ms.one {w : World} {B g : Nat} {m : Mt} {v : Value} (hg : w.heap[g]? = some (.cells #[v] 79 (0, 0))) (hB : B ≤ g) (hv : MtV w m v) : Ms w B (.slice (some ⟨g, 0, none⟩) 1 1) [m] := by
  refine ⟨[v], ⟨rfl, .inr ⟨g, 1, #[v], rfl, hB, hg, Nat.le_refl _, by decide, rfl, rfl⟩⟩, fun j m' hj => ?_⟩
  match j, hj with
  | 0, hj =>
    simp only [List.getElem?_cons_zero, Option.some.injEq] at hj
    subst hj
    exact ⟨v, rfl, hv⟩
theorem CF.lt {B cb : Nat} {x0 x1 x2 x3 x4 x5 : Value} {ips doms : List Mt} {w : World} (h : CF B cb x0 x1 x2 x3 x4 x5 ips doms w) : cb < w.heap.size := by
  obtain ⟨_, _, h0, _⟩ := h
  exact blk_lt h0
theorem bel_cut {B : Nat} {w w' : World} (h : Below w.heap.size w w') (hB : B ≤ w.heap.size) : Below B w w' := h.mono hB

theorem trim_item {p4 p6 : Addr} {s p : ByteArray} {w : World} (h : Item s p) (g : GW p4 p6 w) : Calls Tryz.prog 54 #[.string s] w fun e w' => e = .returned (.string ⟨(Lib.trimSpace s.data.toList).toArray⟩) ∧ Below w.heap.size w w' :=
  (Tryz.strings_TrimSpace s w (by have := h.size; omega) h.ascii g.space).mono fun e w' ⟨h1, h2⟩ => ⟨h1, by subst h2; exact bytes_below (Below.refl _ _) (Nat.le_refl _) _ _⟩

theorem lower_item {s p : ByteArray} {w : World} (h : Item s p) : Calls Tryz.prog 53 #[.string ⟨(Lib.trimSpace s.data.toList).toArray⟩] w fun e w' => e = .returned (.string p) ∧ Below w.heap.size w w' := by
  have := Tryz.strings_ToLower_ascii ⟨(Lib.trimSpace s.data.toList).toArray⟩ w (by have := h.size'; simpa [ByteArray.size] using this) (by simpa using h.ascii')
  refine this.mono fun e w' ⟨h1, h2⟩ => ⟨?_, h2⟩
  rw [h1]
  have he := h.eq
  unfold tidy at he
  rw [← he]

set_option maxRecDepth 1000000 in
set_option maxHeartbeats 400000 in
theorem round_blank (p4 p6 : Addr) (cb g n cap i : Nat) (u : Nat → Value) (w : World) (Q : Exit → Act → World → Prop) (s : ByteArray) (G : GW p4 p6 w) (hi : i < n) (hn : n < 4611686018427387904)
    (hs : w.cell? ⟨g, i, none⟩ = some (.string s)) (hit : Item s ⟨#[]⟩)
    (hK : ∀ a w', IvF cb g n cap (i + 1) a → Below w.heap.size w w' → Q .normal a w') : initBody.wp Tryz.prog Q (InitF cb g n cap i u) w := by
  conv => arg 2; whnf
  unfold InitF
  go_wp2_with fail
  refine (trim_item hit G).mono ?_
  rintro e w1 ⟨rfl, b1⟩
  go_wp2_with fail
  refine (lower_item hit).mono ?_
  rintro e w2 ⟨rfl, b2⟩
  have B := Aside0.mk (bel_then b1 b2)
  clear b1 b2
  go_wp2_with fail
  exact hK _ _ (IvF.mk ..) B.out

set_option maxRecDepth 1000000 in
set_option maxHeartbeats 400000 in
theorem round_star (p4 p6 : Addr) (B cb g n cap i : Nat) (x0 x1 x2 x3 x4 x5 : Value) (ips doms : List Mt) (u : Nat → Value) (w : World) (Q : Exit → Act → World → Prop) (s : ByteArray) (G : GW p4 p6 w) (hi : i < n) (hn : n < 4611686018427387904)
    (hs : w.cell? ⟨g, i, none⟩ = some (.string s)) (hit : Item s ⟨#[42]⟩) (hB : B ≤ cb) (hc : CF B cb x0 x1 x2 x3 x4 x5 ips doms w)
    (hK : ∀ a w', a.defers = [] → CF B cb x0 x1 x2 x3 x4 x5 [.all] [.all] w' → Below B w w' → Q .ret a w') : initBody.wp Tryz.prog Q (InitF cb g n cap i u) w := by
  conv => arg 2; whnf
  unfold InitF
  go_wp2_with fail
  refine (trim_item hit G).mono ?_
  rintro e w1 ⟨rfl, b1⟩
  go_wp2_with fail
  refine (lower_item hit).mono ?_
  rintro e w2 ⟨rfl, b2⟩
  have hb := bel_then b1 b2
  have qw := hc.lt
  obtain ⟨vi, vd, hc, _, _, _⟩ := hc.below hb
  have W := Aside0.mk hb
  clear b1 b2 hb
  have q := blk_lt hc
  have c6 := blk_cell hc 6
  have c7 := blk_cell hc 7
  have fr := blk_frozen hc
  simp only [List.getElem?_toArray, List.getElem?_cons_zero, List.getElem?_cons_succ] at c6 c7
  go_wp2_with fail
  have hc1 : ((w2.setCell ⟨cb, 6, none⟩ (.slice (some ⟨w2.heap.size, 0, none⟩) 1 1)).setCell ⟨cb, 7, none⟩ (.slice (some ⟨w2.heap.size + 1, 0, none⟩) 1 1)).heap[cb]? = some (.cells #[x0, x1, x2, x3, x4, x5, .slice (some ⟨w2.heap.size, 0, none⟩) 1 1, .slice (some ⟨w2.heap.size + 1, 0, none⟩) 1 1] 77 (0, 0)) :=
    blk_put (cs := #[x0, x1, x2, x3, x4, x5, .slice (some ⟨w2.heap.size, 0, none⟩) 1 1, vd]) (blk_put hc 6 _ rfl) 7 _ rfl
  have hz : ((w2.setCell ⟨cb, 6, none⟩ (.slice (some ⟨w2.heap.size, 0, none⟩) 1 1)).setCell ⟨cb, 7, none⟩ (.slice (some ⟨w2.heap.size + 1, 0, none⟩) 1 1)).heap.size = w2.heap.size := by simp [World.setCell]
  have hbel : Below B w ((w2.setCell ⟨cb, 6, none⟩ (.slice (some ⟨w2.heap.size, 0, none⟩) 1 1)).setCell ⟨cb, 7, none⟩ (.slice (some ⟨w2.heap.size + 1, 0, none⟩) 1 1)) :=
    ((W.out.mono (by omega)).setCell (p := ⟨cb, 6, none⟩) hB _).setCell (p := ⟨cb, 7, none⟩) hB _
  generalize (w2.setCell ⟨cb, 6, none⟩ (.slice (some ⟨w2.heap.size, 0, none⟩) 1 1)).setCell ⟨cb, 7, none⟩ (.slice (some ⟨w2.heap.size + 1, 0, none⟩) 1 1) = w3 at *
  rw [← hz] at hc1
  rw [← hz]
  refine hK _ _ rfl ⟨_, _, (heap_alloc_old _ _ (by simp; omega)).trans ((heap_alloc_old _ _ (by omega)).trans hc1), Ms.one (heap2o _ _ _) (by omega) rfl, Ms.one (heap2 _ _ _) (by omega) rfl, fun g' h1 h2 => ?_⟩ ((hbel.alloc (by omega) _).alloc (by simp; omega) _)
  simp only [Value.ownBlock, Option.some.injEq] at h1 h2
  omega
end Go.Proofs.YtnchgmjeoajmiaaGreatDoor

/-! Initb -/
namespace Go.Proofs.YtnchgmjeoajmiaaGreatDoor
open Go.RowKit Go.Proofs.YtnchgmjeoajmiaaGreatDoorW.PrintWords
set_option linter.unusedSimpArgs false
set_option linter.unusedVariables false

theorem info79 : ∃ j, Tryz.prog.info? 79 = some j ∧ j.zero = some .nilIface ∧ j.size = 1 ∧ j.bytes = 16 := by
  have h : (Tryz.prog.info? 79).map (fun i => (i.size, i.bytes)) = some (1, 16) := by kernel_rfl
  have h' : (Tryz.prog.info? 79).bind (fun i => i.zero) = some .nilIface := by kernel_rfl
  cases hj : Tryz.prog.info? 79 with
  | none => rw [hj] at h; simp at h
  | some j => rw [hj] at h h'; simp at h h'; exact ⟨j, rfl, h', h.1, h.2⟩

/-- One matcher appended to one of the two lists, and the list stored in the setting. -/
theorem pushed {w3 w4 : World} {B cb gv : Nat} {va vb v' : Value} (hv' : v'.ownBlock = some gv) {ms mo : List Mt} {xs : List Value} {u : Value} {m : Mt} {cs : Array Value} (hc : w3.heap[cb]? = some (.cells cs 77 (0, 0))) (hB : B ≤ cb)
    (hown : w3.ownsRow B 79 1 va ms.length xs) (hms : ∀ (j : Nat) m, ms[j]? = some m → ∃ u, xs[j]? = some u ∧ MtV w3 m u) (hvb : Ms w3 B vb mo) (hne : ∀ g, va.ownBlock = some g → vb.ownBlock ≠ some g)
    (own4 : w4.ownsRow B 79 1 v' (ms.length + 1) (xs ++ [u])) (grow4 : (w3.alloc (.cells #[u] 79)).grownBy w4 va.ownBlock) (hat : va.ownBlock = some gv ∨ gv = w3.heap.size + 1) (hu : MtV w3 m u) :
    w4.heap[cb]? = some (.cells cs 77 (0, 0)) ∧ ∀ i, Ms (w4.setCell ⟨cb, i, none⟩ v') B v' (ms ++ [m]) ∧ Ms (w4.setCell ⟨cb, i, none⟩ v') B vb mo ∧ (∀ g, v'.ownBlock = some g → vb.ownBlock ≠ some g) ∧ Below B w3 (w4.setCell ⟨cb, i, none⟩ v') ∧ Kp w3 (w4.setCell ⟨cb, i, none⟩ v') := by
  have hMa : Ms w3 B va ms := ⟨xs, hown, hms⟩
  have q := blk_lt hc
  have ty : ∀ g, va.ownBlock = some g → B ≤ g ∧ ∃ cs, w3.heap[g]? = some (.cells cs 79 (0, 0)) := fun g hg => hMa.typed g hg
  have g34 : w3.grownBy w4 va.ownBlock := (World.grownBy_alloc w3 _ _).trans grow4
  have kp34 : Kp w3 w4 := Kp.grown g34 (fun g hg => (ty g hg).2)
  have hcne : some cb ≠ va.ownBlock := fun e => by
    obtain ⟨_, cs', hc'⟩ := ty cb e.symm
    rw [hc] at hc'
    injection hc' with hc'
    injection hc' with _ hc' _
    exact absurd hc' (by decide)
  have hc4 : w4.heap[cb]? = some (.cells cs 77 (0, 0)) := (g34.block cb q hcne).trans hc
  refine ⟨hc4, fun i => ?_⟩
  have kp45 : Kp w4 (w4.setCell ⟨cb, i, none⟩ v') := Kp.set hc4 i v'
  have far : ∀ (g : Nat) (cs' : Array Value), w4.heap[g]? = some (Obj.cells cs' 79 (0, 0)) → (w4.setCell ⟨cb, i, none⟩ v').heap[g]? = w4.heap[g]? := fun g cs' hg => by
    refine Below.heap_setCell _ _ _ _ ?_
    rintro rfl
    rw [hc4] at hg
    injection hg with hg
    injection hg with _ hg _
    exact absurd hg (by decide)
  have hM4 : Ms w4 B v' (ms ++ [m]) := Ms.snoc (xs := xs) (u := u) (fun j m' hj => by
    obtain ⟨u', h1, h2⟩ := hms j m' hj
    exact ⟨u', h1, h2.kept kp34⟩) (by simpa using hown.1) own4 (hu.kept kp34)
  have hvb4 : Ms w4 B vb mo := hvb.kept kp34 (fun g hg => by
    obtain ⟨_, cs', hc'⟩ := hvb.typed g hg
    exact g34.block g (blk_lt hc') (fun e => hne g e.symm hg))
  refine ⟨hM4.kept kp45 (fun g hg => ?_), hvb4.kept kp45 (fun g hg => ?_), fun g hg => ?_, ?_, kp34.trans kp45⟩
  · obtain ⟨_, cs', hc'⟩ := hM4.typed g hg
    exact far g cs' hc'
  · obtain ⟨_, cs', hc'⟩ := hvb4.typed g hg
    exact far g cs' hc'
  · rw [hv', Option.some.injEq] at hg
    subst hg
    rcases hat with h | h
    · exact hne gv h
    · intro hb
      obtain ⟨_, cs', hc'⟩ := hvb.typed gv hb
      have := blk_lt hc'
      omega
  · exact ((Below.refl B w3).grown g34 (by omega) (fun g hg => (ty g hg).1)).setCell (p := ⟨cb, i, none⟩) hB _

/-- The text of a network. -/
structure NetItem (p : ByteArray) (a b c d n m0 m1 m2 m3 : Int) : Prop where
  size : 1 ≤ p.size
  star : p.toList ≠ [42]
  cut : ∃ k k' t u, P.netcidr_zzCut.f k p slash = some (t, u, true) ∧ Four t a b c d ∧ P.netcidr_dtoi.f k' u = some (n, (u.size : Int), true)
  n0 : 0 ≤ n
  n1 : n ≤ 32
  mask : mask4 n = [m0, m1, m2, m3]

theorem net_calls {p4 p6 : Addr} {p : ByteArray} {a b c d n m0 m1 m2 m3 : Int} {w : World} (h : NetItem p a b c d n m0 m1 m2 m3) (g : GW p4 p6 w) :
    Calls Tryz.prog 55 #[.string p] w (NewNet [bits .and .u8 a m0, bits .and .u8 b m1, bits .and .u8 c m2, bits .and .u8 d m3] [m0, m1, m2, m3] w) := by
  obtain ⟨k, k', t, u, h1, h2, h3⟩ := h.cut
  exact parseCIDR_ok p4 p6 p t u k k' a b c d n m0 m1 m2 m3 w g h1 h2 h3 h.n0 h.n1 h.mask

set_option maxRecDepth 1000000 in
set_option maxHeartbeats 400000 in
theorem round_net (p4 p6 : Addr) (B cb g n cap i : Nat) (x0 x1 x2 x3 x4 x5 : Value) (ips doms : List Mt) (u : Nat → Value) (w : World) (Q : Exit → Act → World → Prop) (s p : ByteArray) (a b c d n' m0 m1 m2 m3 : Int) (G : GW p4 p6 w) (hi : i < n) (hn : n < 4611686018427387904)
    (hs : w.cell? ⟨g, i, none⟩ = some (.string s)) (hit : Item s p) (hp : NetItem p a b c d n' m0 m1 m2 m3) (hB : B ≤ cb) (hc : CF B cb x0 x1 x2 x3 x4 x5 ips doms w) (hl : ips.length < 4398046511104)
    (hK : ∀ a' w', IvF cb g n cap (i + 1) a' → CF B cb x0 x1 x2 x3 x4 x5 (ips ++ [.net [bits .and .u8 a m0, bits .and .u8 b m1, bits .and .u8 c m2, bits .and .u8 d m3] [m0, m1, m2, m3]]) doms w' → Below B w w' → Kp w w' → Q .normal a' w') : initBody.wp Tryz.prog Q (InitF cb g n cap i u) w := by
  have z0 : ((p.size : Int) == 0) = false := beq_eq_false_iff_ne.2 (by have := hp.size; omega)
  have z1 : (p.toList == [42]) = false := beq_eq_false_iff_ne.2 hp.star
  conv => arg 2; whnf
  unfold InitF
  go_wp2_with fail
  refine (trim_item hit G).mono ?_
  rintro e w1 ⟨rfl, b1⟩
  go_wp2_with fail
  refine (lower_item hit).mono ?_
  rintro e w2 ⟨rfl, b2⟩
  go_wp2_with fail
  have hb := bel_then b1 b2
  refine (net_calls hp (G.below hb)).mono ?_
  rintro e w3 ⟨q, gi, gm, v, rfl, hq, hgi, hgm, b3⟩
  have hb := bel_then hb b3
  have qw := hc.lt
  obtain ⟨vi, vd, hc, hvi, hvd, hne⟩ := hc.below hb
  obtain ⟨xs, hown, hms⟩ := hvi
  have hlen : xs.length = ips.length := by simpa using hown.1
  have hc3 := Aside0.mk (CF.lt ⟨vi, vd, hc, ⟨xs, hown, hms⟩, hvd, hne⟩)
  have HD := Aside0.mk hvd
  have HN := Aside0.mk hne
  have HS := Aside0.mk hms
  have W := Aside0.mk hb
  have HU := Aside0.mk (show MtV w3 (.net [bits .and .u8 a m0, bits .and .u8 b m1, bits .and .u8 c m2, bits .and .u8 d m3] [m0, m1, m2, m3]) (.iface 91 (.agg #[.pointer (some ⟨q, 0, none⟩)])) from ⟨q, gi, gm, rfl, hq, hgi, hgm⟩)
  clear b1 b2 b3 hb hq hgi hgm hvd hne hms
  have qq := blk_lt hc
  have c6 := blk_cell hc 6
  simp only [List.getElem?_toArray, List.getElem?_cons_zero, List.getElem?_cons_succ] at c6
  obtain ⟨i79, I79, Z79, S79, B79⟩ := info79
  go_wp2_with (at_builtin; refine wpList_append_lies _ rfl _ _ 75 rfl B 79 i79 .nilIface 1 16 Tryz.underlying75 I79 Z79 S79 B79 rfl (by decide) vi ips.length xs rfl (hown.alloc _) ⟨w3.heap.size, 0, none⟩ 1 1 [.iface 91 (.agg #[.pointer (some ⟨q, 0, none⟩)])] rfl rfl (cell_one_new _ _ _) (by simp [Value.oneCell']) (by decide) (by simp only [maxLen]; omega) (by omega) (by simp; omega) (w3.heap.size + 1) (by simp) ?_)
  intro gv cv w4 own4 grow4 hat4 hlt4
  obtain ⟨hc4, hP⟩ := pushed (m := .net [bits .and .u8 a m0, bits .and .u8 b m1, bits .and .u8 c m2, bits .and .u8 d m3] [m0, m1, m2, m3]) rfl hc hB hown HS.out HD.out HN.out own4 grow4 hat4 HU.out
  obtain ⟨p1, p2, p3, p4, p5⟩ := hP 6
  have P1 := Aside0.mk p1
  have P2 := Aside0.mk p2
  have P3 := Aside0.mk p3
  have P4 := Aside0.mk p4
  have P5 := Aside0.mk p5
  have P6 := Aside0.mk hP
  clear hP p1 p2 p3 p4 p5 own4 grow4 hat4 hown c6
  have c6 := blk_cell hc4 6
  have fr := blk_frozen hc4
  simp only [List.getElem?_toArray, List.getElem?_cons_zero, List.getElem?_cons_succ] at c6
  go_wp2_with fail
  exact hK _ _ (IvF.mk ..) ⟨_, _, blk_put hc4 6 _ rfl, P1.out, P2.out, P3.out⟩ ((W.out.mono (by omega)).trans P4.out) ((Kp.below W.out).trans P5.out)
end Go.Proofs.YtnchgmjeoajmiaaGreatDoor

/-! Initc -/
namespace Go.Proofs.YtnchgmjeoajmiaaGreatDoor
open Go.RowKit Go.Proofs.YtnchgmjeoajmiaaGreatDoorW.PrintWords
set_option linter.unusedSimpArgs false
set_option linter.unusedVariables false

/-- An item with a host and, perhaps, a port. -/
structure Plain (p host port : ByteArray) : Prop where
  size : 1 ≤ p.size
  small : p.size < 4611686018427387904
  hsize : 1 ≤ host.size
  hsmall : host.size < 4611686018427387904
  star : p.toList ≠ [42]
  head : bt host 0 ≠ 91
  cut : ∃ k, P.netcidr_zzCut.f k p slash = some (p, ⟨#[]⟩, false)
structure Alone (p host port : ByteArray) : Prop extends Plain p host port where
  none : Lib.lastIndexByte p 58 = -1
  heq : host = p
  peq : port = ⟨#[]⟩
structure Parts (p host port : ByteArray) : Prop extends Plain p host port where
  split : ∃ i, Splits p i ∧ p.extract 0 i = host ∧ p.extract (i + 1) p.size = port

theorem plain_err {p host port : ByteArray} {w : World} (h : Plain p host port) : Calls Tryz.prog 55 #[.string p] w fun e w' => (∃ v, e = .returned (.tuple #[.slice none 0 0, .pointer none, .iface 131 v])) ∧ Below w.heap.size w w' := by
  obtain ⟨k, hk⟩ := h.cut
  exact parseCIDR_err p k w hk
theorem parts_calls {p host port : ByteArray} {w : World} (h : Parts p host port) : Calls Tryz.prog 56 #[.string p] w fun e w' => e = .returned (.tuple #[.string host, .string port, .nilIface]) ∧ w = w' := by
  obtain ⟨i, hi, h1, h2⟩ := h.split
  have := split_ok p i w hi
  rw [h1, h2] at this
  exact this

set_option maxRecDepth 1000000 in
set_option maxHeartbeats 400000 in
theorem round_addr_bare (p4 p6 : Addr) (B cb g n cap i : Nat) (x0 x1 x2 x3 x4 x5 : Value) (ips doms : List Mt) (u : Nat → Value) (w : World) (Q : Exit → Act → World → Prop) (s p host port : ByteArray) (a b c d : Int) (G : GW p4 p6 w) (hi : i < n) (hn : n < 4611686018427387904)
    (hs : w.cell? ⟨g, i, none⟩ = some (.string s)) (hit : Item s p) (hp : Alone p host port) (hf : Four host a b c d) (hB : B ≤ cb) (hc : CF B cb x0 x1 x2 x3 x4 x5 ips doms w) (hl : ips.length < 4398046511104)
    (hK : ∀ a' w', IvF cb g n cap (i + 1) a' → CF B cb x0 x1 x2 x3 x4 x5 (ips ++ [.ip a b c d port]) doms w' → Below B w w' → Kp w w' → Q .normal a' w') : initBody.wp Tryz.prog Q (InitF cb g n cap i u) w := by
  have z0 : ((p.size : Int) == 0) = false := beq_eq_false_iff_ne.2 (by have := hp.size; omega)
  have z1 : (p.toList == [42]) = false := beq_eq_false_iff_ne.2 hp.star
  have z2 : ((host.size : Int) == 0) = false := beq_eq_false_iff_ne.2 (by have := hp.hsize; omega)
  have z3 : (bt host 0 == 91) = false := beq_eq_false_iff_ne.2 hp.head
  have z4 := bt_at host 0
  have z5 := hp.hsize
  have z6 := hp.hsmall
  simp only [Int.toNat_zero] at z4
  obtain ⟨hp, hnone, rfl, rfl⟩ := hp
  conv => arg 2; whnf
  unfold InitF
  go_wp2_with fail
  refine (trim_item hit G).mono ?_
  rintro e w1 ⟨rfl, b1⟩
  go_wp2_with fail
  refine (lower_item hit).mono ?_
  rintro e w2 ⟨rfl, b2⟩
  have hb := bel_then b1 b2
  go_wp2_with fail
  refine (plain_err hp).mono ?_
  rintro e w3 ⟨⟨ev, rfl⟩, b3⟩
  have hb := bel_then hb b3
  clear b1 b2 b3
  go_wp2_with fail
  refine (split_err _ _ hp.small hnone).mono ?_
  rintro e w4 ⟨⟨ev', rfl⟩, b4⟩
  have hb := bel_then hb b4
  clear b4
  go_wp2_with fail
  refine (hf.ip p4 p6 _ (G.below hb)).mono ?_
  rintro e wz ⟨q, rfl, hq, _, bz⟩
  have hb := bel_then hb bz
  have hn := ip_neq (some ⟨q, 0, none⟩) 16 16
  have qw := hc.lt
  obtain ⟨vi, vd, hc, hvi, hvd, hne⟩ := hc.below hb
  obtain ⟨xs, hown, hms⟩ := hvi
  have hlen : xs.length = ips.length := by simpa using hown.1
  have HD := Aside0.mk hvd
  have HN := Aside0.mk (hne)
  have HS := Aside0.mk hms
  have W := Aside0.mk hb
  have HU := Aside0.mk (show MtV wz (.ip a b c d ⟨#[]⟩) (.iface 96 (.agg #[.slice (some ⟨q, 0, none⟩) 16 16, .string ⟨#[]⟩])) from ⟨q, rfl, hq⟩)
  clear hb hq hvd hne hms
  have qq := blk_lt hc
  have c6 := blk_cell hc 6
  simp only [List.getElem?_toArray, List.getElem?_cons_zero, List.getElem?_cons_succ] at c6
  obtain ⟨i79, I79, Z79, S79, B79⟩ := info79
  go_wp2_with (at_builtin; refine wpList_append_lies _ rfl _ _ 75 rfl B 79 i79 .nilIface 1 16 Tryz.underlying75 I79 Z79 S79 B79 rfl (by decide) vi ips.length xs rfl (hown.alloc _) ⟨wz.heap.size, 0, none⟩ 1 1 [.iface 96 (.agg #[.slice (some ⟨q, 0, none⟩) 16 16, .string ⟨#[]⟩])] rfl rfl (cell_one_new _ _ _) (by simp [Value.oneCell']) (by decide) (by simp only [maxLen]; omega) (by omega) (by simp; omega) (wz.heap.size + 1) (by simp) ?_)
  intro gv cv w5 own4 grow4 hat4 hlt4
  obtain ⟨hc4, hP⟩ := pushed (m := (.ip a b c d ⟨#[]⟩)) rfl hc hB hown HS.out HD.out HN.out own4 grow4 hat4 HU.out
  obtain ⟨p1, p2, p3, p4, p5⟩ := hP 6
  have P1 := Aside0.mk p1
  have P2 := Aside0.mk p2
  have P3 := Aside0.mk p3
  have P4 := Aside0.mk p4
  have P5 := Aside0.mk p5
  clear hP p1 p2 p3 p4 p5 own4 grow4 hat4 hown c6
  have c6 := blk_cell hc4 6
  have fr := blk_frozen hc4
  simp only [List.getElem?_toArray, List.getElem?_cons_zero, List.getElem?_cons_succ] at c6
  go_wp2_with fail
  exact hK _ _ (IvF.mk ..) ⟨_, _, blk_put hc4 6 _ rfl, P1.out, P2.out, P3.out⟩ ((W.out.mono (by omega)).trans P4.out) ((Kp.below W.out).trans P5.out)

set_option maxRecDepth 1000000 in
set_option maxHeartbeats 400000 in
theorem round_addr_port (p4 p6 : Addr) (B cb g n cap i : Nat) (x0 x1 x2 x3 x4 x5 : Value) (ips doms : List Mt) (u : Nat → Value) (w : World) (Q : Exit → Act → World → Prop) (s p host port : ByteArray) (a b c d : Int) (G : GW p4 p6 w) (hi : i < n) (hn : n < 4611686018427387904)
    (hs : w.cell? ⟨g, i, none⟩ = some (.string s)) (hit : Item s p) (hp : Parts p host port) (hf : Four host a b c d) (hB : B ≤ cb) (hc : CF B cb x0 x1 x2 x3 x4 x5 ips doms w) (hl : ips.length < 4398046511104)
    (hK : ∀ a' w', IvF cb g n cap (i + 1) a' → CF B cb x0 x1 x2 x3 x4 x5 (ips ++ [.ip a b c d port]) doms w' → Below B w w' → Kp w w' → Q .normal a' w') : initBody.wp Tryz.prog Q (InitF cb g n cap i u) w := by
  have z0 : ((p.size : Int) == 0) = false := beq_eq_false_iff_ne.2 (by have := hp.size; omega)
  have z1 : (p.toList == [42]) = false := beq_eq_false_iff_ne.2 hp.star
  have z2 : ((host.size : Int) == 0) = false := beq_eq_false_iff_ne.2 (by have := hp.hsize; omega)
  have z3 : (bt host 0 == 91) = false := beq_eq_false_iff_ne.2 hp.head
  have z4 := bt_at host 0
  have z5 := hp.hsize
  have z6 := hp.hsmall
  simp only [Int.toNat_zero] at z4
  conv => arg 2; whnf
  unfold InitF
  go_wp2_with fail
  refine (trim_item hit G).mono ?_
  rintro e w1 ⟨rfl, b1⟩
  go_wp2_with fail
  refine (lower_item hit).mono ?_
  rintro e w2 ⟨rfl, b2⟩
  have hb := bel_then b1 b2
  go_wp2_with fail
  refine (plain_err hp.toPlain).mono ?_
  rintro e w3 ⟨⟨ev, rfl⟩, b3⟩
  have hb := bel_then hb b3
  clear b1 b2 b3
  go_wp2_with fail
  refine (parts_calls hp).mono ?_
  rintro e w4 ⟨rfl, rfl⟩
  go_wp2_with fail
  refine (hf.ip p4 p6 _ (G.below hb)).mono ?_
  rintro e wz ⟨q, rfl, hq, _, bz⟩
  have hb := bel_then hb bz
  have hn := ip_neq (some ⟨q, 0, none⟩) 16 16
  have qw := hc.lt
  obtain ⟨vi, vd, hc, hvi, hvd, hne⟩ := hc.below hb
  obtain ⟨xs, hown, hms⟩ := hvi
  have hlen : xs.length = ips.length := by simpa using hown.1
  have HD := Aside0.mk hvd
  have HN := Aside0.mk (hne)
  have HS := Aside0.mk hms
  have W := Aside0.mk hb
  have HU := Aside0.mk (show MtV wz (.ip a b c d port) (.iface 96 (.agg #[.slice (some ⟨q, 0, none⟩) 16 16, .string port])) from ⟨q, rfl, hq⟩)
  clear hb hq hvd hne hms
  have qq := blk_lt hc
  have c6 := blk_cell hc 6
  simp only [List.getElem?_toArray, List.getElem?_cons_zero, List.getElem?_cons_succ] at c6
  obtain ⟨i79, I79, Z79, S79, B79⟩ := info79
  go_wp2_with (at_builtin; refine wpList_append_lies _ rfl _ _ 75 rfl B 79 i79 .nilIface 1 16 Tryz.underlying75 I79 Z79 S79 B79 rfl (by decide) vi ips.length xs rfl (hown.alloc _) ⟨wz.heap.size, 0, none⟩ 1 1 [.iface 96 (.agg #[.slice (some ⟨q, 0, none⟩) 16 16, .string port])] rfl rfl (cell_one_new _ _ _) (by simp [Value.oneCell']) (by decide) (by simp only [maxLen]; omega) (by omega) (by simp; omega) (wz.heap.size + 1) (by simp) ?_)
  intro gv cv w5 own4 grow4 hat4 hlt4
  obtain ⟨hc4, hP⟩ := pushed (m := (.ip a b c d port)) rfl hc hB hown HS.out HD.out HN.out own4 grow4 hat4 HU.out
  obtain ⟨p1, p2, p3, p4, p5⟩ := hP 6
  have P1 := Aside0.mk p1
  have P2 := Aside0.mk p2
  have P3 := Aside0.mk p3
  have P4 := Aside0.mk p4
  have P5 := Aside0.mk p5
  clear hP p1 p2 p3 p4 p5 own4 grow4 hat4 hown c6
  have c6 := blk_cell hc4 6
  have fr := blk_frozen hc4
  simp only [List.getElem?_toArray, List.getElem?_cons_zero, List.getElem?_cons_succ] at c6
  go_wp2_with fail
  exact hK _ _ (IvF.mk ..) ⟨_, _, blk_put hc4 6 _ rfl, P1.out, P2.out, P3.out⟩ ((W.out.mono (by omega)).trans P4.out) ((Kp.below W.out).trans P5.out)

end Go.Proofs.YtnchgmjeoajmiaaGreatDoor

/-! Initd -/
namespace Go.Proofs.YtnchgmjeoajmiaaGreatDoor
open Go.RowKit Go.Proofs.YtnchgmjeoajmiaaGreatDoorW.PrintWords
set_option linter.unusedSimpArgs false
set_option linter.unusedVariables false

/-- A host that is a name: what becomes of it. -/
structure NameHost (host dom : ByteArray) (mh : Bool) : Prop where
  first : ¬ (48 ≤ bt host 0 ∧ bt host 0 ≤ 57)
  bare : ∀ i : Int, 0 ≤ i → i < host.size → bt host i ≠ 58 ∧ bt host i ≠ 37
  star : Lib.hasPrefix host.data.toList [42, 46] = false
  ascii : Ascii dom
  dsize : dom.size ≤ 9223372036854775806
  dom : (mh = true ∧ bt host 0 ≠ 46 ∧ dom = ⟨#[46]⟩ ++ host) ∨ (mh = false ∧ bt host 0 = 46 ∧ dom = host)

set_option maxRecDepth 1000000 in
set_option maxHeartbeats 400000 in
theorem round_name_bare_own (p4 p6 : Addr) (B cb g n cap i : Nat) (x0 x1 x2 x3 x4 x5 : Value) (ips doms : List Mt) (u : Nat → Value) (w : World) (Q : Exit → Act → World → Prop) (s p host port : ByteArray) (dom : ByteArray) (G : GW p4 p6 w) (hi : i < n) (hn : n < 4611686018427387904)
    (hs : w.cell? ⟨g, i, none⟩ = some (.string s)) (hit : Item s p) (hp : Alone p host port) (hf : NameHost host dom true) (hB : B ≤ cb) (hc : CF B cb x0 x1 x2 x3 x4 x5 ips doms w) (hl : doms.length < 4398046511104)
    (hK : ∀ a' w', IvF cb g n cap (i + 1) a' → CF B cb x0 x1 x2 x3 x4 x5 ips (doms ++ [.dom dom port true]) w' → Below B w w' → Kp w w' → Q .normal a' w') : initBody.wp Tryz.prog Q (InitF cb g n cap i u) w := by
  have z0 : ((p.size : Int) == 0) = false := beq_eq_false_iff_ne.2 (by have := hp.size; omega)
  have z1 : (p.toList == [42]) = false := beq_eq_false_iff_ne.2 hp.star
  have z2 : ((host.size : Int) == 0) = false := beq_eq_false_iff_ne.2 (by have := hp.hsize; omega)
  have z3 : (bt host 0 == 91) = false := beq_eq_false_iff_ne.2 hp.head
  have z4 := bt_at host 0
  have z5 := hp.hsize
  have z6 := hp.hsmall
  simp only [Int.toNat_zero] at z4
  obtain ⟨hp, hnone, rfl, rfl⟩ := hp
  have z7 : (bt host 0 != 46) = true := by
    rcases hf.dom with ⟨_, h, _⟩ | ⟨h, _, _⟩
    · simp [h]
    · cases h
  have zd : dom = ({ data := #[46] } : ByteArray) ++ host := by
    rcases hf.dom with ⟨_, _, h⟩ | ⟨h, _, _⟩
    · exact h
    · cases h
  subst zd
  conv => arg 2; whnf
  unfold InitF
  go_wp2_with fail
  refine (trim_item hit G).mono ?_
  rintro e w1 ⟨rfl, b1⟩
  go_wp2_with fail
  refine (lower_item hit).mono ?_
  rintro e w2 ⟨rfl, b2⟩
  have hb := bel_then b1 b2
  go_wp2_with fail
  refine (plain_err hp).mono ?_
  rintro e w3 ⟨⟨ev, rfl⟩, b3⟩
  have hb := bel_then hb b3
  clear b1 b2 b3
  go_wp2_with fail
  refine (split_err _ _ hp.small hnone).mono ?_
  rintro e w4 ⟨⟨ev', rfl⟩, b4⟩
  have hb := bel_then hb b4
  clear b4
  go_wp2_with fail
  refine (ParseIP_err host _ (by omega) (by omega) hf.first hf.bare).mono ?_
  rintro e wy ⟨rfl, by_⟩
  have hb := bel_then hb by_
  have hn := ip_neq none 0 0
  go_wp2_with fail
  refine (Tryz.strings_HasPrefix host ⟨#[42, 46]⟩ _).mono ?_
  rw [show (({ data := #[42, 46] } : ByteArray).data.toList) = [42, 46] from rfl, hf.star]
  rintro e wx ⟨rfl, rfl⟩
  go_wp2_with fail
  refine (idna_ok _ _ hf.dsize hf.ascii).mono ?_
  rintro e wz ⟨rfl, ⟨nd, rfl⟩⟩
  have hb := pw_below_drewN hb nd
  have qw := hc.lt
  generalize World.drewN _ nd = wz at *
  obtain ⟨vi, vd, hc, hvi, hvd, hne⟩ := hc.below hb
  obtain ⟨xs, hown, hms⟩ := hvd
  have hlen : xs.length = doms.length := by simpa using hown.1
  have HD := Aside0.mk hvi
  have HN := Aside0.mk (fun g h1 h2 => hne g h2 h1)
  have HS := Aside0.mk hms
  have W := Aside0.mk hb
  have HU := Aside0.mk (show MtV wz (.dom (({ data := #[46] } : ByteArray) ++ host) ⟨#[]⟩ true) (.iface 100 (.agg #[.string (({ data := #[46] } : ByteArray) ++ host), .string ⟨#[]⟩, .bool true])) from rfl)
  clear hb hvi hne hms
  have qq := blk_lt hc
  have c6 := blk_cell hc 7
  simp only [List.getElem?_toArray, List.getElem?_cons_zero, List.getElem?_cons_succ] at c6
  obtain ⟨i79, I79, Z79, S79, B79⟩ := info79
  go_wp2_with (at_builtin; refine wpList_append_lies _ rfl _ _ 75 rfl B 79 i79 .nilIface 1 16 Tryz.underlying75 I79 Z79 S79 B79 rfl (by decide) vd doms.length xs rfl (hown.alloc _) ⟨wz.heap.size, 0, none⟩ 1 1 [.iface 100 (.agg #[.string (({ data := #[46] } : ByteArray) ++ host), .string ⟨#[]⟩, .bool true])] rfl rfl (cell_one_new _ _ _) (by simp [Value.oneCell']) (by decide) (by simp only [maxLen]; omega) (by omega) (by simp; omega) (wz.heap.size + 1) (by simp) ?_)
  intro gv cv w5 own4 grow4 hat4 hlt4
  obtain ⟨hc4, hP⟩ := pushed (m := (.dom (({ data := #[46] } : ByteArray) ++ host) ⟨#[]⟩ true)) rfl hc hB hown HS.out HD.out HN.out own4 grow4 hat4 HU.out
  obtain ⟨p1, p2, p3, p4, p5⟩ := hP 7
  have P1 := Aside0.mk p1
  have P2 := Aside0.mk p2
  have P3 := Aside0.mk p3
  have P4 := Aside0.mk p4
  have P5 := Aside0.mk p5
  clear hP p1 p2 p3 p4 p5 own4 grow4 hat4 hown c6
  have c6 := blk_cell hc4 7
  have fr := blk_frozen hc4
  simp only [List.getElem?_toArray, List.getElem?_cons_zero, List.getElem?_cons_succ] at c6
  go_wp2_with fail
  exact hK _ _ (IvF.mk ..) ⟨_, _, blk_put hc4 7 _ rfl, P2.out, P1.out, fun g h1 h2 => P3.out g h2 h1⟩ ((W.out.mono (by omega)).trans P4.out) ((Kp.below W.out).trans P5.out)

set_option maxRecDepth 1000000 in
set_option maxHeartbeats 400000 in
theorem round_name_bare_dot (p4 p6 : Addr) (B cb g n cap i : Nat) (x0 x1 x2 x3 x4 x5 : Value) (ips doms : List Mt) (u : Nat → Value) (w : World) (Q : Exit → Act → World → Prop) (s p host port : ByteArray) (dom : ByteArray) (G : GW p4 p6 w) (hi : i < n) (hn : n < 4611686018427387904)
    (hs : w.cell? ⟨g, i, none⟩ = some (.string s)) (hit : Item s p) (hp : Alone p host port) (hf : NameHost host dom false) (hB : B ≤ cb) (hc : CF B cb x0 x1 x2 x3 x4 x5 ips doms w) (hl : doms.length < 4398046511104)
    (hK : ∀ a' w', IvF cb g n cap (i + 1) a' → CF B cb x0 x1 x2 x3 x4 x5 ips (doms ++ [.dom dom port false]) w' → Below B w w' → Kp w w' → Q .normal a' w') : initBody.wp Tryz.prog Q (InitF cb g n cap i u) w := by
  have z0 : ((p.size : Int) == 0) = false := beq_eq_false_iff_ne.2 (by have := hp.size; omega)
  have z1 : (p.toList == [42]) = false := beq_eq_false_iff_ne.2 hp.star
  have z2 : ((host.size : Int) == 0) = false := beq_eq_false_iff_ne.2 (by have := hp.hsize; omega)
  have z3 : (bt host 0 == 91) = false := beq_eq_false_iff_ne.2 hp.head
  have z4 := bt_at host 0
  have z5 := hp.hsize
  have z6 := hp.hsmall
  simp only [Int.toNat_zero] at z4
  obtain ⟨hp, hnone, rfl, rfl⟩ := hp
  have z7 : (bt host 0 != 46) = false := by
    rcases hf.dom with ⟨h, _, _⟩ | ⟨_, h, _⟩
    · cases h
    · simp [h]
  have zd : host = dom := by
    rcases hf.dom with ⟨h, _, _⟩ | ⟨_, _, h⟩
    · cases h
    · exact h.symm
  subst zd
  conv => arg 2; whnf
  unfold InitF
  go_wp2_with fail
  refine (trim_item hit G).mono ?_
  rintro e w1 ⟨rfl, b1⟩
  go_wp2_with fail
  refine (lower_item hit).mono ?_
  rintro e w2 ⟨rfl, b2⟩
  have hb := bel_then b1 b2
  go_wp2_with fail
  refine (plain_err hp).mono ?_
  rintro e w3 ⟨⟨ev, rfl⟩, b3⟩
  have hb := bel_then hb b3
  clear b1 b2 b3
  go_wp2_with fail
  refine (split_err _ _ hp.small hnone).mono ?_
  rintro e w4 ⟨⟨ev', rfl⟩, b4⟩
  have hb := bel_then hb b4
  clear b4
  go_wp2_with fail
  refine (ParseIP_err host _ (by omega) (by omega) hf.first hf.bare).mono ?_
  rintro e wy ⟨rfl, by_⟩
  have hb := bel_then hb by_
  have hn := ip_neq none 0 0
  go_wp2_with fail
  refine (Tryz.strings_HasPrefix host ⟨#[42, 46]⟩ _).mono ?_
  rw [show (({ data := #[42, 46] } : ByteArray).data.toList) = [42, 46] from rfl, hf.star]
  rintro e wx ⟨rfl, rfl⟩
  go_wp2_with fail
  refine (idna_ok _ _ hf.dsize hf.ascii).mono ?_
  rintro e wz ⟨rfl, ⟨nd, rfl⟩⟩
  have hb := pw_below_drewN hb nd
  have qw := hc.lt
  generalize World.drewN _ nd = wz at *
  obtain ⟨vi, vd, hc, hvi, hvd, hne⟩ := hc.below hb
  obtain ⟨xs, hown, hms⟩ := hvd
  have hlen : xs.length = doms.length := by simpa using hown.1
  have HD := Aside0.mk hvi
  have HN := Aside0.mk (fun g h1 h2 => hne g h2 h1)
  have HS := Aside0.mk hms
  have W := Aside0.mk hb
  have HU := Aside0.mk (show MtV wz (.dom host ⟨#[]⟩ false) (.iface 100 (.agg #[.string host, .string ⟨#[]⟩, .bool false])) from rfl)
  clear hb hvi hne hms
  have qq := blk_lt hc
  have c6 := blk_cell hc 7
  simp only [List.getElem?_toArray, List.getElem?_cons_zero, List.getElem?_cons_succ] at c6
  obtain ⟨i79, I79, Z79, S79, B79⟩ := info79
  go_wp2_with (at_builtin; refine wpList_append_lies _ rfl _ _ 75 rfl B 79 i79 .nilIface 1 16 Tryz.underlying75 I79 Z79 S79 B79 rfl (by decide) vd doms.length xs rfl (hown.alloc _) ⟨wz.heap.size, 0, none⟩ 1 1 [.iface 100 (.agg #[.string host, .string ⟨#[]⟩, .bool false])] rfl rfl (cell_one_new _ _ _) (by simp [Value.oneCell']) (by decide) (by simp only [maxLen]; omega) (by omega) (by simp; omega) (wz.heap.size + 1) (by simp) ?_)
  intro gv cv w5 own4 grow4 hat4 hlt4
  obtain ⟨hc4, hP⟩ := pushed (m := (.dom host ⟨#[]⟩ false)) rfl hc hB hown HS.out HD.out HN.out own4 grow4 hat4 HU.out
  obtain ⟨p1, p2, p3, p4, p5⟩ := hP 7
  have P1 := Aside0.mk p1
  have P2 := Aside0.mk p2
  have P3 := Aside0.mk p3
  have P4 := Aside0.mk p4
  have P5 := Aside0.mk p5
  clear hP p1 p2 p3 p4 p5 own4 grow4 hat4 hown c6
  have c6 := blk_cell hc4 7
  have fr := blk_frozen hc4
  simp only [List.getElem?_toArray, List.getElem?_cons_zero, List.getElem?_cons_succ] at c6
  go_wp2_with fail
  exact hK _ _ (IvF.mk ..) ⟨_, _, blk_put hc4 7 _ rfl, P2.out, P1.out, fun g h1 h2 => P3.out g h2 h1⟩ ((W.out.mono (by omega)).trans P4.out) ((Kp.below W.out).trans P5.out)

set_option maxRecDepth 1000000 in
set_option maxHeartbeats 400000 in
theorem round_name_port_own (p4 p6 : Addr) (B cb g n cap i : Nat) (x0 x1 x2 x3 x4 x5 : Value) (ips doms : List Mt) (u : Nat → Value) (w : World) (Q : Exit → Act → World → Prop) (s p host port : ByteArray) (dom : ByteArray) (G : GW p4 p6 w) (hi : i < n) (hn : n < 4611686018427387904)
    (hs : w.cell? ⟨g, i, none⟩ = some (.string s)) (hit : Item s p) (hp : Parts p host port) (hf : NameHost host dom true) (hB : B ≤ cb) (hc : CF B cb x0 x1 x2 x3 x4 x5 ips doms w) (hl : doms.length < 4398046511104)
    (hK : ∀ a' w', IvF cb g n cap (i + 1) a' → CF B cb x0 x1 x2 x3 x4 x5 ips (doms ++ [.dom dom port true]) w' → Below B w w' → Kp w w' → Q .normal a' w') : initBody.wp Tryz.prog Q (InitF cb g n cap i u) w := by
  have z0 : ((p.size : Int) == 0) = false := beq_eq_false_iff_ne.2 (by have := hp.size; omega)
  have z1 : (p.toList == [42]) = false := beq_eq_false_iff_ne.2 hp.star
  have z2 : ((host.size : Int) == 0) = false := beq_eq_false_iff_ne.2 (by have := hp.hsize; omega)
  have z3 : (bt host 0 == 91) = false := beq_eq_false_iff_ne.2 hp.head
  have z4 := bt_at host 0
  have z5 := hp.hsize
  have z6 := hp.hsmall
  simp only [Int.toNat_zero] at z4
  have z7 : (bt host 0 != 46) = true := by
    rcases hf.dom with ⟨_, h, _⟩ | ⟨h, _, _⟩
    · simp [h]
    · cases h
  have zd : dom = ({ data := #[46] } : ByteArray) ++ host := by
    rcases hf.dom with ⟨_, _, h⟩ | ⟨h, _, _⟩
    · exact h
    · cases h
  subst zd
  conv => arg 2; whnf
  unfold InitF
  go_wp2_with fail
  refine (trim_item hit G).mono ?_
  rintro e w1 ⟨rfl, b1⟩
  go_wp2_with fail
  refine (lower_item hit).mono ?_
  rintro e w2 ⟨rfl, b2⟩
  have hb := bel_then b1 b2
  go_wp2_with fail
  refine (plain_err hp.toPlain).mono ?_
  rintro e w3 ⟨⟨ev, rfl⟩, b3⟩
  have hb := bel_then hb b3
  clear b1 b2 b3
  go_wp2_with fail
  refine (parts_calls hp).mono ?_
  rintro e w4 ⟨rfl, rfl⟩
  go_wp2_with fail
  refine (ParseIP_err host _ (by omega) (by omega) hf.first hf.bare).mono ?_
  rintro e wy ⟨rfl, by_⟩
  have hb := bel_then hb by_
  have hn := ip_neq none 0 0
  go_wp2_with fail
  refine (Tryz.strings_HasPrefix host ⟨#[42, 46]⟩ _).mono ?_
  rw [show (({ data := #[42, 46] } : ByteArray).data.toList) = [42, 46] from rfl, hf.star]
  rintro e wx ⟨rfl, rfl⟩
  go_wp2_with fail
  refine (idna_ok _ _ hf.dsize hf.ascii).mono ?_
  rintro e wz ⟨rfl, ⟨nd, rfl⟩⟩
  have hb := pw_below_drewN hb nd
  have qw := hc.lt
  generalize World.drewN _ nd = wz at *
  obtain ⟨vi, vd, hc, hvi, hvd, hne⟩ := hc.below hb
  obtain ⟨xs, hown, hms⟩ := hvd
  have hlen : xs.length = doms.length := by simpa using hown.1
  have HD := Aside0.mk hvi
  have HN := Aside0.mk (fun g h1 h2 => hne g h2 h1)
  have HS := Aside0.mk hms
  have W := Aside0.mk hb
  have HU := Aside0.mk (show MtV wz (.dom (({ data := #[46] } : ByteArray) ++ host) port true) (.iface 100 (.agg #[.string (({ data := #[46] } : ByteArray) ++ host), .string port, .bool true])) from rfl)
  clear hb hvi hne hms
  have qq := blk_lt hc
  have c6 := blk_cell hc 7
  simp only [List.getElem?_toArray, List.getElem?_cons_zero, List.getElem?_cons_succ] at c6
  obtain ⟨i79, I79, Z79, S79, B79⟩ := info79
  go_wp2_with (at_builtin; refine wpList_append_lies _ rfl _ _ 75 rfl B 79 i79 .nilIface 1 16 Tryz.underlying75 I79 Z79 S79 B79 rfl (by decide) vd doms.length xs rfl (hown.alloc _) ⟨wz.heap.size, 0, none⟩ 1 1 [.iface 100 (.agg #[.string (({ data := #[46] } : ByteArray) ++ host), .string port, .bool true])] rfl rfl (cell_one_new _ _ _) (by simp [Value.oneCell']) (by decide) (by simp only [maxLen]; omega) (by omega) (by simp; omega) (wz.heap.size + 1) (by simp) ?_)
  intro gv cv w5 own4 grow4 hat4 hlt4
  obtain ⟨hc4, hP⟩ := pushed (m := (.dom (({ data := #[46] } : ByteArray) ++ host) port true)) rfl hc hB hown HS.out HD.out HN.out own4 grow4 hat4 HU.out
  obtain ⟨p1, p2, p3, p4, p5⟩ := hP 7
  have P1 := Aside0.mk p1
  have P2 := Aside0.mk p2
  have P3 := Aside0.mk p3
  have P4 := Aside0.mk p4
  have P5 := Aside0.mk p5
  clear hP p1 p2 p3 p4 p5 own4 grow4 hat4 hown c6
  have c6 := blk_cell hc4 7
  have fr := blk_frozen hc4
  simp only [List.getElem?_toArray, List.getElem?_cons_zero, List.getElem?_cons_succ] at c6
  go_wp2_with fail
  exact hK _ _ (IvF.mk ..) ⟨_, _, blk_put hc4 7 _ rfl, P2.out, P1.out, fun g h1 h2 => P3.out g h2 h1⟩ ((W.out.mono (by omega)).trans P4.out) ((Kp.below W.out).trans P5.out)

set_option maxRecDepth 1000000 in
set_option maxHeartbeats 400000 in
theorem round_name_port_dot (p4 p6 : Addr) (B cb g n cap i : Nat) (x0 x1 x2 x3 x4 x5 : Value) (ips doms : List Mt) (u : Nat → Value) (w : World) (Q : Exit → Act → World → Prop) (s p host port : ByteArray) (dom : ByteArray) (G : GW p4 p6 w) (hi : i < n) (hn : n < 4611686018427387904)
    (hs : w.cell? ⟨g, i, none⟩ = some (.string s)) (hit : Item s p) (hp : Parts p host port) (hf : NameHost host dom false) (hB : B ≤ cb) (hc : CF B cb x0 x1 x2 x3 x4 x5 ips doms w) (hl : doms.length < 4398046511104)
    (hK : ∀ a' w', IvF cb g n cap (i + 1) a' → CF B cb x0 x1 x2 x3 x4 x5 ips (doms ++ [.dom dom port false]) w' → Below B w w' → Kp w w' → Q .normal a' w') : initBody.wp Tryz.prog Q (InitF cb g n cap i u) w := by
  have z0 : ((p.size : Int) == 0) = false := beq_eq_false_iff_ne.2 (by have := hp.size; omega)
  have z1 : (p.toList == [42]) = false := beq_eq_false_iff_ne.2 hp.star
  have z2 : ((host.size : Int) == 0) = false := beq_eq_false_iff_ne.2 (by have := hp.hsize; omega)
  have z3 : (bt host 0 == 91) = false := beq_eq_false_iff_ne.2 hp.head
  have z4 := bt_at host 0
  have z5 := hp.hsize
  have z6 := hp.hsmall
  simp only [Int.toNat_zero] at z4
  have z7 : (bt host 0 != 46) = false := by
    rcases hf.dom with ⟨h, _, _⟩ | ⟨_, h, _⟩
    · cases h
    · simp [h]
  have zd : host = dom := by
    rcases hf.dom with ⟨h, _, _⟩ | ⟨_, _, h⟩
    · cases h
    · exact h.symm
  subst zd
  conv => arg 2; whnf
  unfold InitF
  go_wp2_with fail
  refine (trim_item hit G).mono ?_
  rintro e w1 ⟨rfl, b1⟩
  go_wp2_with fail
  refine (lower_item hit).mono ?_
  rintro e w2 ⟨rfl, b2⟩
  have hb := bel_then b1 b2
  go_wp2_with fail
  refine (plain_err hp.toPlain).mono ?_
  rintro e w3 ⟨⟨ev, rfl⟩, b3⟩
  have hb := bel_then hb b3
  clear b1 b2 b3
  go_wp2_with fail
  refine (parts_calls hp).mono ?_
  rintro e w4 ⟨rfl, rfl⟩
  go_wp2_with fail
  refine (ParseIP_err host _ (by omega) (by omega) hf.first hf.bare).mono ?_
  rintro e wy ⟨rfl, by_⟩
  have hb := bel_then hb by_
  have hn := ip_neq none 0 0
  go_wp2_with fail
  refine (Tryz.strings_HasPrefix host ⟨#[42, 46]⟩ _).mono ?_
  rw [show (({ data := #[42, 46] } : ByteArray).data.toList) = [42, 46] from rfl, hf.star]
  rintro e wx ⟨rfl, rfl⟩
  go_wp2_with fail
  refine (idna_ok _ _ hf.dsize hf.ascii).mono ?_
  rintro e wz ⟨rfl, ⟨nd, rfl⟩⟩
  have hb := pw_below_drewN hb nd
  have qw := hc.lt
  generalize World.drewN _ nd = wz at *
  obtain ⟨vi, vd, hc, hvi, hvd, hne⟩ := hc.below hb
  obtain ⟨xs, hown, hms⟩ := hvd
  have hlen : xs.length = doms.length := by simpa using hown.1
  have HD := Aside0.mk hvi
  have HN := Aside0.mk (fun g h1 h2 => hne g h2 h1)
  have HS := Aside0.mk hms
  have W := Aside0.mk hb
  have HU := Aside0.mk (show MtV wz (.dom host port false) (.iface 100 (.agg #[.string host, .string port, .bool false])) from rfl)
  clear hb hvi hne hms
  have qq := blk_lt hc
  have c6 := blk_cell hc 7
  simp only [List.getElem?_toArray, List.getElem?_cons_zero, List.getElem?_cons_succ] at c6
  obtain ⟨i79, I79, Z79, S79, B79⟩ := info79
  go_wp2_with (at_builtin; refine wpList_append_lies _ rfl _ _ 75 rfl B 79 i79 .nilIface 1 16 Tryz.underlying75 I79 Z79 S79 B79 rfl (by decide) vd doms.length xs rfl (hown.alloc _) ⟨wz.heap.size, 0, none⟩ 1 1 [.iface 100 (.agg #[.string host, .string port, .bool false])] rfl rfl (cell_one_new _ _ _) (by simp [Value.oneCell']) (by decide) (by simp only [maxLen]; omega) (by omega) (by simp; omega) (wz.heap.size + 1) (by simp) ?_)
  intro gv cv w5 own4 grow4 hat4 hlt4
  obtain ⟨hc4, hP⟩ := pushed (m := (.dom host port false)) rfl hc hB hown HS.out HD.out HN.out own4 grow4 hat4 HU.out
  obtain ⟨p1, p2, p3, p4, p5⟩ := hP 7
  have P1 := Aside0.mk p1
  have P2 := Aside0.mk p2
  have P3 := Aside0.mk p3
  have P4 := Aside0.mk p4
  have P5 := Aside0.mk p5
  clear hP p1 p2 p3 p4 p5 own4 grow4 hat4 hown c6
  have c6 := blk_cell hc4 7
  have fr := blk_frozen hc4
  simp only [List.getElem?_toArray, List.getElem?_cons_zero, List.getElem?_cons_succ] at c6
  go_wp2_with fail
  exact hK _ _ (IvF.mk ..) ⟨_, _, blk_put hc4 7 _ rfl, P2.out, P1.out, fun g h1 h2 => P3.out g h2 h1⟩ ((W.out.mono (by omega)).trans P4.out) ((Kp.below W.out).trans P5.out)

end Go.Proofs.YtnchgmjeoajmiaaGreatDoor

/-! Inite -/
namespace Go.Proofs.YtnchgmjeoajmiaaGreatDoor
open Go.RowKit Go.Proofs.YtnchgmjeoajmiaaGreatDoorW.PrintWords
set_option linter.unusedSimpArgs false
set_option linter.unusedVariables false

/-- What an item of the list does. -/
inductive Eff where
  | skip
  | star
  | ip (m : Mt)
  | dom (m : Mt)
inductive Does : ByteArray → Eff → Prop
  | blank {s} : Item s ⟨#[]⟩ → Does s .skip
  | star {s} : Item s ⟨#[42]⟩ → Does s .star
  | net {s p a b c d n m0 m1 m2 m3} : Item s p → NetItem p a b c d n m0 m1 m2 m3 → Does s (.ip (.net [bits .and .u8 a m0, bits .and .u8 b m1, bits .and .u8 c m2, bits .and .u8 d m3] [m0, m1, m2, m3]))
  | addrBare {s p host port a b c d} : Item s p → Alone p host port → Four host a b c d → Does s (.ip (.ip a b c d port))
  | addrPort {s p host port a b c d} : Item s p → Parts p host port → Four host a b c d → Does s (.ip (.ip a b c d port))
  | nameBare {s p host port dom mh} : Item s p → Alone p host port → NameHost host dom mh → Does s (.dom (.dom dom port mh))
  | namePort {s p host port dom mh} : Item s p → Parts p host port → NameHost host dom mh → Does s (.dom (.dom dom port mh))

/-- The two lists behind the items. -/
def lists : List Eff → List Mt → List Mt → List Mt × List Mt
  | [], i, d => (i, d)
  | .skip :: r, i, d => lists r i d
  | .star :: _, _, _ => ([.all], [.all])
  | .ip m :: r, i, d => lists r (i ++ [m]) d
  | .dom m :: r, i, d => lists r i (d ++ [m])

set_option maxRecDepth 1000000 in
set_option maxHeartbeats 400000 in
theorem round_end (cb g n cap : Nat) (u : Nat → Value) (w : World) (Q : Exit → Act → World → Prop) (hK : ∀ a, a.defers = [] → Q (.exit 0) a w) : initBody.wp Tryz.prog Q (InitF cb g n cap n u) w := by
  conv => arg 2; whnf
  unfold InitF
  go_wp2_with fail
  rfl

/-- What the loop keeps. -/
def LI (wB : World) (cb g n cap : Nat) (cur : Array Value) (x0 x1 x2 x3 x4 x5 : Value) (effs : List Eff) (L : List Mt × List Mt) (a : Act) (w' : World) : Prop :=
  ∃ i ips doms, i ≤ n ∧ IvF cb g n cap i a ∧ CF wB.heap.size cb x0 x1 x2 x3 x4 x5 ips doms w' ∧ lists (effs.drop i) ips doms = L ∧ Below wB.heap.size wB w' ∧ w'.heap[g]? = some (.cells cur 9 (0, 0)) ∧ ips.length ≤ i ∧ doms.length ≤ i

def mu (n : Nat) (a : Act) : Nat := match (a.tmps[55]? : Option Value) with
  | some (Value.int _ i) => n - i.toNat
  | _ => 0
set_option maxRecDepth 1000000 in
theorem mu_at {cb g n cap i : Nat} {a : Act} (h : IvF cb g n cap i a) : mu n a = n - i := by
  obtain ⟨u, rfl⟩ := h
  rfl

theorem round_all (p4 p6 : Addr) (wB : World) (cb g n cap : Nat) (cur : Array Value) (x0 x1 x2 x3 x4 x5 : Value) (r : List ByteArray) (effs : List Eff) (L : List Mt × List Mt) (Q0 : Exit → Act → World → Prop) (G : GW p4 p6 wB) (hB : wB.heap.size ≤ cb) (hn : n < 4398046511104)
    (hr : r.length = n) (he : effs.length = n) (hd : ∀ (j : Nat) s e, r[j]? = some s → effs[j]? = some e → Does s e) (hcur : ∀ (j : Nat) s, r[j]? = some s → cur[j]? = some (.string s))
    (hQ : ∀ a w', a.defers = [] → CF wB.heap.size cb x0 x1 x2 x3 x4 x5 L.1 L.2 w' → Below wB.heap.size wB w' → Q0 (.exit 0) a w' ∧ Q0 .ret a w') (a : Act) (w : World) (hI : LI wB cb g n cap cur x0 x1 x2 x3 x4 x5 effs L a w) :
    initBody.wp Tryz.prog (Exit.then (fun a' w' => LI wB cb g n cap cur x0 x1 x2 x3 x4 x5 effs L a' w' ∧ mu n a' < mu n a) Q0) a w := by
  obtain ⟨i, ips, doms, hin, ha, hc, hl, hb, hg, l1, l2⟩ := hI
  have hmu := mu_at ha
  have G' := G.below hb
  rcases Nat.lt_or_ge i n with hi | hge
  · have hri : r[i]? = some (r[i]'(by omega)) := List.getElem?_eq_getElem (by omega)
    have hei : effs[i]? = some (effs[i]'(by omega)) := List.getElem?_eq_getElem (by omega)
    have hs : w.cell? ⟨g, i, none⟩ = some (.string (r[i]'(by omega))) := (blk_cell hg i).trans (hcur i _ hri)
    have hdo := hd i _ _ hri hei
    have hdrop : effs.drop i = effs[i]'(by omega) :: effs.drop (i + 1) := List.drop_eq_getElem_cons (by omega)
    rw [hdrop] at hl
    have next : ∀ a' w' ips' doms', IvF cb g n cap (i + 1) a' → CF wB.heap.size cb x0 x1 x2 x3 x4 x5 ips' doms' w' → lists (effs.drop (i + 1)) ips' doms' = L → Below wB.heap.size w w' → Kp w w' → ips'.length ≤ i + 1 → doms'.length ≤ i + 1 →
        LI wB cb g n cap cur x0 x1 x2 x3 x4 x5 effs L a' w' ∧ mu n a' < mu n a := fun a' w' ips' doms' h1 h2 h3 h4 h5 h6 h7 =>
      ⟨⟨i + 1, ips', doms', hi, h1, h2, h3, hb.trans h4, h5 _ _ _ hg (by decide) (by decide), h6, h7⟩, by rw [mu_at h1, hmu]; omega⟩
    obtain ⟨u, rfl⟩ := ha
    generalize effs[i]'(by omega) = e at hdo hl
    cases hdo with
    | blank hit =>
      exact round_blank p4 p6 cb g n cap i u w _ _ G' hi (by omega) hs hit fun a' w' h1 h2 => next a' w' ips doms h1 (hc.below h2) hl (h2.mono hb.size) (Kp.below h2) (by omega) (by omega)
    | star hit =>
      refine round_star p4 p6 _ cb g n cap i x0 x1 x2 x3 x4 x5 ips doms u w _ _ G' hi (by omega) hs hit hB hc fun a' w' h0 h1 h2 => ?_
      subst hl
      exact (hQ a' w' h0 h1 (hb.trans h2)).2
    | net hit hp =>
      exact round_net p4 p6 _ cb g n cap i x0 x1 x2 x3 x4 x5 ips doms u w _ _ _ _ _ _ _ _ _ _ _ _ G' hi (by omega) hs hit hp hB hc (by omega) fun a' w' h1 h2 h3 h4 => next a' w' _ _ h1 h2 hl h3 h4 (by simp; omega) (by omega)
    | addrBare hit hp hf =>
      exact round_addr_bare p4 p6 _ cb g n cap i x0 x1 x2 x3 x4 x5 ips doms u w _ _ _ _ _ _ _ _ _ G' hi (by omega) hs hit hp hf hB hc (by omega) fun a' w' h1 h2 h3 h4 => next a' w' _ _ h1 h2 hl h3 h4 (by simp; omega) (by omega)
    | addrPort hit hp hf =>
      exact round_addr_port p4 p6 _ cb g n cap i x0 x1 x2 x3 x4 x5 ips doms u w _ _ _ _ _ _ _ _ _ G' hi (by omega) hs hit hp hf hB hc (by omega) fun a' w' h1 h2 h3 h4 => next a' w' _ _ h1 h2 hl h3 h4 (by simp; omega) (by omega)
    | @nameBare p host port dom mh hit hp hf =>
      cases mh with
      | true => exact round_name_bare_own p4 p6 _ cb g n cap i x0 x1 x2 x3 x4 x5 ips doms u w _ _ _ _ _ _ G' hi (by omega) hs hit hp hf hB hc (by omega) fun a' w' h1 h2 h3 h4 => next a' w' _ _ h1 h2 hl h3 h4 (by omega) (by simp; omega)
      | false => exact round_name_bare_dot p4 p6 _ cb g n cap i x0 x1 x2 x3 x4 x5 ips doms u w _ _ _ _ _ _ G' hi (by omega) hs hit hp hf hB hc (by omega) fun a' w' h1 h2 h3 h4 => next a' w' _ _ h1 h2 hl h3 h4 (by omega) (by simp; omega)
    | @namePort p host port dom mh hit hp hf =>
      cases mh with
      | true => exact round_name_port_own p4 p6 _ cb g n cap i x0 x1 x2 x3 x4 x5 ips doms u w _ _ _ _ _ _ G' hi (by omega) hs hit hp hf hB hc (by omega) fun a' w' h1 h2 h3 h4 => next a' w' _ _ h1 h2 hl h3 h4 (by omega) (by simp; omega)
      | false => exact round_name_port_dot p4 p6 _ cb g n cap i x0 x1 x2 x3 x4 x5 ips doms u w _ _ _ _ _ _ G' hi (by omega) hs hit hp hf hB hc (by omega) fun a' w' h1 h2 h3 h4 => next a' w' _ _ h1 h2 hl h3 h4 (by omega) (by simp; omega)
  · have : i = n := by omega
    subst this
    obtain ⟨u, rfl⟩ := ha
    rw [← he, List.drop_length] at hl
    simp only [lists] at hl
    subst hl
    exact round_end cb g i cap u w _ fun a h0 => (hQ a w h0 hc hb).1

theorem loop_all (p4 p6 : Addr) (wB : World) (cb g n cap : Nat) (cur : Array Value) (x0 x1 x2 x3 x4 x5 : Value) (r : List ByteArray) (effs : List Eff) (L : List Mt × List Mt) (Q0 : Exit → Act → World → Prop) (G : GW p4 p6 wB) (hB : wB.heap.size ≤ cb) (hn : n < 4398046511104)
    (hr : r.length = n) (he : effs.length = n) (hd : ∀ (j : Nat) s e, r[j]? = some s → effs[j]? = some e → Does s e) (hcur : ∀ (j : Nat) s, r[j]? = some s → cur[j]? = some (.string s))
    (hQ : ∀ a w', a.defers = [] → CF wB.heap.size cb x0 x1 x2 x3 x4 x5 L.1 L.2 w' → Below wB.heap.size wB w' → Q0 (.exit 0) a w' ∧ Q0 .ret a w') (a : Act) (w : World) (hI : LI wB cb g n cap cur x0 x1 x2 x3 x4 x5 effs L a w) :
    (Code.loop initBody).wp Tryz.prog Q0 a w :=
  wp_loop (LI wB cb g n cap cur x0 x1 x2 x3 x4 x5 effs L) (fun a _ => mu n a) hI fun a w hI => round_all p4 p6 wB cb g n cap cur x0 x1 x2 x3 x4 x5 r effs L Q0 G hB hn hr he hd hcur hQ a w hI
end Go.Proofs.YtnchgmjeoajmiaaGreatDoor

/-! Initf -/
namespace Go.Proofs.YtnchgmjeoajmiaaGreatDoor
open Go.RowKit Go.Proofs.YtnchgmjeoajmiaaGreatDoorW.PrintWords
set_option linter.unusedSimpArgs false
set_option linter.unusedVariables false

set_option maxRecDepth 100000 in
set_option maxHeartbeats 400000 in
theorem parseProxy_none (w : World) : Calls Tryz.prog 51 #[.string ⟨#[]⟩] w fun e w' => e = .returned (.tuple #[.pointer none, .nilIface]) ∧ w' = w := by
  go_enter Tryz.func51, Tryz.ntmps51
  go_wp2_with fail
  go_ret2
  exact ⟨rfl, rfl⟩

abbrev comma : ByteArray := { data := #[44] }

/-- A row of texts that a call made: its block. -/
theorem row_block {w : World} {base : Nat} {ok : Nat → Prop} {v : Value} {r : List ByteArray} (h : Kd.string.R 9 w base ok v r) (h1 : 1 ≤ r.length) :
    ∃ g cap cur, v = .slice (some ⟨g, 0, none⟩) r.length cap ∧ w.heap[g]? = some (.cells cur 9 (0, 0)) ∧ ∀ (j : Nat) s, r[j]? = some s → cur[j]? = some (.string s) := by
  obtain ⟨_, inner, ho, hr⟩ := h
  rcases ho.2 with ⟨_, h0⟩ | ⟨g, cap, cur, hv, hb, hg, hn, hc, hs, ht⟩
  · omega
  · refine ⟨g, cap, cur, hv, hg, fun j s hj => ?_⟩
    have hlt : j < r.length := (List.getElem?_eq_some_iff.1 hj).1
    have h2 := hr.2 j s hj
    have e : ((inner.drop (j * 1)).take 1) = [.string s] := h2
    have ht : List.take (r.length * 1) cur.toList = inner := ht
    have e2 : inner[j]? = some (.string s) := by
      have := congrArg (fun l => l[0]?) e
      simpa [List.getElem?_take, List.getElem?_drop] using this
    rw [← ht, List.getElem?_take] at e2
    have hlt' : j < r.length * 1 := by omega
    rw [if_pos hlt'] at e2
    simpa using e2

set_option maxRecDepth 1000000 in
set_option maxHeartbeats 400000 in
theorem init_calls (p4 p6 : Addr) (wB : World) (k cb : Nat) (no : ByteArray) (r : List ByteArray) (effs : List Eff) (w : World) (G : GW p4 p6 wB) (hBw : Below wB.heap.size wB w) (hB : wB.heap.size ≤ cb) (h : P.httpproxy_zzSplit.f k no comma = some r)
    (h1 : 1 ≤ r.length) (hn : r.length < 4398046511104) (he : effs.length = r.length) (hd : ∀ (j : Nat) s e, r[j]? = some s → effs[j]? = some e → Does s e)
    (hc : w.heap[cb]? = some (.cells #[.string ⟨#[]⟩, .string ⟨#[]⟩, .string no, .bool false, .pointer none, .pointer none, .slice none 0 0, .slice none 0 0] 77 (0, 0))) :
    Calls Tryz.prog 47 #[.pointer (some ⟨cb, 0, none⟩)] w fun e w' => e = .returned (.tuple #[]) ∧ CF wB.heap.size cb (.string ⟨#[]⟩) (.string ⟨#[]⟩) (.string no) (.bool false) (.pointer none) (.pointer none) (lists effs [] []).1 (lists effs [] []).2 w' ∧ Below wB.heap.size wB w' := by
  have H := fun w => Aside0.mk (P.httpproxy_zzSplit.calls k no comma r w h)
  have d := blk_cell hc
  have d0 := d 0
  have d1 := d 1
  have d2 := d 2
  have d4 := d 4
  have d5 := d 5
  have fr := blk_frozen hc
  simp only [List.getElem?_toArray, List.getElem?_cons_zero, List.getElem?_cons_succ] at d0 d1 d2 d4 d5
  clear h d
  go_enter Tryz.func47, Tryz.ntmps47
  go_wp2_with fail
  refine (parseProxy_none _).mono ?_
  rintro e w1 ⟨rfl, rfl⟩
  have hc1 : (w1.setCell ⟨cb, 5, none⟩ (.pointer none)).heap[cb]? = some (.cells #[.string ⟨#[]⟩, .string ⟨#[]⟩, .string no, .bool false, .pointer none, .pointer none, .slice none 0 0, .slice none 0 0] 77 (0, 0)) := blk_put hc 5 _ rfl
  have e2 := blk_cell hc1 2
  have e1 := blk_cell hc1 1
  have e4 := blk_cell hc1 4
  have fr1 := blk_frozen hc1
  simp only [List.getElem?_toArray, List.getElem?_cons_zero, List.getElem?_cons_succ] at e1 e2 e4
  go_wp2_with fail
  refine (parseProxy_none _).mono ?_
  rintro e w2 ⟨rfl, rfl⟩
  have hc2 : ((w1.setCell ⟨cb, 5, none⟩ (.pointer none)).setCell ⟨cb, 4, none⟩ (.pointer none)).heap[cb]? = some (.cells #[.string ⟨#[]⟩, .string ⟨#[]⟩, .string no, .bool false, .pointer none, .pointer none, .slice none 0 0, .slice none 0 0] 77 (0, 0)) := blk_put hc1 4 _ rfl
  have c2 := blk_cell hc2 2
  simp only [List.getElem?_toArray, List.getElem?_cons_zero, List.getElem?_cons_succ] at c2
  have B2 : Below wB.heap.size wB ((w1.setCell ⟨cb, 5, none⟩ (.pointer none)).setCell ⟨cb, 4, none⟩ (.pointer none)) := (hBw.setCell (p := ⟨cb, 5, none⟩) hB _).setCell (p := ⟨cb, 4, none⟩) hB _
  go_wp2_with fail
  refine ((H _).out).mono ?_
  rintro e w3 ⟨v, rfl, hv, hb⟩
  obtain ⟨g, cap, cur, rfl, hg, hcur⟩ := row_block hv h1
  have hc3 := (hb.block cb (blk_lt hc2)).trans hc2
  have B3 := B2.trans (hb.mono B2.size)
  clear hv hb hc2 c2 B2 e1 e2 e4 fr1 hc1 d0 d1 d2 d4 d5 fr hc
  go_wp2_with fail
  refine loop_all p4 p6 wB cb g r.length cap cur (.string ⟨#[]⟩) (.string ⟨#[]⟩) (.string no) (.bool false) (.pointer none) (.pointer none) r effs (lists effs [] []) _ G hB hn rfl he hd hcur ?_ _ _ ⟨0, [], [], Nat.zero_le _, IvF.mk .., ⟨_, _, hc3, Ms.nil _ _, Ms.nil _ _, fun g h => by simp [Value.ownBlock] at h⟩, rfl, B3, hg, Nat.le_refl _, Nat.le_refl _⟩
  intro a w' h0 h1 h2
  constructor
  · go_wp2
    exact bodyPost_end (v := .tuple #[]) (by simp [results, Tryz.f47]) h0 ⟨rfl, h1, h2⟩
  · go_wp2
    exact bodyPost_ret (v := .tuple #[]) (by simp [results, Tryz.f47]) h0 ⟨rfl, h1, h2⟩
end Go.Proofs.YtnchgmjeoajmiaaGreatDoor

/-! Usea -/
namespace Go.Proofs.YtnchgmjeoajmiaaGreatDoor
open Go.RowKit Go.Proofs.YtnchgmjeoajmiaaGreatDoorW.PrintWords
set_option linter.unusedSimpArgs false
set_option linter.unusedVariables false

/-- What a matcher says to a host, a port and, perhaps, four bytes. -/
def mok (h p : ByteArray) (x : Option (Int × Int × Int × Int)) : Mt → Bool
  | .all => true
  | .net l m => match x with
    | none => false
    | some (a, b, c, d) => under l m [a, b, c, d]
  | .ip a b c d mp => match x with
    | none => false
    | some (x0, x1, x2, x3) => ((strOfNums [a, b, c, d]).toList == (strOfNums [x0, x1, x2, x3]).toList) && portOk mp p
  | .dom host port mh => match x with
    | none => domOk host port mh h p
    | some _ => false

/-- The matchers that init makes. -/
def Good : Mt → Prop
  | .all => True
  | .net l m => l.length = 4 ∧ m.length = 4
  | .ip _ _ _ _ _ => True
  | .dom host _ _ => 1 ≤ host.size ∧ host.size ≤ 9223372036854775807

/-- The bytes of an address, or none. -/
def IpV (w : World) (x : Option (Int × Int × Int × Int)) (v : Value) : Prop := match x with
  | none => v = .slice none 0 0
  | some (a, b, c, d) => ∃ g cap, v = .slice (some ⟨g, 0, none⟩) 4 cap ∧ 4 ≤ cap ∧ w.cell? ⟨g, 0, none⟩ = some (.int .u8 a) ∧ w.cell? ⟨g, 1, none⟩ = some (.int .u8 b) ∧ w.cell? ⟨g, 2, none⟩ = some (.int .u8 c) ∧ w.cell? ⟨g, 3, none⟩ = some (.int .u8 d)

theorem C_four {w : World} {g : Nat} {a b c d : Int} (h0 : w.cell? ⟨g, 0, none⟩ = some (.int .u8 a)) (h1 : w.cell? ⟨g, 1, none⟩ = some (.int .u8 b)) (h2 : w.cell? ⟨g, 2, none⟩ = some (.int .u8 c)) (h3 : w.cell? ⟨g, 3, none⟩ = some (.int .u8 d)) :
    Kd.C (Kd.int .u8) w (some ⟨g, 0, none⟩) 4 [a, b, c, d] := by
  refine ⟨rfl, by decide, fun _ => ⟨⟨g, 0, none⟩, rfl, fun j p hj => ⟨[.int .u8 p], rfl, rfl, fun i u hu => ?_⟩⟩⟩
  match i, hu with
  | 0, hu =>
    simp only [List.getElem?_cons_zero, Option.some.injEq] at hu
    subst hu
    match j, hj with
    | 0, hj => simp only [List.getElem?_cons_zero, Option.some.injEq] at hj; subst hj; exact h0
    | 1, hj => simp at hj; subst hj; exact h1
    | 2, hj => simp at hj; subst hj; exact h2
    | 3, hj => simp at hj; subst hj; exact h3

theorem say_net {W w : World} {l m : List Int} {v ipv : Value} {x : Option (Int × Int × Int × Int)} (hv : MtV W (.net l m) v) (hg : Good (.net l m)) (hb : Below W.heap.size W w) (hx : IpV W x ipv) (h p : ByteArray) :
    ∃ q, v = .iface 91 (.agg #[.pointer (some ⟨q, 0, none⟩)]) ∧ Calls Tryz.prog 199 #[.agg #[.pointer (some ⟨q, 0, none⟩)], .string h, .string p, ipv] w fun e w' => e = .returned (.bool (mok h p x (.net l m))) ∧ Below w.heap.size w w' := by
  obtain ⟨q, gi, gm, rfl, h1, h2, h3⟩ := hv
  obtain ⟨hl, hm⟩ := hg
  have k1 := (hb.block q (blk_lt h1)).trans h1
  have k2 := (hb.block gi (blk_lt h2)).trans h2
  have k3 := (hb.block gm (blk_lt h3)).trans h3
  have c0 := blk_cell k1 0
  have c1 := blk_cell k1 1
  simp only [List.getElem?_toArray, List.getElem?_cons_zero, List.getElem?_cons_succ] at c0 c1
  refine ⟨q, rfl, ?_⟩
  match l, hl, m, hm with
  | [l0, l1, l2, l3], _, [m0, m1, m2, m3], _ =>
    match x, hx with
    | none, hx =>
      have hx : ipv = .slice none 0 0 := hx
      subst hx
      exact match_cidr0 q gi gm h p w c0 c1
    | some (a, b, c, d), ⟨g, cap, e, hcap, e0, e1, e2, e3⟩ =>
      subst e
      exact match_cidr4 q gi gm g cap l0 l1 l2 l3 m0 m1 m2 m3 a b c d h p w c0 c1 k2 k3 (cell_on hb e0) (cell_on hb e1) (cell_on hb e2) (cell_on hb e3)

theorem say_ip {W w : World} {a b c d : Int} {mp : ByteArray} {v ipv : Value} {x : Option (Int × Int × Int × Int)} (hv : MtV W (.ip a b c d mp) v) (hb : Below W.heap.size W w) (hx : IpV W x ipv) (h p : ByteArray) :
    ∃ q, v = .iface 96 (.agg #[.slice (some ⟨q, 0, none⟩) 16 16, .string mp]) ∧ Calls Tryz.prog 201 #[.agg #[.slice (some ⟨q, 0, none⟩) 16 16, .string mp], .string h, .string p, ipv] w fun e w' => e = .returned (.bool (mok h p x (.ip a b c d mp))) ∧ Below w.heap.size w w' := by
  obtain ⟨q, rfl, h1⟩ := hv
  have k1 := (hb.block q (blk_lt h1)).trans h1
  refine ⟨q, rfl, ?_⟩
  match x, hx with
  | none, hx =>
    have hx : ipv = .slice none 0 0 := hx
    subst hx
    exact match_ip0 q h p mp w
  | some (x0, x1, x2, x3), ⟨g, cap, e, hcap, e0, e1, e2, e3⟩ =>
    subst e
    exact match_ip4 q g cap a b c d x0 x1 x2 x3 h p mp w _ rfl k1 (C_four (cell_on hb e0) (cell_on hb e1) (cell_on hb e2) (cell_on hb e3)) hcap

theorem say_dom {W w : World} {host port : ByteArray} {mh : Bool} {v ipv : Value} {x : Option (Int × Int × Int × Int)} (hv : MtV W (.dom host port mh) v) (hg : Good (.dom host port mh)) (hx : IpV W x ipv) (h p : ByteArray) (hh : h.size ≤ 9223372036854775807) :
    v = .iface 100 (.agg #[.string host, .string port, .bool mh]) ∧ Calls Tryz.prog 202 #[.agg #[.string host, .string port, .bool mh], .string h, .string p, ipv] w fun e w' => e = .returned (.bool (mok h p x (.dom host port mh))) ∧ Below w.heap.size w w' := by
  refine ⟨hv, ?_⟩
  match x, hx with
  | none, hx =>
    have hx : ipv = .slice none 0 0 := hx
    subst hx
    exact match_dom0 host port h p mh w hh hg.1 hg.2
  | some (x0, x1, x2, x3), ⟨g, cap, e, hcap, e0, e1, e2, e3⟩ =>
    subst e
    exact match_dom4 host port h p mh _ _ _ w

theorem say_all {W w : World} {v : Value} (hv : MtV W .all v) (h p : ByteArray) (ipv : Value) (x : Option (Int × Int × Int × Int)) :
    v = .iface 86 (.agg #[]) ∧ Calls Tryz.prog 197 #[.agg #[], .string h, .string p, ipv] w fun e w' => e = .returned (.bool (mok h p x .all)) ∧ Below w.heap.size w w' := ⟨hv, match_all h p ipv w⟩

/-- An element of a list of matchers. -/
theorem Ms.cell {w w' : World} {B : Nat} {v : Value} {ms : List Mt} (h : Ms w B v ms) (hb : Below w.heap.size w w') {j : Nat} {m : Mt} (hj : ms[j]? = some m) :
    ∃ g cap u, v = .slice (some ⟨g, 0, none⟩) ms.length cap ∧ w'.cell? ⟨g, j, none⟩ = some u ∧ MtV w m u := by
  obtain ⟨xs, ⟨hl, ho⟩, hm⟩ := h
  have hlt : j < ms.length := (List.getElem?_eq_some_iff.1 hj).1
  rcases ho with ⟨_, h0⟩ | ⟨g, cap, cur, hv, hB, hg, hn, hc, hs, ht⟩
  · omega
  · obtain ⟨u, h1, h2⟩ := hm j m hj
    refine ⟨g, cap, u, hv, ?_, h2⟩
    rw [blk_cell ((hb.block g (blk_lt hg)).trans hg)]
    rw [← ht, List.getElem?_take] at h1
    have : j < ms.length * 1 := by omega
    rw [if_pos this] at h1
    simpa using h1

theorem Ms.len {w : World} {B : Nat} {v : Value} {ms : List Mt} (h : Ms w B v ms) : ∃ A cap, v = .slice A ms.length cap := by
  obtain ⟨xs, ⟨hl, ho⟩, hm⟩ := h
  rcases ho with ⟨hv, h0⟩ | ⟨g, cap, cur, hv, hB, hg, hn, hc, hs, ht⟩
  · exact ⟨none, 0, by rw [hv, h0]⟩
  · exact ⟨_, cap, hv⟩
end Go.Proofs.YtnchgmjeoajmiaaGreatDoor

/-! Useb -/
namespace Go.Proofs.YtnchgmjeoajmiaaGreatDoor
open Go.RowKit Go.Proofs.YtnchgmjeoajmiaaGreatDoorW.PrintWords
set_option linter.unusedSimpArgs false
set_option linter.unusedVariables false

/-- A text of a host with a name and a port. -/
structure NameAddr (s host port low : ByteArray) : Prop where
  ssize : 1 ≤ s.size
  split : ∃ i, Splits s i ∧ s.extract 0 i = host ∧ s.extract (i + 1) s.size = port
  hsize : 0 < host.size
  hsmall : host.size ≤ 140737488355328
  first : ¬ (48 ≤ bt host 0 ∧ bt host 0 ≤ 57)
  bare : ∀ i : Int, 0 ≤ i → i < host.size → bt host i ≠ 58 ∧ bt host i ≠ 37
  item : Item host low
  lsmall : low.size ≤ 140737488355328

theorem NameAddr.calls {s host port low : ByteArray} {w : World} (h : NameAddr s host port low) : Calls Tryz.prog 56 #[.string s] w fun e w' => e = .returned (.tuple #[.string host, .string port, .nilIface]) ∧ w = w' := by
  obtain ⟨i, hi, h1, h2⟩ := h.split
  have := split_ok s i w hi
  rw [h1, h2] at this
  exact this

/-- The loop over a list: so far no matcher has said yes. -/
def NotYet (W : World) (h p : ByteArray) (x : Option (Int × Int × Int × Int)) (ms : List Mt) (i k : Nat) (w : World) : Prop :=
  i ≤ ms.length ∧ k + i = ms.length ∧ Below W.heap.size W w ∧ ∀ (j : Nat) m, j < i → ms[j]? = some m → mok h p x m = false

theorem NotYet.all {W w : World} {h p : ByteArray} {x : Option (Int × Int × Int × Int)} {ms : List Mt} {k : Nat} (hn : NotYet W h p x ms ms.length k w) : ms.any (mok h p x) = false := by
  rw [List.any_eq_false]
  intro m hm
  obtain ⟨j, hj⟩ := List.getElem?_of_mem hm
  simp [hn.2.2.2 j m (List.getElem?_eq_some_iff.1 hj).1 hj]
theorem NotYet.next {W w w' : World} {h p : ByteArray} {x : Option (Int × Int × Int × Int)} {ms : List Mt} {i k : Nat} {m : Mt} (hn : NotYet W h p x ms i k w) (hm : ms[i]? = some m) (hf : mok h p x m = false) (hb : Below w.heap.size w w') : NotYet W h p x ms (i + 1) (k - 1) w' := by
  obtain ⟨h1, h2, h3, h4⟩ := hn
  have hlt : i < ms.length := (List.getElem?_eq_some_iff.1 hm).1
  refine ⟨by omega, by omega, bel_then h3 hb, fun j m' hj hm' => ?_⟩
  rcases Nat.lt_or_ge j i with hlt | hge
  · exact h4 j m' hlt hm'
  · have : j = i := by omega
    subst this
    rw [hm] at hm'
    injection hm' with hm'
    subst hm'
    exact hf
theorem any_true {h p : ByteArray} {x : Option (Int × Int × Int × Int)} {ms : List Mt} {i : Nat} {m : Mt} (hm : ms[i]? = some m) (hf : mok h p x m = true) : ms.any (mok h p x) = true :=
  List.any_eq_true.2 ⟨m, List.mem_of_getElem? hm, hf⟩

set_option maxRecDepth 100000 in
set_option maxHeartbeats 1000000 in
theorem use_name (p4 p6 : Addr) (B cb : Nat) (x0 x1 x2 x3 x4 x5 : Value) (ips doms : List Mt) (W : World) (s host port low : ByteArray) (G : GW p4 p6 W) (hc : CF B cb x0 x1 x2 x3 x4 x5 ips doms W) (hs : NameAddr s host port low)
    (hloc : host.toList ≠ [108, 111, 99, 97, 108, 104, 111, 115, 116]) (good : ∀ m ∈ doms, Good m) (hl : doms.length < 4398046511106) :
    Calls Tryz.prog 48 #[.pointer (some ⟨cb, 0, none⟩), .string s] W fun e w' => e = .returned (.bool (!(doms.any (mok low port none)))) ∧ Below W.heap.size W w' := by
  have z0 : ((s.size : Int) == 0) = false := beq_eq_false_iff_ne.2 (by have := hs.ssize; omega)
  have z1 : (host.toList == [108, 111, 99, 97, 108, 104, 111, 115, 116]) = false := beq_eq_false_iff_ne.2 hloc
  obtain ⟨vi, vd, hcb, hvi, hvd, _⟩ := hc
  have hn := ip_neq none 0 0
  obtain ⟨A, cap, hvl⟩ := hvd.len
  subst hvl
  have q := blk_lt hcb
  have HC := Aside0.mk hcb
  have HD := Aside0.mk hvd
  have HG := Aside0.mk good
  clear hvi hvd good hloc hcb
  go_enter Tryz.func48, Tryz.ntmps48
  go_wp2_with fail
  refine (hs.calls).mono ?_
  rintro e w1 ⟨rfl, rfl⟩
  go_wp2_with fail
  refine (parseAddr_err host _ (by have := hs.hsmall; omega) hs.hsize hs.first hs.bare).mono ?_
  rintro e w2 ⟨⟨ve, rfl⟩, b1⟩
  go_wp2_with fail
  have b2 := b1.alloc b1.size (.cells #[.int .u64 0, .int .u64 0, .pointer none] 108)
  refine (trim_item hs.item (G.below b2)).mono ?_
  rintro e w3 ⟨rfl, b3⟩
  have b3 := bel_then b2 b3
  go_wp2_with fail
  refine (lower_item hs.item).mono ?_
  rintro e w4 ⟨rfl, b4⟩
  have b4 := bel_then b3 b4
  have d7 := blk_cell ((b4.block cb q).trans HC.out) 7
  simp only [List.getElem?_toArray, List.getElem?_cons_zero, List.getElem?_cons_succ] at d7
  have N0 := Aside0.mk (show NotYet W low port none doms 0 doms.length w4 from ⟨Nat.zero_le _, by omega, b4, fun j m h => absurd h (Nat.not_lt_zero _)⟩)
  clear b1 b2 b3 b4
  have hlow : low.size ≤ 9223372036854775807 := by have := hs.lsmall; omega
  go_wp2_with fail
  go_loopg [63] doms.length (fun kq v w' => ∃ i : Nat, v = .int .i64 i ∧ Aside0 (NotYet W low port none doms i kq w'))
  case atStart => exact ⟨0, rfl, N0⟩
  case round =>
    clear N0
    obtain ⟨i, rfl, HA⟩ := hrel
    have hle := HA.out.1
    have hk := HA.out.2.1
    rcases Nat.lt_or_ge i doms.length with hi | hge
    · have HM := Aside0.mk (show doms[i]? = some (doms[i]'hi) from List.getElem?_eq_getElem hi)
      have hgood := HG.out _ (List.getElem_mem hi)
      obtain ⟨g, cap', u, hv, hcell, hmt⟩ := HD.out.cell HA.out.2.2.1 HM.out
      injection hv with hA _ hcap
      subst hA
      subst hcap
      generalize doms[i]'hi = m at HM hmt hgood
      have hby := HA.out.2.2.1
      cases m with
      | all =>
        obtain ⟨rfl, hcall⟩ := say_all (w := wr) hmt low port (.slice none 0 0) none
        have HCALL := Aside0.mk hcall
        clear hcall hmt hgood hby
        go_wp2_with fail
        refine HCALL.out.mono ?_
        rintro e wc ⟨rfl, bc⟩
        have HBC := Aside0.mk bc
        clear HCALL bc
        generalize hr : mok low port none (.all) = r
        have HR := Aside0.mk hr
        clear hr
        cases r with
        | true =>
          go_wp2_with fail
          go_ret
          exact ⟨ret_bool (by simp [any_true HM.out HR.out]), bel_then HA.out.2.2.1 HBC.out⟩
        | false =>
          go_wp2_with fail
          go_roundg (gk - 1)
          case measure => omega
          case rel => exact ⟨i + 1, by simp, Aside0.mk (HA.out.next HM.out HR.out HBC.out)⟩
      | net ml mm =>
        obtain ⟨q, rfl, hcall⟩ := say_net (w := wr) hmt hgood hby (show IpV W none (.slice none 0 0) from rfl) low port
        have HCALL := Aside0.mk hcall
        clear hcall hmt hgood hby
        go_wp2_with fail
        refine HCALL.out.mono ?_
        rintro e wc ⟨rfl, bc⟩
        have HBC := Aside0.mk bc
        clear HCALL bc
        generalize hr : mok low port none (.net ml mm) = r
        have HR := Aside0.mk hr
        clear hr
        cases r with
        | true =>
          go_wp2_with fail
          go_ret
          exact ⟨ret_bool (by simp [any_true HM.out HR.out]), bel_then HA.out.2.2.1 HBC.out⟩
        | false =>
          go_wp2_with fail
          go_roundg (gk - 1)
          case measure => omega
          case rel => exact ⟨i + 1, by simp, Aside0.mk (HA.out.next HM.out HR.out HBC.out)⟩
      | ip e0 e1 e2 e3 mp =>
        obtain ⟨q, rfl, hcall⟩ := say_ip (w := wr) hmt hby (show IpV W none (.slice none 0 0) from rfl) low port
        have HCALL := Aside0.mk hcall
        clear hcall hmt hgood hby
        go_wp2_with fail
        refine HCALL.out.mono ?_
        rintro e wc ⟨rfl, bc⟩
        have HBC := Aside0.mk bc
        clear HCALL bc
        generalize hr : mok low port none (.ip e0 e1 e2 e3 mp) = r
        have HR := Aside0.mk hr
        clear hr
        cases r with
        | true =>
          go_wp2_with fail
          go_ret
          exact ⟨ret_bool (by simp [any_true HM.out HR.out]), bel_then HA.out.2.2.1 HBC.out⟩
        | false =>
          go_wp2_with fail
          go_roundg (gk - 1)
          case measure => omega
          case rel => exact ⟨i + 1, by simp, Aside0.mk (HA.out.next HM.out HR.out HBC.out)⟩
      | dom dh dp mh =>
        obtain ⟨rfl, hcall⟩ := say_dom (w := wr) hmt hgood (show IpV W none (.slice none 0 0) from rfl) low port hlow
        have HCALL := Aside0.mk hcall
        clear hcall hmt hgood hby
        go_wp2_with fail
        refine HCALL.out.mono ?_
        rintro e wc ⟨rfl, bc⟩
        have HBC := Aside0.mk bc
        clear HCALL bc
        generalize hr : mok low port none (.dom dh dp mh) = r
        have HR := Aside0.mk hr
        clear hr
        cases r with
        | true =>
          go_wp2_with fail
          go_ret
          exact ⟨ret_bool (by simp [any_true HM.out HR.out]), bel_then HA.out.2.2.1 HBC.out⟩
        | false =>
          go_wp2_with fail
          go_roundg (gk - 1)
          case measure => omega
          case rel => exact ⟨i + 1, by simp, Aside0.mk (HA.out.next HM.out HR.out HBC.out)⟩
    · have hil : i = doms.length := by omega
      subst hil
      clear hge hle hk
      go_wp2_with fail
      go_ret
      exact ⟨ret_bool (by simp [HA.out.all]), HA.out.2.2.1⟩

end Go.Proofs.YtnchgmjeoajmiaaGreatDoor

/-! Usec -/
namespace Go.Proofs.YtnchgmjeoajmiaaGreatDoor
open Go.RowKit Go.Proofs.YtnchgmjeoajmiaaGreatDoorW.PrintWords
set_option linter.unusedSimpArgs false
set_option linter.unusedVariables false

theorem splits_calls {s host port : ByteArray} {w : World} (h : ∃ i, Splits s i ∧ s.extract 0 i = host ∧ s.extract (i + 1) s.size = port) : Calls Tryz.prog 56 #[.string s] w fun e w' => e = .returned (.tuple #[.string host, .string port, .nilIface]) ∧ w = w' := by
  obtain ⟨i, hi, h1, h2⟩ := h
  have := split_ok s i w hi
  rw [h1, h2] at this
  exact this

set_option maxRecDepth 100000 in
set_option maxHeartbeats 1000000 in
theorem use_localhost (cb : Nat) (W : World) (s host port : ByteArray) (ss : 1 ≤ s.size) (hsp : ∃ i, Splits s i ∧ s.extract 0 i = host ∧ s.extract (i + 1) s.size = port) (hloc : host.toList = [108, 111, 99, 97, 108, 104, 111, 115, 116]) :
    Calls Tryz.prog 48 #[.pointer (some ⟨cb, 0, none⟩), .string s] W fun e w' => e = .returned (.bool false) ∧ Below W.heap.size W w' := by
  have z0 : ((s.size : Int) == 0) = false := beq_eq_false_iff_ne.2 (by omega)
  have z1 : (host.toList == [108, 111, 99, 97, 108, 104, 111, 115, 116]) = true := beq_iff_eq.2 hloc
  clear hloc
  go_enter Tryz.func48, Tryz.ntmps48
  go_wp2_with fail
  refine (splits_calls hsp).mono ?_
  rintro e w1 ⟨rfl, rfl⟩
  go_wp2_with fail
  go_ret
  exact ⟨rfl, Below.refl _ _⟩

/-- A text of an address of four bytes and a port. -/
structure FourAddr (s host port low : ByteArray) (a b c d : Int) : Prop where
  ssize : 1 ≤ s.size
  split : ∃ i, Splits s i ∧ s.extract 0 i = host ∧ s.extract (i + 1) s.size = port
  local_ : host.toList ≠ [108, 111, 99, 97, 108, 104, 111, 115, 116]
  four : Four host a b c d
  item : Item host low
  lsmall : low.size ≤ 140737488355328

theorem quad_four {a b c d : Int} (ha : Byte a) (hb : Byte b) (hc : Byte c) (hd : Byte d) : quad (a * 16777216 + b * 65536 + c * 256 + d) = [a, b, c, d] := by
  unfold Byte at ha hb hc hd
  unfold quad
  congr 1
  · omega
  congr 1
  · omega
  congr 1
  · omega
  congr 1
  omega

theorem asSlice_four {p4 p6 : Addr} {w : World} {a b c d : Int} (ha : Byte a) (hb : Byte b) (hc : Byte c) (hd : Byte d) (g : GW p4 p6 w) :
    Calls Tryz.prog 61 #[.agg #[.int .u64 0, .int .u64 (281470681743360 + a * 16777216 + b * 65536 + c * 256 + d), .pointer (some p4)]] w (NewBytes 153 [a, b, c, d] w) := by
  have := asSlice4 p4 p6 0 (281470681743360 + a * 16777216 + b * 65536 + c * 256 + d) w g (a * 16777216 + b * 65536 + c * 256 + d) (by unfold Byte at *; omega) (by unfold Byte at *; omega) (by rw [IntKind.wrap_u32]; unfold Byte at *; omega)
  rw [quad_four ha hb hc hd] at this
  exact this

set_option maxRecDepth 100000 in
set_option maxHeartbeats 1000000 in
theorem use_four (p4 p6 : Addr) (B cb : Nat) (x0 x1 x2 x3 x4 x5 : Value) (ips doms : List Mt) (W : World) (s host port low : ByteArray) (a b c d : Int) (G : GW p4 p6 W) (hc : CF B cb x0 x1 x2 x3 x4 x5 ips doms W) (hs : FourAddr s host port low a b c d)
    (goodI : ∀ m ∈ ips, Good m) (good : ∀ m ∈ doms, Good m) (hlI : ips.length < 4398046511106) (hl : doms.length < 4398046511106) :
    Calls Tryz.prog 48 #[.pointer (some ⟨cb, 0, none⟩), .string s] W fun e w' => e = .returned (.bool (!(a == 127) && !(ips.any (mok low port (some (a, b, c, d)))) && !(doms.any (mok low port (some (a, b, c, d)))))) ∧ Below W.heap.size W w' := by
  have z0 : ((s.size : Int) == 0) = false := beq_eq_false_iff_ne.2 (by have := hs.ssize; omega)
  have z1 : (host.toList == [108, 111, 99, 97, 108, 104, 111, 115, 116]) = false := beq_eq_false_iff_ne.2 hs.local_
  obtain ⟨vi, vd, hcb, hvi, hvd, _⟩ := hc
  obtain ⟨A, cap, hvl⟩ := hvd.len
  obtain ⟨A', capI, hvlI⟩ := hvi.len
  subst hvl
  subst hvlI
  have q := blk_lt hcb
  have HC := Aside0.mk hcb
  have HD := Aside0.mk hvd
  have HI := Aside0.mk hvi
  have HG := Aside0.mk good
  have HGI := Aside0.mk goodI
  have hlow : low.size ≤ 9223372036854775807 := by have := hs.lsmall; omega
  clear hvi hvd good goodI hcb
  go_enter Tryz.func48, Tryz.ntmps48
  go_wp2_with fail
  refine (splits_calls hs.split).mono ?_
  rintro e w1 ⟨rfl, rfl⟩
  go_wp2_with fail
  refine (hs.four.addr p4 p6 _ G).mono ?_
  rintro e w2 ⟨rfl, b1⟩
  go_wp2_with fail
  have b2 := b1.alloc b1.size (.cells #[.int .u64 0, .int .u64 (281470681743360 + a * 16777216 + b * 65536 + c * 256 + d), .pointer (some p4)] 108)
  refine (asSlice_four hs.four.a hs.four.b hs.four.c hs.four.d (G.below b2)).mono ?_
  rintro e w3 ⟨gx, rfl, hgx, _, b3⟩
  have b3 := bel_then b2 b3
  have X0 := blk_cell hgx 0
  have X1 := blk_cell hgx 1
  have X2 := blk_cell hgx 2
  have X3 := blk_cell hgx 3
  simp only [List.map_cons, List.map_nil, List.getElem?_toArray, List.getElem?_cons_zero, List.getElem?_cons_succ] at X0 X1 X2 X3
  have hn := ip_neq (some ⟨gx, 0, none⟩) 4 4
  have hx0 : Aside0 (IpV w3 (some (a, b, c, d)) (.slice (some ⟨gx, 0, none⟩) 4 4)) := Aside0.mk ⟨gx, 4, rfl, Nat.le_refl _, X0, X1, X2, X3⟩
  clear X1 X2 X3 hgx
  go_wp2_with fail
  refine (isLoopback_four gx 0 4 a _ X0).mono ?_
  rintro e w4 ⟨rfl, rfl⟩
  cases h127 : (a == 127) with
  | true =>
    go_wp2_with fail
    go_ret
    exact ⟨ret_bool (by simp [beq_iff_eq.1 h127]), b3⟩
  | false =>
  go_wp2_with fail
  refine (trim_item hs.item (G.below b3)).mono ?_
  rintro e w5 ⟨rfl, b5⟩
  go_wp2_with fail
  refine (lower_item hs.item).mono ?_
  rintro e W2 ⟨rfl, b6⟩
  have b6 := bel_then b5 b6
  have HX : Aside0 (IpV W2 (some (a, b, c, d)) (.slice (some ⟨gx, 0, none⟩) 4 4)) := Aside0.mk (by
    obtain ⟨g, cap, e, h4, e0, e1, e2, e3⟩ := hx0.out
    exact ⟨g, cap, e, h4, cell_on b6 e0, cell_on b6 e1, cell_on b6 e2, cell_on b6 e3⟩)
  have HB := Aside0.mk (bel_then b3 b6)
  have HD2 := Aside0.mk (HD.out.kept (Kp.below HB.out) (fun g hg => by
    obtain ⟨_, cs, hc⟩ := HD.out.typed g hg
    exact HB.out.block g (blk_lt hc)))
  have HI2 := Aside0.mk (HI.out.kept (Kp.below HB.out) (fun g hg => by
    obtain ⟨_, cs, hc⟩ := HI.out.typed g hg
    exact HB.out.block g (blk_lt hc)))
  have hcb := (HB.out.block cb q).trans HC.out
  have HC2 := Aside0.mk hcb
  have d6 := blk_cell hcb 6
  have q2 := blk_lt hcb
  simp only [List.getElem?_toArray, List.getElem?_cons_zero, List.getElem?_cons_succ] at d6
  have N0 := Aside0.mk (show NotYet W2 low port (some (a, b, c, d)) ips 0 ips.length W2 from ⟨Nat.zero_le _, by omega, Below.refl _ _, fun j m h => absurd h (Nat.not_lt_zero _)⟩)
  have H127 := Aside0.mk h127
  clear HC HD HI b1 b2 b3 b5 b6 hcb hx0 X0 h127
  go_wp2_with fail
  go_loopg [48] ips.length (fun kq v w' => ∃ i : Nat, v = .int .i64 i ∧ Aside0 (NotYet W2 low port (some (a, b, c, d)) ips i kq w'))
  case atStart => exact ⟨0, rfl, N0⟩
  case round =>
    clear N0
    obtain ⟨i, rfl, HA⟩ := hrel
    have hle := HA.out.1
    have hk := HA.out.2.1
    rcases Nat.lt_or_ge i ips.length with hi | hge
    · have HM := Aside0.mk (show ips[i]? = some (ips[i]'hi) from List.getElem?_eq_getElem hi)
      have hgood := HGI.out _ (List.getElem_mem hi)
      obtain ⟨g, cap', u, hv, hcell, hmt⟩ := HI2.out.cell HA.out.2.2.1 HM.out
      injection hv with hA _ hcap
      subst hA
      subst hcap
      generalize ips[i]'hi = m at HM hmt hgood
      have hby := HA.out.2.2.1
      cases m with
      | all =>
        obtain ⟨rfl, hcall⟩ := say_all (w := wr) hmt low port (.slice (some ⟨gx, 0, none⟩) 4 4) (some (a, b, c, d))
        have HCALL := Aside0.mk hcall
        clear hcall hmt hgood hby
        go_wp2_with fail
        refine HCALL.out.mono ?_
        rintro e wc ⟨rfl, bc⟩
        have HBC := Aside0.mk bc
        clear HCALL bc
        generalize hr : mok low port (some (a, b, c, d)) (.all) = r
        have HR := Aside0.mk hr
        clear hr
        cases r with
        | true =>
          go_wp2_with fail
          go_ret
          exact ⟨ret_bool (by simp [any_true HM.out HR.out]), bel_then HB.out (bel_then HA.out.2.2.1 HBC.out)⟩
        | false =>
          go_wp2_with fail
          go_roundg (gk - 1)
          case measure => omega
          case rel => exact ⟨i + 1, by simp, Aside0.mk (HA.out.next HM.out HR.out HBC.out)⟩
      | net ml mm =>
        obtain ⟨q, rfl, hcall⟩ := say_net (w := wr) hmt hgood hby (show IpV W2 (some (a, b, c, d)) (.slice (some ⟨gx, 0, none⟩) 4 4) from HX.out) low port
        have HCALL := Aside0.mk hcall
        clear hcall hmt hgood hby
        go_wp2_with fail
        refine HCALL.out.mono ?_
        rintro e wc ⟨rfl, bc⟩
        have HBC := Aside0.mk bc
        clear HCALL bc
        generalize hr : mok low port (some (a, b, c, d)) (.net ml mm) = r
        have HR := Aside0.mk hr
        clear hr
        cases r with
        | true =>
          go_wp2_with fail
          go_ret
          exact ⟨ret_bool (by simp [any_true HM.out HR.out]), bel_then HB.out (bel_then HA.out.2.2.1 HBC.out)⟩
        | false =>
          go_wp2_with fail
          go_roundg (gk - 1)
          case measure => omega
          case rel => exact ⟨i + 1, by simp, Aside0.mk (HA.out.next HM.out HR.out HBC.out)⟩
      | ip e0 e1 e2 e3 mp =>
        obtain ⟨q, rfl, hcall⟩ := say_ip (w := wr) hmt hby (show IpV W2 (some (a, b, c, d)) (.slice (some ⟨gx, 0, none⟩) 4 4) from HX.out) low port
        have HCALL := Aside0.mk hcall
        clear hcall hmt hgood hby
        go_wp2_with fail
        refine HCALL.out.mono ?_
        rintro e wc ⟨rfl, bc⟩
        have HBC := Aside0.mk bc
        clear HCALL bc
        generalize hr : mok low port (some (a, b, c, d)) (.ip e0 e1 e2 e3 mp) = r
        have HR := Aside0.mk hr
        clear hr
        cases r with
        | true =>
          go_wp2_with fail
          go_ret
          exact ⟨ret_bool (by simp [any_true HM.out HR.out]), bel_then HB.out (bel_then HA.out.2.2.1 HBC.out)⟩
        | false =>
          go_wp2_with fail
          go_roundg (gk - 1)
          case measure => omega
          case rel => exact ⟨i + 1, by simp, Aside0.mk (HA.out.next HM.out HR.out HBC.out)⟩
      | dom dh dp mh =>
        obtain ⟨rfl, hcall⟩ := say_dom (w := wr) hmt hgood (show IpV W2 (some (a, b, c, d)) (.slice (some ⟨gx, 0, none⟩) 4 4) from HX.out) low port hlow
        have HCALL := Aside0.mk hcall
        clear hcall hmt hgood hby
        go_wp2_with fail
        refine HCALL.out.mono ?_
        rintro e wc ⟨rfl, bc⟩
        have HBC := Aside0.mk bc
        clear HCALL bc
        generalize hr : mok low port (some (a, b, c, d)) (.dom dh dp mh) = r
        have HR := Aside0.mk hr
        clear hr
        cases r with
        | true =>
          go_wp2_with fail
          go_ret
          exact ⟨ret_bool (by simp [any_true HM.out HR.out]), bel_then HB.out (bel_then HA.out.2.2.1 HBC.out)⟩
        | false =>
          go_wp2_with fail
          go_roundg (gk - 1)
          case measure => omega
          case rel => exact ⟨i + 1, by simp, Aside0.mk (HA.out.next HM.out HR.out HBC.out)⟩
    · have hil : i = ips.length := by omega
      subst hil
      clear hge hle hk
      have d7 := blk_cell ((HA.out.2.2.1.block cb q2).trans HC2.out) 7
      simp only [List.getElem?_toArray, List.getElem?_cons_zero, List.getElem?_cons_succ] at d7
      have HF := Aside0.mk HA.out.all
      have N1 := Aside0.mk (show NotYet W2 low port (some (a, b, c, d)) doms 0 doms.length wr from ⟨Nat.zero_le _, by omega, HA.out.2.2.1, fun j m h => absurd h (Nat.not_lt_zero _)⟩)
      clear HA
      go_wp2_with fail
      go_loopg [63] doms.length (fun kq v w' => ∃ i : Nat, v = .int .i64 i ∧ Aside0 (NotYet W2 low port (some (a, b, c, d)) doms i kq w'))
      case atStart => exact ⟨0, rfl, N1⟩
      case round =>
        clear N1
        obtain ⟨i, rfl, HA⟩ := hrel
        have hle := HA.out.1
        have hk := HA.out.2.1
        rcases Nat.lt_or_ge i doms.length with hi | hge
        · have HM := Aside0.mk (show doms[i]? = some (doms[i]'hi) from List.getElem?_eq_getElem hi)
          have hgood := HG.out _ (List.getElem_mem hi)
          obtain ⟨g, cap', u, hv, hcell, hmt⟩ := HD2.out.cell HA.out.2.2.1 HM.out
          injection hv with hA _ hcap
          subst hA
          subst hcap
          generalize doms[i]'hi = m at HM hmt hgood
          have hby := HA.out.2.2.1
          cases m with
          | all =>
            obtain ⟨rfl, hcall⟩ := say_all (w := wr) hmt low port (.slice (some ⟨gx, 0, none⟩) 4 4) (some (a, b, c, d))
            have HCALL := Aside0.mk hcall
            clear hcall hmt hgood hby
            go_wp2_with fail
            refine HCALL.out.mono ?_
            rintro e wc ⟨rfl, bc⟩
            have HBC := Aside0.mk bc
            clear HCALL bc
            generalize hr : mok low port (some (a, b, c, d)) (.all) = r
            have HR := Aside0.mk hr
            clear hr
            cases r with
            | true =>
              go_wp2_with fail
              go_ret
              exact ⟨ret_bool (by simp [any_true HM.out HR.out]), bel_then HB.out (bel_then HA.out.2.2.1 HBC.out)⟩
            | false =>
              go_wp2_with fail
              go_roundg (gk - 1)
              case measure => omega
              case rel => exact ⟨i + 1, by simp, Aside0.mk (HA.out.next HM.out HR.out HBC.out)⟩
          | net ml mm =>
            obtain ⟨q, rfl, hcall⟩ := say_net (w := wr) hmt hgood hby (show IpV W2 (some (a, b, c, d)) (.slice (some ⟨gx, 0, none⟩) 4 4) from HX.out) low port
            have HCALL := Aside0.mk hcall
            clear hcall hmt hgood hby
            go_wp2_with fail
            refine HCALL.out.mono ?_
            rintro e wc ⟨rfl, bc⟩
            have HBC := Aside0.mk bc
            clear HCALL bc
            generalize hr : mok low port (some (a, b, c, d)) (.net ml mm) = r
            have HR := Aside0.mk hr
            clear hr
            cases r with
            | true =>
              go_wp2_with fail
              go_ret
              exact ⟨ret_bool (by simp [any_true HM.out HR.out]), bel_then HB.out (bel_then HA.out.2.2.1 HBC.out)⟩
            | false =>
              go_wp2_with fail
              go_roundg (gk - 1)
              case measure => omega
              case rel => exact ⟨i + 1, by simp, Aside0.mk (HA.out.next HM.out HR.out HBC.out)⟩
          | ip e0 e1 e2 e3 mp =>
            obtain ⟨q, rfl, hcall⟩ := say_ip (w := wr) hmt hby (show IpV W2 (some (a, b, c, d)) (.slice (some ⟨gx, 0, none⟩) 4 4) from HX.out) low port
            have HCALL := Aside0.mk hcall
            clear hcall hmt hgood hby
            go_wp2_with fail
            refine HCALL.out.mono ?_
            rintro e wc ⟨rfl, bc⟩
            have HBC := Aside0.mk bc
            clear HCALL bc
            generalize hr : mok low port (some (a, b, c, d)) (.ip e0 e1 e2 e3 mp) = r
            have HR := Aside0.mk hr
            clear hr
            cases r with
            | true =>
              go_wp2_with fail
              go_ret
              exact ⟨ret_bool (by simp [any_true HM.out HR.out]), bel_then HB.out (bel_then HA.out.2.2.1 HBC.out)⟩
            | false =>
              go_wp2_with fail
              go_roundg (gk - 1)
              case measure => omega
              case rel => exact ⟨i + 1, by simp, Aside0.mk (HA.out.next HM.out HR.out HBC.out)⟩
          | dom dh dp mh =>
            obtain ⟨rfl, hcall⟩ := say_dom (w := wr) hmt hgood (show IpV W2 (some (a, b, c, d)) (.slice (some ⟨gx, 0, none⟩) 4 4) from HX.out) low port hlow
            have HCALL := Aside0.mk hcall
            clear hcall hmt hgood hby
            go_wp2_with fail
            refine HCALL.out.mono ?_
            rintro e wc ⟨rfl, bc⟩
            have HBC := Aside0.mk bc
            clear HCALL bc
            generalize hr : mok low port (some (a, b, c, d)) (.dom dh dp mh) = r
            have HR := Aside0.mk hr
            clear hr
            cases r with
            | true =>
              go_wp2_with fail
              go_ret
              exact ⟨ret_bool (by simp [any_true HM.out HR.out]), bel_then HB.out (bel_then HA.out.2.2.1 HBC.out)⟩
            | false =>
              go_wp2_with fail
              go_roundg (gk - 1)
              case measure => omega
              case rel => exact ⟨i + 1, by simp, Aside0.mk (HA.out.next HM.out HR.out HBC.out)⟩
        · have hil : i = doms.length := by omega
          subst hil
          clear hge hle hk
          go_wp2_with fail
          go_ret
          exact ⟨ret_bool (by simp [HA.out.all, HF.out, H127.out]), bel_then HB.out HA.out.2.2.1⟩

end Go.Proofs.YtnchgmjeoajmiaaGreatDoor

/-! Door -/
namespace Go.Proofs.YtnchgmjeoajmiaaGreatDoor
open Go.RowKit Go.Proofs.YtnchgmjeoajmiaaGreatDoorW.PrintWords
set_option linter.unusedSimpArgs false
set_option linter.unusedVariables false

/-- A text whose items, between commas, do what is told. -/
def Listed (no : ByteArray) (effs : List Eff) : Prop :=
  ∃ k r, P.httpproxy_zzSplit.f k no comma = some r ∧ 1 ≤ r.length ∧ r.length < 4398046511104 ∧ effs.length = r.length ∧ ∀ (j : Nat) s e, r[j]? = some s → effs[j]? = some e → Does s e

theorem Does.good {s : ByteArray} {e : Eff} (h : Does s e) : (∀ m, e = .ip m → Good m) ∧ (∀ m, e = .dom m → Good m) := by
  cases h with
  | blank => exact ⟨fun m e => (by cases e), fun m e => (by cases e)⟩
  | star => exact ⟨fun m e => (by cases e), fun m e => (by cases e)⟩
  | net => exact ⟨fun m e => (by cases e; exact ⟨rfl, rfl⟩), fun m e => (by cases e)⟩
  | addrBare => exact ⟨fun m e => (by cases e; trivial), fun m e => (by cases e)⟩
  | addrPort => exact ⟨fun m e => (by cases e; trivial), fun m e => (by cases e)⟩
  | @nameBare p host port dom mh hit hp hf =>
    refine ⟨fun m e => (by cases e), fun m e => ?_⟩
    cases e
    have h1 := hf.dsize
    refine ⟨?_, by omega⟩
    have := hp.hsize
    rcases hf.dom with ⟨_, _, rfl⟩ | ⟨_, _, rfl⟩
    · simp; omega
    · exact this
  | @namePort p host port dom mh hit hp hf =>
    refine ⟨fun m e => (by cases e), fun m e => ?_⟩
    cases e
    have h1 := hf.dsize
    refine ⟨?_, by omega⟩
    have := hp.hsize
    rcases hf.dom with ⟨_, _, rfl⟩ | ⟨_, _, rfl⟩
    · simp; omega
    · exact this

theorem lists_good : ∀ (effs : List Eff) (i d : List Mt), (∀ e ∈ effs, (∀ m, e = .ip m → Good m) ∧ (∀ m, e = .dom m → Good m)) → (∀ m ∈ i, Good m) → (∀ m ∈ d, Good m) → (∀ m ∈ (lists effs i d).1, Good m) ∧ (∀ m ∈ (lists effs i d).2, Good m)
  | [], i, d, _, h1, h2 => ⟨h1, h2⟩
  | .skip :: r, i, d, h, h1, h2 => lists_good r i d (fun e he => h e (List.mem_cons_of_mem _ he)) h1 h2
  | .star :: _, i, d, _, _, _ => ⟨fun m hm => by simp [lists] at hm; subst hm; trivial, fun m hm => by simp [lists] at hm; subst hm; trivial⟩
  | .ip m0 :: r, i, d, h, h1, h2 => lists_good r (i ++ [m0]) d (fun e he => h e (List.mem_cons_of_mem _ he)) (fun m hm => by
      rcases List.mem_append.1 hm with hm | hm
      · exact h1 m hm
      · simp at hm; subst hm; exact (h _ List.mem_cons_self).1 _ rfl) h2
  | .dom m0 :: r, i, d, h, h1, h2 => lists_good r i (d ++ [m0]) (fun e he => h e (List.mem_cons_of_mem _ he)) h1 (fun m hm => by
      rcases List.mem_append.1 hm with hm | hm
      · exact h2 m hm
      · simp at hm; subst hm; exact (h _ List.mem_cons_self).2 _ rfl)
theorem lists_len : ∀ (effs : List Eff) (i d : List Mt), (lists effs i d).1.length ≤ i.length + effs.length + 1 ∧ (lists effs i d).2.length ≤ d.length + effs.length + 1
  | [], i, d => by simp [lists]
  | .skip :: r, i, d => by have := lists_len r i d; simp only [lists, List.length_cons]; omega
  | .star :: _, i, d => by simp [lists]
  | .ip m0 :: r, i, d => by have := lists_len r (i ++ [m0]) d; simp only [lists, List.length_cons, List.length_append, List.length_nil] at *; omega
  | .dom m0 :: r, i, d => by have := lists_len r i (d ++ [m0]); simp only [lists, List.length_cons, List.length_append, List.length_nil] at *; omega

theorem Listed.good {no : ByteArray} {effs : List Eff} (h : Listed no effs) : (∀ m ∈ (lists effs [] []).1, Good m) ∧ (∀ m ∈ (lists effs [] []).2, Good m) := by
  obtain ⟨k, r, h1, h2, h3, h4, h5⟩ := h
  refine lists_good effs [] [] (fun e he => ?_) (fun m h => by cases h) (fun m h => by cases h)
  obtain ⟨j, hj⟩ := List.getElem?_of_mem he
  have hlt : j < r.length := by rw [← h4]; exact (List.getElem?_eq_some_iff.1 hj).1
  exact (h5 j _ e (List.getElem?_eq_getElem hlt) hj).good
theorem Listed.len {no : ByteArray} {effs : List Eff} (h : Listed no effs) : (lists effs [] []).1.length < 4398046511106 ∧ (lists effs [] []).2.length < 4398046511106 := by
  obtain ⟨k, r, h1, h2, h3, h4, h5⟩ := h
  have := lists_len effs [] []
  simp only [List.length_nil] at this
  omega

/-- The setting of a list, and what it becomes. -/
theorem init_listed (p4 p6 : Addr) (no : ByteArray) (effs : List Eff) (w : World) (G : GW p4 p6 w) (hl : Listed no effs) :
    Calls Tryz.prog 47 #[.pointer (some ⟨w.heap.size, 0, none⟩)] (w.alloc (.cells #[.string ⟨#[]⟩, .string ⟨#[]⟩, .string no, .bool false, .pointer none, .pointer none, .slice none 0 0, .slice none 0 0] 77)) fun e w' => e = .returned (.tuple #[]) ∧
      CF w.heap.size w.heap.size (.string ⟨#[]⟩) (.string ⟨#[]⟩) (.string no) (.bool false) (.pointer none) (.pointer none) (lists effs [] []).1 (lists effs [] []).2 w' ∧ Below w.heap.size w w' := by
  obtain ⟨k, r, h1, h2, h3, h4, h5⟩ := hl
  exact init_calls p4 p6 w k w.heap.size no r effs _ G (by go_grown) (Nat.le_refl _) h1 h2 h3 h4 h5 (heap1 _ _)

set_option maxRecDepth 100000 in
set_option maxHeartbeats 400000 in
theorem zz_name (p4 p6 : Addr) (no : ByteArray) (effs : List Eff) (w : World) (s host port low : ByteArray) (G : GW p4 p6 w) (hl : Listed no effs) (hs : NameAddr s host port low) (hloc : host.toList ≠ [108, 111, 99, 97, 108, 104, 111, 115, 116]) :
    Calls Tryz.prog 40 #[.string no, .string s] w fun e w' => e = .returned (.bool (!((lists effs [] []).2.any (mok low port none)))) ∧ Below w.heap.size w w' := by
  go_enter Tryz.func40, Tryz.ntmps40
  go_wp2_with fail
  refine (init_listed p4 p6 no effs w G hl).mono ?_
  rintro e w1 ⟨rfl, hc, hb⟩
  go_wp2_with fail
  refine (use_name p4 p6 _ _ _ _ _ _ _ _ _ _ w1 s host port low (G.below hb) hc hs hloc hl.good.2 (by have := hl.len; omega)).mono ?_
  rintro e w2 ⟨rfl, hb2⟩
  go_wp2_with fail
  go_ret
  exact ⟨rfl, bel_then hb hb2⟩

set_option maxRecDepth 100000 in
set_option maxHeartbeats 400000 in
theorem uses_name (p4 p6 : Addr) (no : ByteArray) (effs : List Eff) (w : World) (s host port low : ByteArray) (G : GW p4 p6 w) (hl : Listed no effs) (hs : NameAddr s host port low) (hloc : host.toList ≠ [108, 111, 99, 97, 108, 104, 111, 115, 116]) :
    Calls Tryz.prog 24 #[.string no, .string s] w fun e w' => e = .returned (.bool (!((lists effs [] []).2.any (mok low port none)))) ∧ Below w.heap.size w w' := by
  go_enter Tryz.func24, Tryz.ntmps24
  go_wp2_with fail
  refine (zz_name p4 p6 no effs w s host port low G hl hs hloc).mono ?_
  rintro e w2 ⟨rfl, hb2⟩
  go_wp2_with fail
  go_ret
  exact ⟨rfl, hb2⟩

set_option maxRecDepth 100000 in
set_option maxHeartbeats 400000 in
theorem zz_localhost (p4 p6 : Addr) (no : ByteArray) (effs : List Eff) (w : World) (s host port : ByteArray) (G : GW p4 p6 w) (hl : Listed no effs) (hs : 1 ≤ s.size ∧ ∃ i, Splits s i ∧ s.extract 0 i = host ∧ s.extract (i + 1) s.size = port) (hloc : host.toList = [108, 111, 99, 97, 108, 104, 111, 115, 116]) :
    Calls Tryz.prog 40 #[.string no, .string s] w fun e w' => e = .returned (.bool (false)) ∧ Below w.heap.size w w' := by
  go_enter Tryz.func40, Tryz.ntmps40
  go_wp2_with fail
  refine (init_listed p4 p6 no effs w G hl).mono ?_
  rintro e w1 ⟨rfl, hc, hb⟩
  go_wp2_with fail
  refine (use_localhost _ w1 s host port hs.1 hs.2 hloc).mono ?_
  rintro e w2 ⟨rfl, hb2⟩
  go_wp2_with fail
  go_ret
  exact ⟨rfl, bel_then hb hb2⟩

set_option maxRecDepth 100000 in
set_option maxHeartbeats 400000 in
theorem uses_localhost (p4 p6 : Addr) (no : ByteArray) (effs : List Eff) (w : World) (s host port : ByteArray) (G : GW p4 p6 w) (hl : Listed no effs) (hs : 1 ≤ s.size ∧ ∃ i, Splits s i ∧ s.extract 0 i = host ∧ s.extract (i + 1) s.size = port) (hloc : host.toList = [108, 111, 99, 97, 108, 104, 111, 115, 116]) :
    Calls Tryz.prog 24 #[.string no, .string s] w fun e w' => e = .returned (.bool (false)) ∧ Below w.heap.size w w' := by
  go_enter Tryz.func24, Tryz.ntmps24
  go_wp2_with fail
  refine (zz_localhost p4 p6 no effs w s host port G hl hs hloc).mono ?_
  rintro e w2 ⟨rfl, hb2⟩
  go_wp2_with fail
  go_ret
  exact ⟨rfl, hb2⟩

set_option maxRecDepth 100000 in
set_option maxHeartbeats 400000 in
theorem zz_four (p4 p6 : Addr) (no : ByteArray) (effs : List Eff) (w : World) (s host port low : ByteArray) (a b c d : Int) (G : GW p4 p6 w) (hl : Listed no effs) (hs : FourAddr s host port low a b c d) :
    Calls Tryz.prog 40 #[.string no, .string s] w fun e w' => e = .returned (.bool (!(a == 127) && !((lists effs [] []).1.any (mok low port (some (a, b, c, d)))) && !((lists effs [] []).2.any (mok low port (some (a, b, c, d)))))) ∧ Below w.heap.size w w' := by
  go_enter Tryz.func40, Tryz.ntmps40
  go_wp2_with fail
  refine (init_listed p4 p6 no effs w G hl).mono ?_
  rintro e w1 ⟨rfl, hc, hb⟩
  go_wp2_with fail
  refine (use_four p4 p6 _ _ _ _ _ _ _ _ _ _ w1 s host port low a b c d (G.below hb) hc hs hl.good.1 hl.good.2 (by have := hl.len; omega) (by have := hl.len; omega)).mono ?_
  rintro e w2 ⟨rfl, hb2⟩
  go_wp2_with fail
  go_ret
  exact ⟨rfl, bel_then hb hb2⟩

set_option maxRecDepth 100000 in
set_option maxHeartbeats 400000 in
theorem uses_four (p4 p6 : Addr) (no : ByteArray) (effs : List Eff) (w : World) (s host port low : ByteArray) (a b c d : Int) (G : GW p4 p6 w) (hl : Listed no effs) (hs : FourAddr s host port low a b c d) :
    Calls Tryz.prog 24 #[.string no, .string s] w fun e w' => e = .returned (.bool (!(a == 127) && !((lists effs [] []).1.any (mok low port (some (a, b, c, d)))) && !((lists effs [] []).2.any (mok low port (some (a, b, c, d)))))) ∧ Below w.heap.size w w' := by
  go_enter Tryz.func24, Tryz.ntmps24
  go_wp2_with fail
  refine (zz_four p4 p6 no effs w s host port low a b c d G hl hs).mono ?_
  rintro e w2 ⟨rfl, hb2⟩
  go_wp2_with fail
  go_ret
  exact ⟨rfl, hb2⟩

end Go.Proofs.YtnchgmjeoajmiaaGreatDoor
