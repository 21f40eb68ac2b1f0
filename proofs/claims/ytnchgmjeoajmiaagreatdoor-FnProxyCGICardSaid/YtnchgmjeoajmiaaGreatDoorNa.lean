/- The walks of the address functions of netip and net. -/
import Derived.Test.YtnchgmjeoajmiaaGreatDoorShelf
import Derived.Test.YtnchgmjeoajmiaaGreatDoorWMore
import Derived.WalkKit
import Derived.WalkSpells
import Derived.WalkLawsBesides
import Derived.Handy
import Derived.Lib.Hide
import Derived.Lib.LaidTab
import Derived.Lib.AppendIntMem
import Derived.BigQuiet
import Derived.Deep.QuietTactic
import Derived.Deep.DeepFit
import Derived.LaidEql
import Derived.LaidEqlPtr
import Derived.Deep.RegionWith
import Derived.Deep.LoopGhost
import Derived.Test.YtnchgmjeoajmiaaGreatDoorPx3
import Derived.Deep.RegionHeld3
import Derived.RegionTactic
import Derived.BigRegion
/-! Base -/
namespace Go.Proofs.YtnchgmjeoajmiaaGreatDoor
open Go.RowKit Go.Proofs.YtnchgmjeoajmiaaGreatDoorW.PrintWords

/-- What the package-level variables hold: p4, p6 are the addresses behind netip.z4 and netip.z6noz. -/
structure GW (p4 p6 : Addr) (w : World) : Prop where
  space : Lib.TabIs Tryz.prog w "strings.asciiSpace" .u8 Lib.asciiSpaceTab
  z0 : w.cell? ⟨1, 0, none⟩ = some (.pointer none)
  z4 : w.cell? ⟨2, 0, none⟩ = some (.pointer (some p4))
  z6 : w.cell? ⟨8, 0, none⟩ = some (.pointer (some p6))
  a0 : w.cell? p4 = some (.bool false)
  a1 : w.cell? ⟨p4.block, p4.off + 1, none⟩ = some (.string ⟨#[]⟩)
  b0 : w.cell? p6 = some (.bool true)
  b1 : w.cell? ⟨p6.block, p6.off + 1, none⟩ = some (.string ⟨#[]⟩)
  m4 : ∃ ca ta, w.heap[p4.block]? = some (.cells ca ta (0, 0))
  m6 : ∃ ca ta, w.heap[p6.block]? = some (.cells ca ta (0, 0))

theorem cell_on {w w' : World} (hb : Below w.heap.size w w') {a : Addr} {v : Value} (h : w.cell? a = some v) : w'.cell? a = some v := pw_cell_below hb h

theorem GW.below {p4 p6 : Addr} {w w' : World} (h : GW p4 p6 w) (hb : Below w.heap.size w w') : GW p4 p6 w' :=
  ⟨((Lib.tabBelow_of_tabIs h.space).on hb).here, cell_on hb h.z0, cell_on hb h.z4, cell_on hb h.z6, cell_on hb h.a0, cell_on hb h.a1, cell_on hb h.b0, cell_on hb h.b1,
    (h.m4).imp fun _ => Exists.imp fun _ e => (hb.block _ (World.block_lt_of_cell? w _ h.a0)).trans e, (h.m6).imp fun _ => Exists.imp fun _ e => (hb.block _ (World.block_lt_of_cell? w _ h.b0)).trans e⟩

theorem GW.ne {p4 p6 : Addr} {w : World} (h : GW p4 p6 w) : p4 ≠ p6 := by
  rintro rfl
  have := h.a0.symm.trans h.b0
  simp at this

theorem GW.drewN {p4 p6 : Addr} {w : World} (h : GW p4 p6 w) (n : Nat) : GW p4 p6 (w.drewN n) := h.below (pw_below_drewN (Below.refl _ _) n)
theorem GW.alloc {p4 p6 : Addr} {w : World} (h : GW p4 p6 w) (o : Obj) : GW p4 p6 (w.alloc o) := h.below (below_alloc (Below.refl _ _) o)

/-! Equality of handles (type 104: a pointer to addrDetail). -/
theorem info181 : ∃ j, Tryz.prog.info? 181 = some j ∧ j.size ≠ 0 := by
  have h : (Tryz.prog.info? 181).map (fun i => i.size) = some 2 := by kernel_rfl
  cases hj : Tryz.prog.info? 181 with
  | none => rw [hj] at h; simp at h
  | some j => rw [hj] at h; simp at h; exact ⟨j, rfl, by omega⟩

theorem heq_nil (d : Nat) (a : Addr) (w : World) : (Op.equalIn (d + 1) 104 (.pointer (some a)) (.pointer none)).run Tryz.prog w = .ok false w := by
  simp [Op.equalIn, run_underlying Tryz.underlying104]
theorem heq_same (d : Nat) (a : Addr) (w : World) : (Op.equalIn (d + 1) 104 (.pointer (some a)) (.pointer (some a))).run Tryz.prog w = .ok true w := by
  obtain ⟨j, hj, hz⟩ := info181
  simp [Op.equalIn, run_underlying Tryz.underlying104, sizeOf, typeInfo, hj, run_sameAddr_same]
theorem heq_other (d : Nat) {a b : Addr} {w : World} (hne : a ≠ b) (ha : ∃ ca ta, w.heap[a.block]? = some (.cells ca ta (0, 0))) (hb : ∃ ca ta, w.heap[b.block]? = some (.cells ca ta (0, 0))) :
    (Op.equalIn (d + 1) 104 (.pointer (some a)) (.pointer (some b))).run Tryz.prog w = .ok false w := by
  obtain ⟨j, hj, hz⟩ := info181
  obtain ⟨ca, ta, ha⟩ := ha
  obtain ⟨cb, tb, hb⟩ := hb
  simp [Op.equalIn, run_underlying Tryz.underlying104, sizeOf, typeInfo, hj, hz]
  exact run_sameAddr_other _ hne ha hb
theorem GW.eq64 {p4 p6 : Addr} {w : World} (g : GW p4 p6 w) (d : Nat) : (Op.equalIn (d + 1) 104 (.pointer (some p6)) (.pointer (some p4))).run Tryz.prog w = .ok false w :=
  heq_other d (Ne.symm g.ne) g.m6 g.m4

theorem heap1 (w : World) (a : Obj) : (w.alloc a).heap[w.heap.size]? = some a := heap_alloc_new w a
theorem heap2 (w : World) (a b : Obj) : ((w.alloc a).alloc b).heap[w.heap.size + 1]? = some b := by
  have h := heap_alloc_new (w.alloc a) b
  simpa using h
theorem heap3 (w : World) (a b c : Obj) : (((w.alloc a).alloc b).alloc c).heap[w.heap.size + 2]? = some c := by
  have h := heap_alloc_new ((w.alloc a).alloc b) c
  simpa using h
theorem heap2o (w : World) (a b : Obj) : ((w.alloc a).alloc b).heap[w.heap.size]? = some a :=
  (Below.heap_alloc (w.alloc a) b _ (by simp)).trans (heap1 w a)
theorem heap3o (w : World) (a b c : Obj) : (((w.alloc a).alloc b).alloc c).heap[w.heap.size]? = some a :=
  (Below.heap_alloc ((w.alloc a).alloc b) c _ (by simp; omega)).trans (heap2o w a b)
theorem heap3p (w : World) (a b c : Obj) : (((w.alloc a).alloc b).alloc c).heap[w.heap.size + 1]? = some b :=
  (Below.heap_alloc ((w.alloc a).alloc b) c _ (by simp)).trans (heap2 w a b)
/-- A block of three cells, each written anew: what they read. -/
theorem set3 {w : World} {b T : Nat} {c0 c1 c2 : Value} (Y : w.heap[b]? = some (.cells #[c0, c1, c2] T (0, 0))) :
    (∀ u, (w.setCell ⟨b, 0, none⟩ u).cell? ⟨b, 0, none⟩ = some u) ∧ (∀ u0 u, ((w.setCell ⟨b, 0, none⟩ u0).setCell ⟨b, 1, none⟩ u).cell? ⟨b, 1, none⟩ = some u) ∧
    (∀ u0 u1 u, (((w.setCell ⟨b, 0, none⟩ u0).setCell ⟨b, 1, none⟩ u1).setCell ⟨b, 2, none⟩ u).cell? ⟨b, 2, none⟩ = some u) := by
  refine ⟨fun u => ?_, fun u0 u => ?_, fun u0 u1 u => ?_⟩
  · rw [blk_cell (blk_set Y 0 u)]; simp
  · rw [blk_cell (blk_set (blk_set Y 0 u0) 1 u)]; simp
  · rw [blk_cell (blk_set (blk_set (blk_set Y 0 u0) 1 u1) 2 u)]; simp
/-- A whole row written into its block. -/
theorem run_storeVar_row {P : Program} (w : World) (g : Nat) (t ty : TypeId) (old cs : Array Value) (hg : w.heap[g]? = some (.cells old t (0, 0))) (hi : (P.info? ty).map (·.size) = some cs.size)
    (ho : old.size = cs.size) (h1 : ∀ v ∈ cs.toList, v.oneCell' = true) : (storeVar ty ⟨g, 0, none⟩ (.agg cs)).run P w = .ok () (w.setRow g cs) := by
  have hst := run_storeCells_at P g 0 t cs.toList 0 old w hg (by simp [ho]) h1
  cases hq : P.info? ty with
  | none => simp [hq] at hi
  | some i =>
    have hs : i.size = cs.size := by simpa [hq] using hi
    simp only [Nat.add_zero, List.take_zero, List.nil_append, Nat.zero_add, Array.length_toList] at hst
    rw [← ho] at hst
    have e : (cs.toList ++ old.toList.drop old.size).toArray = cs := by
      rw [List.drop_of_length_le (by simp)]; simp
    rw [e] at hst
    simp [storeVar, Sem.run_bind, sizeOf, typeInfo, hq, hs, Value.cells, hst]
theorem wpList_store_row {P : Program} {ops : Array Oper} {rest : List Oper} {o : Oper} {a : Act} {w : World} {Q : Exit → Act → World → Prop} (hgd : o.guard = none) (ty : TypeId) (x v : Operand) (ho : o.op = .store ty x v)
    (g : Nat) (hx : a.eval x = .pointer (some ⟨g, 0, none⟩)) (t : TypeId) (old cs : Array Value) (hv : a.eval v = .agg cs) (hg : w.heap[g]? = some (.cells old t (0, 0))) (hi : (P.info? ty).map (·.size) = some cs.size)
    (hs : old.size = cs.size) (h1 : ∀ v ∈ cs.toList, v.oneCell' = true) (h : wpList P ops Q rest (a.put o.dst undef) (w.setRow g cs)) : wpList P ops Q (o :: rest) a w :=
  wpList_plain hgd fun _ hK => by
    unfold Oper.wp execOp
    simp only [ho, hx, hv, Instr.storeAt, Instr.sureAddr, Sem.run_bind, Sem.run_pure, Result.andThen_ok, run_storeVar_row w g t ty old cs hg hi hs h1]
    exact hK _ _ h
theorem bel_setRow {B : Nat} {a w : World} (h : Below B a w) {g : Nat} (hg : B ≤ g) (cs : Array Value) : Below B a (w.setRow g cs) :=
  h.trans ⟨rfl, rfl, rfl, by simp, fun k hk => setRow_other w g k cs (by omega)⟩
/-- An IP held against nil. -/
theorem ip_neq (A : Option Addr) (n c : Nat) (w : World) : (Go.binOp .neq 63 (.slice A n c) (.slice none 0 0)).run Tryz.prog w = .ok (.bool (!A.isNone)) w :=
  run_neq_slice_nil_any w 63 _ A n c 0 0 Tryz.underlying63
theorem bel_then {w w1 w2 : World} (h : Below w.heap.size w w1) (k : Below w1.heap.size w1 w2) : Below w.heap.size w w2 := h.trans (k.mono h.size)
end Go.Proofs.YtnchgmjeoajmiaaGreatDoor

/-! Nip -/
namespace Go.Proofs.YtnchgmjeoajmiaaGreatDoor
open Go.RowKit Go.Proofs.YtnchgmjeoajmiaaGreatDoorW.PrintWords
set_option linter.unusedSimpArgs false
set_option linter.unusedVariables false

set_option maxRecDepth 100000 in
set_option maxHeartbeats 400000 in
theorem bitLen4 (p4 p6 : Addr) (hi lo : Int) (w : World) (g : GW p4 p6 w) :
    Calls Tryz.prog 80 #[.agg #[.int .u64 hi, .int .u64 lo, .pointer (some p4)]] w fun e w' => e = .returned (.int .i64 32) ∧ Below w.heap.size w w' := by
  have h0 := g.z0
  have h4 := g.z4
  have l0 := World.block_lt_of_cell? w _ h0
  have l4 := World.block_lt_of_cell? w _ h4
  simp only at l0 l4
  have e0 := heq_nil 9998 p4
  have e1 := heq_same 9998 p4
  go_enter Tryz.func80, Tryz.ntmps80
  go_wp2
  go_ret
  exact ⟨rfl, by go_grown⟩

set_option maxRecDepth 100000 in
set_option maxHeartbeats 400000 in
theorem value4 (p : Addr) (b : Bool) (w : World) (a0 : w.cell? p = some (.bool b)) (a1 : w.cell? ⟨p.block, p.off + 1, none⟩ = some (.string ⟨#[]⟩)) :
    Calls Tryz.prog 118 #[.agg #[.pointer (some p)]] w fun e w' => e = .returned (.agg #[.bool b, .string ⟨#[]⟩]) ∧ Below w.heap.size w w' := by
  have la := World.block_lt_of_cell? w _ a0
  have lb := World.block_lt_of_cell? w _ a1
  go_enter Tryz.func118, Tryz.ntmps118
  go_wp2
  go_returns
  exact ⟨rfl, by go_grown⟩

set_option maxRecDepth 100000 in
set_option maxHeartbeats 400000 in
theorem zone4 (p4 p6 : Addr) (hi lo : Int) (w : World) (g : GW p4 p6 w) :
    Calls Tryz.prog 78 #[.agg #[.int .u64 hi, .int .u64 lo, .pointer (some p4)]] w fun e w' => e = .returned (.string ⟨#[]⟩) ∧ Below w.heap.size w w' := by
  have h0 := g.z0
  have h4 := g.z4
  have l0 := World.block_lt_of_cell? w _ h0
  have l4 := World.block_lt_of_cell? w _ h4
  have a0 := g.a0
  have a1 := g.a1
  have la := World.block_lt_of_cell? w _ a0
  simp only at l0 l4
  have e0 := heq_nil 9998 p4
  go_enter Tryz.func78, Tryz.ntmps78
  have hf : ∀ (x y : Value) (w : World), (Instr.field 181 (.agg #[x, y]) 1).run Tryz.prog w = .ok y w := fun _ _ _ => by kernel_rfl
  have B1 : Below w.heap.size w (w.alloc (.cells #[.int .u64 hi, .int .u64 lo, .pointer (some p4)] 108)) := by go_grown
  go_wp2_with (go_at_call 118; refine (value4 p4 false _ (cell_on B1 a0) (cell_on B1 a1)).mono ?_; rintro e w' ⟨rfl, hb⟩)
  go_ret
  exact ⟨rfl, B1.trans (hb.mono B1.size)⟩

set_option maxRecDepth 100000 in
set_option maxHeartbeats 400000 in
theorem putU32 (g : Nat) (n : Int) (c0 c1 c2 c3 : Value) (T : Nat) (w : World) (h0 : 0 ≤ n) (h1 : n ≤ 4294967295) (hb : w.heap[g]? = some (.cells #[c0, c1, c2, c3] T (0, 0))) :
    Calls Tryz.prog 92 #[.slice (some ⟨g, 0, none⟩) 4 4, .int .u32 n] w fun e w' => e = .returned (.tuple #[]) ∧
      w' = (((w.setCell ⟨g, 0, none⟩ (.int .u8 (n / 16777216))).setCell ⟨g, 1, none⟩ (.int .u8 (n / 65536 % 256))).setCell ⟨g, 2, none⟩ (.int .u8 (n / 256 % 256))).setCell ⟨g, 3, none⟩ (.int .u8 (n % 256)) := by
  have e0 : w.cell? ⟨g, 0, none⟩ = some c0 := by simp [World.cell?, hb]
  have e1 : w.cell? ⟨g, 1, none⟩ = some c1 := by simp [World.cell?, hb]
  have e2 : w.cell? ⟨g, 2, none⟩ = some c2 := by simp [World.cell?, hb]
  have e3 : w.cell? ⟨g, 3, none⟩ = some c3 := by simp [World.cell?, hb]
  have f : ∀ o, w.frozen? ⟨g, o, none⟩ = false := fun o => by simp [World.frozen?, hb]
  have f0 := f 0
  have f1 := f 1
  have f2 := f 2
  have f3 := f 3
  clear f hb
  go_enter Tryz.func92, Tryz.ntmps92
  go_wp2
  go_end0
  exact ⟨rfl, rfl⟩

/-- The call hands back a slice over a new block of type T that holds just these bytes. -/
def NewBytes (T : Nat) (bs : List Int) (w : World) (e : Ending) (w' : World) : Prop :=
  ∃ g, e = .returned (.slice (some ⟨g, 0, none⟩) bs.length bs.length) ∧ w'.heap[g]? = some (.cells (bs.map (Value.int .u8)).toArray T (0, 0)) ∧ w.heap.size ≤ g ∧ Below w.heap.size w w'

def quad (n : Int) : List Int := [n / 16777216, n / 65536 % 256, n / 256 % 256, n % 256]

set_option maxRecDepth 100000 in
set_option maxHeartbeats 400000 in
theorem asSlice4 (p4 p6 : Addr) (hi lo : Int) (w : World) (g : GW p4 p6 w) (n : Int) (l0 : 0 ≤ n) (l1 : n ≤ 4294967295) (hl : IntKind.u32.wrap lo = n) :
    Calls Tryz.prog 61 #[.agg #[.int .u64 hi, .int .u64 lo, .pointer (some p4)]] w (NewBytes 153 (quad n) w) := by
  have h0 := g.z0
  have h4 := g.z4
  have q0 := World.block_lt_of_cell? w _ h0
  have q4 := World.block_lt_of_cell? w _ h4
  simp only at q0 q4
  have e0 := heq_nil 9998 p4
  have e1 := heq_same 9998 p4
  go_enter Tryz.func61, Tryz.ntmps61
  go_wp2
  go_region_with (go_at_call 92; refine (putU32 (w.heap.size + 1) n (.int .u8 0) (.int .u8 0) (.int .u8 0) (.int .u8 0) 153 _ l0 l1 (by exact heap2 _ _ _)).mono ?_; rintro e w' ⟨rfl, rfl⟩)
  go_wp2
  go_ret
  exact ⟨w.heap.size + 1, rfl, heap2 _ _ _, by omega, by go_grown⟩
end Go.Proofs.YtnchgmjeoajmiaaGreatDoor

/-! Vfour -/
namespace Go.Proofs.YtnchgmjeoajmiaaGreatDoor
open Go.RowKit Go.Proofs.YtnchgmjeoajmiaaGreatDoorW.PrintWords
set_option linter.unusedSimpArgs false
set_option linter.unusedVariables false

/-- The loop of parseIPv4Fields, where it comes to no error. -/
def v4 (s : ByteArray) : Nat → Int → Int → Int → Int → List Int → Option (List Int)
  | 0, _, _, _, _, _ => none
  | k + 1, i, val, pos, dig, f =>
    if i < (s.size : Int) then
      if 48 ≤ bt s i ∧ bt s i ≤ 57 then
        if dig = 1 ∧ val = 0 then none
        else if val * 10 + bt s i - 48 > 255 then none
        else v4 s k (i + 1) (val * 10 + bt s i - 48) pos (dig + 1) f
      else if bt s i = 46 then
        if i = 0 ∨ i = (s.size : Int) - 1 ∨ bt s (i - 1) = 46 then none
        else if pos = 3 then none
        else v4 s k (i + 1) 0 (pos + 1) 0 (f.set pos.toNat val)
      else none
    else if pos < 3 then none else some (f.set 3 val)

def V4Rel (s : ByteArray) (B g : Nat) (w0 : World) (r : List Int) (k : Nat) (i val pos dig : Int) (w : World) : Prop :=
  ∃ f : List Int, f.length = 4 ∧ v4 s k i val pos dig f = some r ∧ w.heap[g]? = some (.cells (f.map (Value.int .u8)).toArray 153 (0, 0)) ∧ Below B w0 w ∧ 0 ≤ i ∧ i ≤ s.size ∧ 0 ≤ val ∧ val ≤ 255 ∧ 0 ≤ pos ∧ pos ≤ 3 ∧ 0 ≤ dig ∧ dig ≤ i

set_option maxRecDepth 100000 in
set_option maxHeartbeats 1000000 in
theorem v4_calls (s : ByteArray) (K : Nat) (r : List Int) (g B : Nat) (w : World) (hs : s.size ≤ 9223372036854775807) (hB : B ≤ g) (hBw : B ≤ w.heap.size)
    (hg : w.heap[g]? = some (.cells #[.int .u8 0, .int .u8 0, .int .u8 0, .int .u8 0] 153 (0, 0))) (h : v4 s K 0 0 0 0 [0, 0, 0, 0] = some r) :
    Calls Tryz.prog 124 #[.string s, .int .i64 0, .int .i64 s.size, .slice (some ⟨g, 0, none⟩) 4 4] w fun e w' => e = .returned .nilIface ∧ w'.heap[g]? = some (.cells (r.map (Value.int .u8)).toArray 153 (0, 0)) ∧ Below B w w' := by
  have H0 : Aside0 (V4Rel s B g w r K 0 0 0 0 w) := Aside0.mk ⟨[0, 0, 0, 0], rfl, h, hg, Below.refl _ _, by omega, by omega, by omega, by omega, by omega, by omega, by omega, by omega⟩
  clear h hg
  go_enter Tryz.func124, Tryz.ntmps124
  go_wp2
  go_loopg [9, 10, 11, 13] K (fun kq v9 v10 v11 v13 w' => ∃ (val pos dig i : Int), v9 = .int .i64 val ∧ v10 = .int .i64 pos ∧ v11 = .int .i64 dig ∧ v13 = .int .i64 i ∧ Aside0 (V4Rel s B g w r kq i val pos dig w'))
  case atStart => exact ⟨0, 0, 0, 0, rfl, rfl, rfl, rfl, H0⟩
  case round =>
    clear H0
    obtain ⟨val, pos, dig, i, rfl, rfl, rfl, rfl, HA⟩ := hrel
    obtain ⟨f, hf, hv, hg, hb, i0, i1, a0, a1, b0, b1, d0, d1⟩ := HA.out
    clear HA
    cases gk with
    | zero => exact absurd hv (by simp [v4])
    | succ k =>
      have hx := bt_at s i
      simp only [v4] at hv
      by_cases c1 : i < (s.size : Int)
      · rw [if_pos c1] at hv
        have p1 := eq_true i0
        have q1 := eq_true c1
        by_cases c2 : 48 ≤ bt s i ∧ bt s i ≤ 57
        · rw [if_pos c2] at hv
          obtain ⟨c2a, c2b⟩ := c2
          by_cases c3 : dig = 1 ∧ val = 0
          · rw [if_pos c3] at hv; cases hv
          rw [if_neg c3] at hv
          by_cases c4 : val * 10 + bt s i - 48 > 255
          · rw [if_pos c4] at hv; cases hv
          rw [if_neg c4] at hv
          have R := Aside0.mk (show V4Rel s B g w r k (i + 1) (val * 10 + bt s i - 48) pos (dig + 1) wr from ⟨f, hf, hv, hg, hb, by omega, by omega, by omega, by omega, by omega, by omega, by omega, by omega⟩)
          clear hv hg hb hf
          by_cases cd : dig = 1
          · subst cd
            have cv : (val == 0) = false := beq_eq_false_iff_ne.2 (fun e => c3 ⟨rfl, e⟩)
            clear c3
            go_wp2
            go_roundg k
            case measure => omega
            case rel => exact ⟨_, _, _, _, rfl, rfl, rfl, rfl, R⟩
          · have cv : (dig == 1) = false := beq_eq_false_iff_ne.2 cd
            clear c3
            go_wp2
            go_roundg k
            case measure => omega
            case rel => exact ⟨_, _, _, _, rfl, rfl, rfl, rfl, R⟩
        · rw [if_neg c2] at hv
          have cb := bt_range s i
          obtain ⟨cb0, cb1⟩ := cb
          by_cases c3 : bt s i = 46
          · rw [if_pos c3] at hv
            by_cases c4 : i = 0 ∨ i = (s.size : Int) - 1 ∨ bt s (i - 1) = 46
            · rw [if_pos c4] at hv; cases hv
            rw [if_neg c4] at hv
            by_cases c5 : pos = 3
            · rw [if_pos c5] at hv; cases hv
            rw [if_neg c5] at hv
            have e0 : (i == 0) = false := beq_eq_false_iff_ne.2 (fun e => c4 (.inl e))
            have e1 : (i == (s.size : Int) - 1) = false := beq_eq_false_iff_ne.2 (fun e => c4 (.inr (.inl e)))
            have e2 : (bt s (i - 1) == 46) = false := beq_eq_false_iff_ne.2 (fun e => c4 (.inr (.inr e)))
            have e3 : (pos == 3) = false := beq_eq_false_iff_ne.2 c5
            have i2 : 0 < i := by omega
            clear c4
            have hy : ∀ h : i.toNat - 1 < s.size, (((s[i.toNat - 1]'h).toNat : Int) == 46) = false := fun h => by
              have h1 := bt_at s (i - 1)
              have h2 : (i - 1).toNat = i.toNat - 1 := by omega
              simp only [h2] at h1
              rw [h1 h]; exact e2
            have hc : wr.cell? ⟨g, pos.toNat, none⟩ = some (.int .u8 (f.getD pos.toNat 0)) := by
              have : pos.toNat < f.length := by omega
              rw [blk_cell hg]
              simp [this]
            have hz : wr.frozen? ⟨g, pos.toNat, none⟩ = false := by simp [World.frozen?, hg]
            have hset := blk_set hg pos.toNat (.int .u8 val)
            have R := Aside0.mk (show V4Rel s B g w r k (i + 1) 0 (pos + 1) 0 (wr.setCell ⟨g, pos.toNat, none⟩ (.int .u8 val)) from
              ⟨f.set pos.toNat val, by simpa using hf, hv, by rw [hset]; simp [List.map_set], hb.setCell (by simpa using hB) _, by omega, by omega, by omega, by omega, by omega, by omega, by omega, by omega⟩)
            clear hset hv hg hb hf e2 hx
            have hx := bt_at s i
            have b3 : pos < 3 := by omega
            have p3 : pos.toNat < 4 := by omega
            go_wp2
            go_roundg k
            case measure => omega
            case rel => exact ⟨_, _, _, _, rfl, rfl, rfl, rfl, R⟩
          · rw [if_neg c3] at hv; cases hv
      · rw [if_neg c1] at hv
        by_cases c2 : pos < 3
        · rw [if_pos c2] at hv; cases hv
        rw [if_neg c2] at hv
        obtain rfl := Option.some.inj hv
        have hc : wr.cell? ⟨g, 3, none⟩ = some (.int .u8 (f.getD 3 0)) := by
          have : 3 < f.length := by omega
          rw [blk_cell hg]
          simp [this]
        have hz : wr.frozen? ⟨g, 3, none⟩ = false := by simp [World.frozen?, hg]
        have hset := blk_set hg 3 (.int .u8 val)
        have R := Aside0.mk (show (wr.setCell ⟨g, 3, none⟩ (.int .u8 val)).heap[g]? = some (.cells ((f.set 3 val).map (Value.int .u8)).toArray 153 (0, 0)) ∧ Below B w (wr.setCell ⟨g, 3, none⟩ (.int .u8 val)) from
              ⟨by rw [hset]; simp [List.map_set], hb.setCell (by simpa using hB) _⟩)
        clear hset hv hg hb hf hx
        go_wp2
        go_ret
        exact ⟨rfl, by simpa [List.map_set] using R.out⟩

/-- The call hands back an error. -/
def IsErr (e : Ending) : Prop := ∃ v, e = .returned (.iface 152 v)

set_option maxRecDepth 100000 in
set_option maxHeartbeats 1000000 in
theorem v4_err (s : ByteArray) (v : Value) (w : World) (hs : s.size ≤ 9223372036854775807) (h0 : 0 < s.size) (hn : ¬ (48 ≤ bt s 0 ∧ bt s 0 ≤ 57)) :
    Calls Tryz.prog 124 #[.string s, .int .i64 0, .int .i64 s.size, v] w fun e w' => IsErr e ∧ w = w' := by
  have hx := bt_at s 0
  simp only [Int.toNat_zero] at hx
  obtain ⟨cb0, cb1⟩ := bt_range s 0
  by_cases c1 : 48 ≤ bt s 0
  · have c2 : ¬ bt s 0 ≤ 57 := fun h => hn ⟨c1, h⟩
    have e1 : (bt s 0 == 46) = false := beq_eq_false_iff_ne.2 (by omega)
    clear hn
    go_enter Tryz.func124, Tryz.ntmps124
    go_wp2
    refine wp_loop_rounds 1 ?_
    rw [rounds_succ]
    go_wp2
    all_goals (go_ret; exact ⟨⟨_, rfl⟩, rfl⟩)
  · by_cases c3 : bt s 0 = 46
    · have e1 : (bt s 0 == 46) = true := beq_iff_eq.2 c3
      clear hn
      go_enter Tryz.func124, Tryz.ntmps124
      go_wp2
      refine wp_loop_rounds 1 ?_
      rw [rounds_succ]
      go_wp2
      all_goals (go_ret; exact ⟨⟨_, rfl⟩, rfl⟩)
    · have e1 : (bt s 0 == 46) = false := beq_eq_false_iff_ne.2 c3
      clear hn
      go_enter Tryz.func124, Tryz.ntmps124
      go_wp2
      refine wp_loop_rounds 1 ?_
      rw [rounds_succ]
      go_wp2
      all_goals (go_ret; exact ⟨⟨_, rfl⟩, rfl⟩)
end Go.Proofs.YtnchgmjeoajmiaaGreatDoor

/-! Paddr -/
namespace Go.Proofs.YtnchgmjeoajmiaaGreatDoor
open Go.RowKit Go.Proofs.YtnchgmjeoajmiaaGreatDoorW.PrintWords
set_option linter.unusedSimpArgs false
set_option linter.unusedVariables false

theorem or_add (i : Nat) (x y : Int) (hx : 0 ≤ x) (hx1 : x < 18446744073709551616) (hy : 0 ≤ y) (hy1 : y < 2 ^ i) (hm : x % 2 ^ i = 0) (hi : i < 64) : bits .or .u64 x y = x + y := by
  obtain ⟨a, rfl⟩ := Int.eq_ofNat_of_zero_le hx
  obtain ⟨b, rfl⟩ := Int.eq_ofNat_of_zero_le hy
  have hp : (2 : Nat) ^ i ≤ 2 ^ 63 := Nat.pow_le_pow_right (by omega) (by omega)
  have hy2 : b < 2 ^ i := by
    have : ((b : Nat) : Int) < ((2 ^ i : Nat) : Int) := by simpa using hy1
    exact Int.ofNat_lt.1 this
  have hm2 : a % 2 ^ i = 0 := by
    have : ((a % 2 ^ i : Nat) : Int) = 0 := by simpa using hm
    exact Int.ofNat_eq_zero.1 this
  rw [bits_or_u64_nat a b (by omega) (by omega)]
  obtain ⟨q, hq⟩ := Nat.dvd_of_mod_eq_zero hm2
  rw [hq, ← Nat.two_pow_add_eq_or_of_lt hy2 q]
  simp

set_option maxRecDepth 100000 in
set_option maxHeartbeats 400000 in
theorem addrFrom4 (p4 p6 : Addr) (a b c d : Int) (w : World) (g : GW p4 p6 w) (ha : 0 ≤ a ∧ a ≤ 255) (hb : 0 ≤ b ∧ b ≤ 255) (hc : 0 ≤ c ∧ c ≤ 255) (hd : 0 ≤ d ∧ d ≤ 255) :
    Calls Tryz.prog 125 #[.agg #[.int .u8 a, .int .u8 b, .int .u8 c, .int .u8 d]] w fun e w' => e = .returned (.agg #[.int .u64 0, .int .u64 (281470681743360 + a * 16777216 + b * 65536 + c * 256 + d), .pointer (some p4)]) ∧ Below w.heap.size w w' := by
  have h4 := g.z4
  have q4 := World.block_lt_of_cell? w _ h4
  simp only at q4
  obtain ⟨ha0, ha1⟩ := ha
  obtain ⟨hb0, hb1⟩ := hb
  obtain ⟨hc0, hc1⟩ := hc
  obtain ⟨hd0, hd1⟩ := hd
  have e1 := or_add 32 281470681743360 (a * 16777216) (by omega) (by omega) (by omega) (by omega) (by omega) (by omega)
  have e2 := or_add 24 (281470681743360 + a * 16777216) (b * 65536) (by omega) (by omega) (by omega) (by omega) (by omega) (by omega)
  have e3 := or_add 16 (281470681743360 + a * 16777216 + b * 65536) (c * 256) (by omega) (by omega) (by omega) (by omega) (by omega) (by omega)
  have e4 := or_add 8 (281470681743360 + a * 16777216 + b * 65536 + c * 256) d (by omega) (by omega) (by omega) (by omega) (by omega) (by omega)
  go_enter Tryz.func125, Tryz.ntmps125
  go_wp2
  go_returns
  exact ⟨rfl, by go_grown⟩

/-- The Addr of four bytes. -/
def addrOf (p4 : Addr) (a b c d : Int) : Value := .agg #[.int .u64 0, .int .u64 (281470681743360 + a * 16777216 + b * 65536 + c * 256 + d), .pointer (some p4)]
def noAddr : Value := .agg #[.int .u64 0, .int .u64 0, .pointer none]
def Byte (x : Int) : Prop := 0 ≤ x ∧ x ≤ 255

set_option maxRecDepth 100000 in
set_option maxHeartbeats 400000 in
theorem parseIPv4_ok (p4 p6 : Addr) (s : ByteArray) (K : Nat) (a b c d : Int) (w : World) (g : GW p4 p6 w) (hs : s.size ≤ 9223372036854775807) (h : v4 s K 0 0 0 0 [0, 0, 0, 0] = some [a, b, c, d])
    (ha : Byte a) (hb : Byte b) (hc : Byte c) (hd : Byte d) :
    Calls Tryz.prog 90 #[.string s] w fun e w' => e = .returned (.tuple #[.agg #[.int .u64 0, .int .u64 (281470681743360 + a * 16777216 + b * 65536 + c * 256 + d), .pointer (some p4)], .nilIface]) ∧ Below w.heap.size w w' := by
  have H := Aside0.mk h
  clear h
  have G := Aside0.mk g
  clear g
  have HA := Aside0.mk ha
  have HB := Aside0.mk hb
  have HC := Aside0.mk hc
  have HD := Aside0.mk hd
  clear ha hb hc hd
  go_enter Tryz.func90, Tryz.ntmps90
  go_wp2_with fail
  have B0 : Below w.heap.size w ((w.alloc (.cells #[.int .u64 0, .int .u64 0, .pointer none] 108)).alloc (.cells #[.int .u8 0, .int .u8 0, .int .u8 0, .int .u8 0] 153)) := by go_grown
  have X1 := heap2o w (.cells #[.int .u64 0, .int .u64 0, .pointer none] 108) (.cells #[.int .u8 0, .int .u8 0, .int .u8 0, .int .u8 0] 153)
  refine (v4_calls s K [a, b, c, d] (w.heap.size + 1) (w.heap.size + 1) _ hs (by omega) (by simp) (by exact heap2 _ _ _) H.out).mono ?_
  rintro e w1 ⟨rfl, hg, hb⟩
  have Y := Aside0.mk ((hb.block w.heap.size (by omega)).trans X1)
  have B1 := Aside0.mk (B0.trans (hb.mono (Nat.le_succ _)))
  clear X1 B0 hb
  have c0 := blk_cell hg 0
  have c1 := blk_cell hg 1
  have c2 := blk_cell hg 2
  have c3 := blk_cell hg 3
  have q1 := blk_lt hg
  simp only [List.map_cons, List.map_nil, List.getElem?_toArray, List.getElem?_cons_zero, List.getElem?_cons_succ] at c0 c1 c2 c3
  clear hg
  go_wp2_with fail
  refine (addrFrom4 p4 p6 a b c d w1 (G.out.below B1.out) HA.out HB.out HC.out HD.out).mono ?_
  rintro e w2 ⟨rfl, hb⟩
  have Y2 := (hb.block w.heap.size (by omega)).trans Y.out
  have B2 := Aside0.mk (bel_then B1.out hb)
  have d0 := blk_cell Y2 0
  have d1 := blk_cell Y2 1
  have d2 := blk_cell Y2 2
  have f0 := blk_frozen Y2 0
  have f1 := blk_frozen Y2 1
  have f2 := blk_frozen Y2 2
  have q2 := blk_lt Y2
  simp only [List.getElem?_toArray, List.getElem?_cons_zero, List.getElem?_cons_succ] at d0 d1 d2
  obtain ⟨r0, r1, r2⟩ := set3 Y2
  clear Y2 hb c0 c1 c2 c3 q1
  go_wp2_with fail
  refine bodyPost_ret (v := .tuple #[.agg #[.int .u64 0, .int .u64 (281470681743360 + a * 16777216 + b * 65536 + c * 256 + d), .pointer (some p4)], .nilIface]) (by simp [results, Tryz.results90, go_sem, r0, r1, r2]) rfl ?_
  exact ⟨rfl, (((B2.out).setCell (by simp) _).setCell (by simp) _).setCell (by simp) _⟩

/-- The call hands back no address, and an error. -/
def NoAddrErr (e : Ending) : Prop := ∃ v, e = .returned (.tuple #[.agg #[.int .u64 0, .int .u64 0, .pointer none], .iface 152 v])

set_option maxRecDepth 100000 in
set_option maxHeartbeats 400000 in
theorem parseIPv4_err (s : ByteArray) (w : World) (hs : s.size ≤ 9223372036854775807) (h0 : 0 < s.size) (hn : ¬ (48 ≤ bt s 0 ∧ bt s 0 ≤ 57)) :
    Calls Tryz.prog 90 #[.string s] w fun e w' => NoAddrErr e ∧ Below w.heap.size w w' := by
  go_enter Tryz.func90, Tryz.ntmps90
  go_wp2_with fail
  refine (v4_err s _ _ hs h0 hn).mono ?_
  rintro e w1 ⟨⟨v, rfl⟩, rfl⟩
  go_wp2_with fail
  go_returns
  exact ⟨⟨_, rfl⟩, by go_grown⟩

set_option maxRecDepth 100000 in
set_option maxHeartbeats 400000 in
/-- netip.ParseAddr of what begins with no digit and has no colon and no percent sign. -/
theorem parseAddr_err (s : ByteArray) (w : World) (hs : s.size ≤ 9223372036854775807) (h0 : 0 < s.size) (hn : ¬ (48 ≤ bt s 0 ∧ bt s 0 ≤ 57)) (hb : ∀ i : Int, 0 ≤ i → i < s.size → bt s i ≠ 58 ∧ bt s i ≠ 37) :
    Calls Tryz.prog 60 #[.string s] w fun e w' => NoAddrErr e ∧ Below w.heap.size w w' := by
  have HN := Aside0.mk hn
  have HB := Aside0.mk hb
  clear hn hb
  go_enter Tryz.func60, Tryz.ntmps60
  go_wp2_with fail
  go_loop [4] (fun v4 => ∃ i : Int, v4 = .int .i64 i ∧ 0 ≤ i ∧ i ≤ s.size) (fun v4 => s.size - (intOf v4).toNat)
  case atStart => exact ⟨0, rfl, by omega, by omega⟩
  case round =>
    obtain ⟨i, rfl, i0, i1⟩ := hrel
    by_cases c1 : i < (s.size : Int)
    · have hx := bt_at s i
      have e1 : (bt s i == 58) = false := beq_eq_false_iff_ne.2 (HB.out i i0 c1).1
      have e2 : (bt s i == 37) = false := beq_eq_false_iff_ne.2 (HB.out i i0 c1).2
      have p1 := eq_true i0
      have q1 := eq_true c1
      by_cases c2 : bt s i = 46
      · have e3 : (bt s i == 46) = true := beq_iff_eq.2 c2
        clear c2
        go_wp2_with fail
        have B0 : Below w.heap.size w (w.alloc (.cells #[.int .u64 0, .int .u64 0, .pointer none] 108)) := by go_grown
        refine (parseIPv4_err s _ hs h0 HN.out).mono ?_
        rintro e w1 ⟨⟨v, rfl⟩, hb⟩
        have Y2 := (hb.block w.heap.size (by simp)).trans (heap1 w _)
        have B2 := Aside0.mk (bel_then B0 hb)
        have d0 := blk_cell Y2 0
        have d1 := blk_cell Y2 1
        have d2 := blk_cell Y2 2
        have f0 := blk_frozen Y2 0
        have f1 := blk_frozen Y2 1
        have f2 := blk_frozen Y2 2
        have q2 := blk_lt Y2
        simp only [List.getElem?_toArray, List.getElem?_cons_zero, List.getElem?_cons_succ] at d0 d1 d2
        obtain ⟨r0, r1, r2⟩ := set3 Y2
        clear Y2 hb B0
        go_wp2_with fail
        refine bodyPost_ret (v := .tuple #[.agg #[.int .u64 0, .int .u64 0, .pointer none], .iface 152 v]) (by simp [results, Tryz.results60, go_sem, r0, r1, r2]) rfl ?_
        exact ⟨⟨_, rfl⟩, (((B2.out).setCell (by simp) _).setCell (by simp) _).setCell (by simp) _⟩
      · have e3 : (bt s i == 46) = false := beq_eq_false_iff_ne.2 c2
        clear c2
        go_wp2_with fail
        go_round
        case rel => exact ⟨i + 1, rfl, by omega, by omega⟩
        case measure => simp [intOf]; omega
    · go_wp2_with fail
      go_returns
      exact ⟨⟨_, rfl⟩, by go_grown⟩

set_option maxRecDepth 100000 in
set_option maxHeartbeats 400000 in
/-- netip.ParseAddr of the text of four numbers. -/
theorem parseAddr_ok (p4 p6 : Addr) (s : ByteArray) (K : Nat) (a b c d : Int) (w : World) (g : GW p4 p6 w) (hs : s.size ≤ 9223372036854775807) (h : v4 s K 0 0 0 0 [0, 0, 0, 0] = some [a, b, c, d])
    (ha : Byte a) (hb : Byte b) (hc : Byte c) (hd : Byte d) (j : Int) (j0 : 0 ≤ j) (j1 : j < s.size) (hj : bt s j = 46) (hl : ∀ i : Int, 0 ≤ i → i < j → bt s i ≠ 46 ∧ bt s i ≠ 58 ∧ bt s i ≠ 37) :
    Calls Tryz.prog 60 #[.string s] w fun e w' => e = .returned (.tuple #[.agg #[.int .u64 0, .int .u64 (281470681743360 + a * 16777216 + b * 65536 + c * 256 + d), .pointer (some p4)], .nilIface]) ∧ Below w.heap.size w w' := by
  have H := Aside0.mk h
  have G := Aside0.mk g
  have HA := Aside0.mk ha
  have HB := Aside0.mk hb
  have HC := Aside0.mk hc
  have HD := Aside0.mk hd
  have HL := Aside0.mk hl
  have HJ := Aside0.mk hj
  clear h g ha hb hc hd hl hj
  go_enter Tryz.func60, Tryz.ntmps60
  go_wp2_with fail
  go_loop [4] (fun v4 => ∃ i : Int, v4 = .int .i64 i ∧ 0 ≤ i ∧ i ≤ j) (fun v4 => s.size - (intOf v4).toNat)
  case atStart => exact ⟨0, rfl, by omega, by omega⟩
  case round =>
    obtain ⟨i, rfl, i0, i1⟩ := hrel
    have c1 : i < (s.size : Int) := by omega
    have hx := bt_at s i
    have p1 := eq_true i0
    have q1 := eq_true c1
    by_cases c2 : i = j
    · have e3 : (bt s i == 46) = true := beq_iff_eq.2 (by rw [c2]; exact HJ.out)
      clear c2
      go_wp2_with fail
      have B0 : Below w.heap.size w (w.alloc (.cells #[.int .u64 0, .int .u64 0, .pointer none] 108)) := by go_grown
      refine (parseIPv4_ok p4 p6 s K a b c d _ (G.out.below B0) hs H.out HA.out HB.out HC.out HD.out).mono ?_
      rintro e w1 ⟨rfl, hb⟩
      have Y2 := (hb.block w.heap.size (by simp)).trans (heap1 w _)
      have B2 := Aside0.mk (bel_then B0 hb)
      have d0 := blk_cell Y2 0
      have d1 := blk_cell Y2 1
      have d2 := blk_cell Y2 2
      have f0 := blk_frozen Y2 0
      have f1 := blk_frozen Y2 1
      have f2 := blk_frozen Y2 2
      have q2 := blk_lt Y2
      simp only [List.getElem?_toArray, List.getElem?_cons_zero, List.getElem?_cons_succ] at d0 d1 d2
      obtain ⟨r0, r1, r2⟩ := set3 Y2
      clear Y2 hb B0
      go_wp2_with fail
      refine bodyPost_ret (v := .tuple #[.agg #[.int .u64 0, .int .u64 (281470681743360 + a * 16777216 + b * 65536 + c * 256 + d), .pointer (some p4)], .nilIface]) (by simp [results, Tryz.results60, go_sem, r0, r1, r2]) rfl ?_
      exact ⟨rfl, (((B2.out).setCell (by simp) _).setCell (by simp) _).setCell (by simp) _⟩
    · have l := HL.out i i0 (by omega)
      have e1 : (bt s i == 46) = false := beq_eq_false_iff_ne.2 l.1
      have e2 : (bt s i == 58) = false := beq_eq_false_iff_ne.2 l.2.1
      have e3 : (bt s i == 37) = false := beq_eq_false_iff_ne.2 l.2.2
      have i2 : i < j := by omega
      clear c2 l
      go_wp2_with fail
      go_round
      case rel => exact ⟨i + 1, rfl, by omega, by omega⟩
      case measure => simp [intOf]; omega
end Go.Proofs.YtnchgmjeoajmiaaGreatDoor

/-! Cidr -/
namespace Go.Proofs.YtnchgmjeoajmiaaGreatDoor
open Go.RowKit Go.Proofs.YtnchgmjeoajmiaaGreatDoorW.PrintWords
set_option linter.unusedSimpArgs false
set_option linter.unusedVariables false

/-- The byte of a mask that has n bits (n below 8). -/
def mb (n : Int) : Int := bits .xor .u8 IntKind.u8.max (255 / 2 ^ n.toNat)
theorem mb_zero : bits .xor .u8 IntKind.u8.max 255 = 0 := by decide
theorem signed_u8 : IntKind.u8.signed = false := rfl
def mask4 (n : Int) : List Int := if n < 8 then [mb n, 0, 0, 0] else if n < 16 then [255, mb (n - 8), 0, 0] else if n < 24 then [255, 255, mb (n - 8 - 8), 0] else if n < 32 then [255, 255, 255, mb (n - 8 - 8 - 8)] else [255, 255, 255, 255]

set_option maxRecDepth 100000 in
set_option maxHeartbeats 400000 in
theorem cidrMask_0 (n : Int) (w : World) (h0 : 0 ≤ n) (h1 : n < 8) :
    Calls Tryz.prog 81 #[.int .i64 n, .int .i64 32] w (NewBytes 5 [mb n, 0, 0, 0] w) := by
  have hmk : ∀ w, (Instr.makeSlice 137 (.int .i64 4) (.int .i64 4)).run Tryz.prog w = .ok (.slice (some ⟨w.heap.size, 0, none⟩) 4 4) (w.alloc (.cells #[.int .u8 0, .int .u8 0, .int .u8 0, .int .u8 0] 5)) := fun _ => by kernel_rfl
  have e0 := mb_zero
  have e1 := signed_u8
  have d0 : decide (n < 0) = false := decide_eq_false (by omega)
  have d1 : decide (32 < n) = false := decide_eq_false (by omega)
  obtain ⟨m, hm⟩ : ∃ m, bits .xor .u8 IntKind.u8.max (255 / 2 ^ n.toNat) = m := ⟨_, rfl⟩
  go_enter Tryz.func81, Tryz.ntmps81
  go_wp2
  refine wp_loop_rounds 5 ?_
  rw [rounds_succ]
  go_wp2
  rw [rounds_succ]
  go_wp2
  rw [rounds_succ]
  go_wp2
  rw [rounds_succ]
  go_wp2
  rw [rounds_succ]
  go_wp2
  go_ret
  exact ⟨w.heap.size, rfl, by unfold mb; rw [hm]; exact heap1 _ _, Nat.le_refl _, by go_grown⟩

set_option maxRecDepth 100000 in
set_option maxHeartbeats 400000 in
theorem cidrMask_1 (n : Int) (w : World) (h0 : 8 ≤ n) (h1 : n < 16) :
    Calls Tryz.prog 81 #[.int .i64 n, .int .i64 32] w (NewBytes 5 [255, mb (n - 8), 0, 0] w) := by
  have hmk : ∀ w, (Instr.makeSlice 137 (.int .i64 4) (.int .i64 4)).run Tryz.prog w = .ok (.slice (some ⟨w.heap.size, 0, none⟩) 4 4) (w.alloc (.cells #[.int .u8 0, .int .u8 0, .int .u8 0, .int .u8 0] 5)) := fun _ => by kernel_rfl
  have e0 := mb_zero
  have e1 := signed_u8
  have d0 : decide (n < 0) = false := decide_eq_false (by omega)
  have d1 : decide (32 < n) = false := decide_eq_false (by omega)
  obtain ⟨m, hm⟩ : ∃ m, bits .xor .u8 IntKind.u8.max (255 / 2 ^ (n - 8).toNat) = m := ⟨_, rfl⟩
  go_enter Tryz.func81, Tryz.ntmps81
  go_wp2
  refine wp_loop_rounds 5 ?_
  rw [rounds_succ]
  go_wp2
  rw [rounds_succ]
  go_wp2
  rw [rounds_succ]
  go_wp2
  rw [rounds_succ]
  go_wp2
  rw [rounds_succ]
  go_wp2
  go_ret
  exact ⟨w.heap.size, rfl, by unfold mb; rw [hm]; exact heap1 _ _, Nat.le_refl _, by go_grown⟩

set_option maxRecDepth 100000 in
set_option maxHeartbeats 400000 in
theorem cidrMask_2 (n : Int) (w : World) (h0 : 16 ≤ n) (h1 : n < 24) :
    Calls Tryz.prog 81 #[.int .i64 n, .int .i64 32] w (NewBytes 5 [255, 255, mb (n - 8 - 8), 0] w) := by
  have hmk : ∀ w, (Instr.makeSlice 137 (.int .i64 4) (.int .i64 4)).run Tryz.prog w = .ok (.slice (some ⟨w.heap.size, 0, none⟩) 4 4) (w.alloc (.cells #[.int .u8 0, .int .u8 0, .int .u8 0, .int .u8 0] 5)) := fun _ => by kernel_rfl
  have e0 := mb_zero
  have e1 := signed_u8
  have d0 : decide (n < 0) = false := decide_eq_false (by omega)
  have d1 : decide (32 < n) = false := decide_eq_false (by omega)
  obtain ⟨m, hm⟩ : ∃ m, bits .xor .u8 IntKind.u8.max (255 / 2 ^ (n - 8 - 8).toNat) = m := ⟨_, rfl⟩
  go_enter Tryz.func81, Tryz.ntmps81
  go_wp2
  refine wp_loop_rounds 5 ?_
  rw [rounds_succ]
  go_wp2
  rw [rounds_succ]
  go_wp2
  rw [rounds_succ]
  go_wp2
  rw [rounds_succ]
  go_wp2
  rw [rounds_succ]
  go_wp2
  go_ret
  exact ⟨w.heap.size, rfl, by unfold mb; rw [hm]; exact heap1 _ _, Nat.le_refl _, by go_grown⟩

set_option maxRecDepth 100000 in
set_option maxHeartbeats 400000 in
theorem cidrMask_3 (n : Int) (w : World) (h0 : 24 ≤ n) (h1 : n < 32) :
    Calls Tryz.prog 81 #[.int .i64 n, .int .i64 32] w (NewBytes 5 [255, 255, 255, mb (n - 8 - 8 - 8)] w) := by
  have hmk : ∀ w, (Instr.makeSlice 137 (.int .i64 4) (.int .i64 4)).run Tryz.prog w = .ok (.slice (some ⟨w.heap.size, 0, none⟩) 4 4) (w.alloc (.cells #[.int .u8 0, .int .u8 0, .int .u8 0, .int .u8 0] 5)) := fun _ => by kernel_rfl
  have e0 := mb_zero
  have e1 := signed_u8
  have d0 : decide (n < 0) = false := decide_eq_false (by omega)
  have d1 : decide (32 < n) = false := decide_eq_false (by omega)
  obtain ⟨m, hm⟩ : ∃ m, bits .xor .u8 IntKind.u8.max (255 / 2 ^ (n - 8 - 8 - 8).toNat) = m := ⟨_, rfl⟩
  go_enter Tryz.func81, Tryz.ntmps81
  go_wp2
  refine wp_loop_rounds 5 ?_
  rw [rounds_succ]
  go_wp2
  rw [rounds_succ]
  go_wp2
  rw [rounds_succ]
  go_wp2
  rw [rounds_succ]
  go_wp2
  rw [rounds_succ]
  go_wp2
  go_ret
  exact ⟨w.heap.size, rfl, by unfold mb; rw [hm]; exact heap1 _ _, Nat.le_refl _, by go_grown⟩

set_option maxRecDepth 100000 in
set_option maxHeartbeats 400000 in
theorem cidrMask_4 (n : Int) (w : World) (h0 : 32 ≤ n) (h1 : n ≤ 32) :
    Calls Tryz.prog 81 #[.int .i64 n, .int .i64 32] w (NewBytes 5 [255, 255, 255, 255] w) := by
  have hmk : ∀ w, (Instr.makeSlice 137 (.int .i64 4) (.int .i64 4)).run Tryz.prog w = .ok (.slice (some ⟨w.heap.size, 0, none⟩) 4 4) (w.alloc (.cells #[.int .u8 0, .int .u8 0, .int .u8 0, .int .u8 0] 5)) := fun _ => by kernel_rfl
  have e0 := mb_zero
  have e1 := signed_u8
  have d0 : decide (n < 0) = false := decide_eq_false (by omega)
  have d1 : decide (32 < n) = false := decide_eq_false (by omega)
  go_enter Tryz.func81, Tryz.ntmps81
  go_wp2
  refine wp_loop_rounds 5 ?_
  rw [rounds_succ]
  go_wp2
  rw [rounds_succ]
  go_wp2
  rw [rounds_succ]
  go_wp2
  rw [rounds_succ]
  go_wp2
  rw [rounds_succ]
  go_wp2
  go_ret
  exact ⟨w.heap.size, rfl, heap1 _ _, Nat.le_refl _, by go_grown⟩

theorem cidrMask (n : Int) (w : World) (h0 : 0 ≤ n) (h1 : n ≤ 32) : Calls Tryz.prog 81 #[.int .i64 n, .int .i64 32] w (NewBytes 5 (mask4 n) w) := by
  unfold mask4
  by_cases c0 : n < 8
  · rw [if_pos c0]; exact cidrMask_0 n w h0 c0
  rw [if_neg c0]
  by_cases c1 : n < 16
  · rw [if_pos c1]; exact cidrMask_1 n w (by omega) c1
  rw [if_neg c1]
  by_cases c2 : n < 24
  · rw [if_pos c2]; exact cidrMask_2 n w (by omega) c2
  rw [if_neg c2]
  by_cases c3 : n < 32
  · rw [if_pos c3]; exact cidrMask_3 n w (by omega) c3
  rw [if_neg c3]; exact cidrMask_4 n w (by omega) h1
end Go.Proofs.YtnchgmjeoajmiaaGreatDoor

/-! Sixteen -/
namespace Go.Proofs.YtnchgmjeoajmiaaGreatDoor
open Go.RowKit Go.Proofs.YtnchgmjeoajmiaaGreatDoorW.PrintWords
set_option linter.unusedSimpArgs false
set_option linter.unusedVariables false

set_option maxRecDepth 100000 in
set_option maxHeartbeats 1000000 in
theorem putU64_0 (g : Nat) (n : Int) (cs : Array Value) (T : Nat) (w : World) (h0 : 0 ≤ n) (h1 : n ≤ 18446744073709551615) (hc : cs.size = 16) (hb : w.heap[g]? = some (.cells cs T (0, 0))) :
    Calls Tryz.prog 93 #[.slice (some ⟨g, 0, none⟩) 8 16, .int .u64 n] w fun e w' => e = .returned (.tuple #[]) ∧
      w' = ((((((((w.setCell ⟨g, 0, none⟩ (.int .u8 (n / 72057594037927936))).setCell ⟨g, 1, none⟩ (.int .u8 (n / 281474976710656 % 256))).setCell ⟨g, 2, none⟩ (.int .u8 (n / 1099511627776 % 256))).setCell ⟨g, 3, none⟩ (.int .u8 (n / 4294967296 % 256))).setCell ⟨g, 4, none⟩ (.int .u8 (n / 16777216 % 256))).setCell ⟨g, 5, none⟩ (.int .u8 (n / 65536 % 256))).setCell ⟨g, 6, none⟩ (.int .u8 (n / 256 % 256))).setCell ⟨g, 7, none⟩ (.int .u8 (n % 256))) := by
  have e : ∀ o, o < 16 → ∃ c, w.cell? ⟨g, o, none⟩ = some c := fun o ho => ⟨cs[o]'(by omega), by rw [blk_cell hb]; simp [hc, ho]⟩
  obtain ⟨c0, e0⟩ := e 0 (by omega)
  obtain ⟨c1, e1⟩ := e 1 (by omega)
  obtain ⟨c2, e2⟩ := e 2 (by omega)
  obtain ⟨c3, e3⟩ := e 3 (by omega)
  obtain ⟨c4, e4⟩ := e 4 (by omega)
  obtain ⟨c5, e5⟩ := e 5 (by omega)
  obtain ⟨c6, e6⟩ := e 6 (by omega)
  obtain ⟨c7, e7⟩ := e 7 (by omega)
  have f0 := blk_frozen hb 0
  have f1 := blk_frozen hb 1
  have f2 := blk_frozen hb 2
  have f3 := blk_frozen hb 3
  have f4 := blk_frozen hb 4
  have f5 := blk_frozen hb 5
  have f6 := blk_frozen hb 6
  have f7 := blk_frozen hb 7
  clear e hb hc
  go_enter Tryz.func93, Tryz.ntmps93
  go_wp2
  go_end0
  exact ⟨rfl, rfl⟩

set_option maxRecDepth 100000 in
set_option maxHeartbeats 1000000 in
theorem putU64_8 (g : Nat) (n : Int) (cs : Array Value) (T : Nat) (w : World) (h0 : 0 ≤ n) (h1 : n ≤ 18446744073709551615) (hc : cs.size = 16) (hb : w.heap[g]? = some (.cells cs T (0, 0))) :
    Calls Tryz.prog 93 #[.slice (some ⟨g, 8, none⟩) 8 8, .int .u64 n] w fun e w' => e = .returned (.tuple #[]) ∧
      w' = ((((((((w.setCell ⟨g, 8, none⟩ (.int .u8 (n / 72057594037927936))).setCell ⟨g, 9, none⟩ (.int .u8 (n / 281474976710656 % 256))).setCell ⟨g, 10, none⟩ (.int .u8 (n / 1099511627776 % 256))).setCell ⟨g, 11, none⟩ (.int .u8 (n / 4294967296 % 256))).setCell ⟨g, 12, none⟩ (.int .u8 (n / 16777216 % 256))).setCell ⟨g, 13, none⟩ (.int .u8 (n / 65536 % 256))).setCell ⟨g, 14, none⟩ (.int .u8 (n / 256 % 256))).setCell ⟨g, 15, none⟩ (.int .u8 (n % 256))) := by
  have e : ∀ o, o < 16 → ∃ c, w.cell? ⟨g, o, none⟩ = some c := fun o ho => ⟨cs[o]'(by omega), by rw [blk_cell hb]; simp [hc, ho]⟩
  obtain ⟨c0, e0⟩ := e 8 (by omega)
  obtain ⟨c1, e1⟩ := e 9 (by omega)
  obtain ⟨c2, e2⟩ := e 10 (by omega)
  obtain ⟨c3, e3⟩ := e 11 (by omega)
  obtain ⟨c4, e4⟩ := e 12 (by omega)
  obtain ⟨c5, e5⟩ := e 13 (by omega)
  obtain ⟨c6, e6⟩ := e 14 (by omega)
  obtain ⟨c7, e7⟩ := e 15 (by omega)
  have f0 := blk_frozen hb 8
  have f1 := blk_frozen hb 9
  have f2 := blk_frozen hb 10
  have f3 := blk_frozen hb 11
  have f4 := blk_frozen hb 12
  have f5 := blk_frozen hb 13
  have f6 := blk_frozen hb 14
  have f7 := blk_frozen hb 15
  clear e hb hc
  go_enter Tryz.func93, Tryz.ntmps93
  go_wp2
  go_end0
  exact ⟨rfl, rfl⟩

def oct (n : Int) : List Int := [n / 72057594037927936, n / 281474976710656 % 256, n / 1099511627776 % 256, n / 4294967296 % 256, n / 16777216 % 256, n / 65536 % 256, n / 256 % 256, n % 256]

set_option maxRecDepth 100000 in
set_option maxHeartbeats 1000000 in
theorem as16 (lo : Int) (p : Addr) (w : World) (h0 : 0 ≤ lo) (h1 : lo ≤ 18446744073709551615) :
    Calls Tryz.prog 82 #[.agg #[.int .u64 0, .int .u64 lo, .pointer (some p)]] w fun e w' => e = .returned (.agg (([0, 0, 0, 0, 0, 0, 0, 0] ++ oct lo).map (Value.int .u8)).toArray) ∧ Below w.heap.size w w' := by
  go_enter Tryz.func82, Tryz.ntmps82
  go_wp2
  go_region_with (go_at_call 93; refine (putU64_0 (w.heap.size + 1) 0 (#[.int .u8 0, .int .u8 0, .int .u8 0, .int .u8 0, .int .u8 0, .int .u8 0, .int .u8 0, .int .u8 0, .int .u8 0, .int .u8 0, .int .u8 0, .int .u8 0, .int .u8 0, .int .u8 0, .int .u8 0, .int .u8 0]) 139 _ (by omega) (by omega) (by rfl) (by exact heap2 _ _ _)).mono ?_; rintro e w' ⟨rfl, rfl⟩)
  go_wp2
  go_region_with (go_at_call 93; refine (putU64_8 (w.heap.size + 1) lo (#[.int .u8 0, .int .u8 0, .int .u8 0, .int .u8 0, .int .u8 0, .int .u8 0, .int .u8 0, .int .u8 0, .int .u8 0, .int .u8 0, .int .u8 0, .int .u8 0, .int .u8 0, .int .u8 0, .int .u8 0, .int .u8 0]) 139 _ h0 h1 (by rfl) (by exact heap2 _ _ _)).mono ?_; rintro e w' ⟨rfl, rfl⟩)
  go_wp2
  go_returns
  exact ⟨rfl, by go_grown⟩
end Go.Proofs.YtnchgmjeoajmiaaGreatDoor

/-! Loop -/
namespace Go.Proofs.YtnchgmjeoajmiaaGreatDoor
open Go.RowKit Go.Proofs.YtnchgmjeoajmiaaGreatDoorW.PrintWords
set_option linter.unusedSimpArgs false
set_option linter.unusedVariables false

set_option maxRecDepth 100000 in
set_option maxHeartbeats 400000 in
theorem to4_four (A : Option Addr) (c : Nat) (w : World) : Calls Tryz.prog 94 #[.slice A 4 c] w fun e w' => e = .returned (.slice A 4 c) ∧ w = w' := by
  go_enter Tryz.func94, Tryz.ntmps94
  go_wp2
  go_ret
  exact ⟨rfl, rfl⟩

set_option maxRecDepth 100000 in
set_option maxHeartbeats 400000 in
theorem to4_none (A : Option Addr) (c : Nat) (w : World) : Calls Tryz.prog 94 #[.slice A 0 c] w fun e w' => e = .returned (.slice none 0 0) ∧ w = w' := by
  go_enter Tryz.func94, Tryz.ntmps94
  go_wp2
  go_ret
  exact ⟨rfl, rfl⟩

set_option maxRecDepth 100000 in
set_option maxHeartbeats 400000 in
theorem isLoopback_four (g o : Nat) (c : Nat) (x : Int) (w : World) (hc : w.cell? ⟨g, o, none⟩ = some (.int .u8 x)) : Calls Tryz.prog 62 #[.slice (some ⟨g, o, none⟩) 4 c] w fun e w' => e = .returned (.bool (x == 127)) ∧ w = w' := by
  have hn := ip_neq (some ⟨g, o, none⟩) 4 c
  go_enter Tryz.func62, Tryz.ntmps62
  go_wp2_with fail
  refine (to4_four _ _ _).mono ?_
  rintro e w' ⟨rfl, rfl⟩
  go_wp2_with fail
  go_ret
  exact ⟨rfl, rfl⟩
end Go.Proofs.YtnchgmjeoajmiaaGreatDoor

/-! Pip -/
namespace Go.Proofs.YtnchgmjeoajmiaaGreatDoor
open Go.RowKit Go.Proofs.YtnchgmjeoajmiaaGreatDoorW.PrintWords
set_option linter.unusedSimpArgs false
set_option linter.unusedVariables false

theorem size139 : (Tryz.prog.info? 139).map (·.size) = some 16 := by kernel_rfl

/-- The results of parseIP: a row of sixteen cells, and a bool. -/
theorem results87 (tmps : Array Value) (w : World) (g : Nat) (cs : Array Value) (b : Value) (hp : tmps.getD 2 undef = .pointer (some ⟨g, 0, none⟩)) (hb : tmps.getD 3 undef = b) (hg : w.heap[g]? = some (.cells cs 139 (0, 0))) (hc : cs.size = 16) :
    (results Tryz.f87 tmps).run Tryz.prog w = .ok (.tuple #[.agg cs, b]) w := by
  rw [results_cell_tmp Tryz.results87 tmps Tryz.prog w, hp, hb]
  simp [asAddr, run_loadVar_row w g 139 139 cs (0, 0) _ hg Tryz.underlying139 rfl (by rw [size139, hc])]

set_option maxRecDepth 100000 in
set_option maxHeartbeats 400000 in
theorem parseIP_err (s : ByteArray) (w : World) (hs : s.size ≤ 9223372036854775807) (h0 : 0 < s.size) (hn : ¬ (48 ≤ bt s 0 ∧ bt s 0 ≤ 57)) (hb : ∀ i : Int, 0 ≤ i → i < s.size → bt s i ≠ 58 ∧ bt s i ≠ 37) :
    Calls Tryz.prog 87 #[.string s] w fun e w' => e = .returned (.tuple #[.agg #[.int .u8 0, .int .u8 0, .int .u8 0, .int .u8 0, .int .u8 0, .int .u8 0, .int .u8 0, .int .u8 0, .int .u8 0, .int .u8 0, .int .u8 0, .int .u8 0, .int .u8 0, .int .u8 0, .int .u8 0, .int .u8 0], .bool false]) ∧ Below w.heap.size w w' := by
  have HN := Aside0.mk hn
  have HB := Aside0.mk hb
  clear hn hb
  have B0 : Below w.heap.size w (w.alloc (.cells #[.int .u8 0, .int .u8 0, .int .u8 0, .int .u8 0, .int .u8 0, .int .u8 0, .int .u8 0, .int .u8 0, .int .u8 0, .int .u8 0, .int .u8 0, .int .u8 0, .int .u8 0, .int .u8 0, .int .u8 0, .int .u8 0] 139)) := by go_grown
  go_enter Tryz.func87, Tryz.ntmps87
  go_wp2_with fail
  refine (parseAddr_err s _ hs h0 HN.out HB.out).mono ?_
  rintro e w1 ⟨⟨v, rfl⟩, hb⟩
  have Y2 := (hb.block w.heap.size (by simp)).trans (heap1 w _)
  have B2 := Aside0.mk (bel_then B0 hb)
  have q2 := blk_lt Y2
  have B3 := Aside0.mk (bel_setRow (g := w.heap.size) (B2.out.alloc B2.out.size (.cells #[.int .u64 0, .int .u64 0, .pointer none] 108)) (Nat.le_refl _) #[.int .u8 0, .int .u8 0, .int .u8 0, .int .u8 0, .int .u8 0, .int .u8 0, .int .u8 0, .int .u8 0, .int .u8 0, .int .u8 0, .int .u8 0, .int .u8 0, .int .u8 0, .int .u8 0, .int .u8 0, .int .u8 0])
  have Y3 := Aside0.mk ((Below.heap_alloc w1 (.cells #[.int .u64 0, .int .u64 0, .pointer none] 108) _ q2).trans Y2)
  clear Y2 hb B0 B2
  go_wp2_with (refine wpList_store_row rfl 139 (.tmp 2) (.tmp 18) rfl w.heap.size rfl 139 #[.int .u8 0, .int .u8 0, .int .u8 0, .int .u8 0, .int .u8 0, .int .u8 0, .int .u8 0, .int .u8 0, .int .u8 0, .int .u8 0, .int .u8 0, .int .u8 0, .int .u8 0, .int .u8 0, .int .u8 0, .int .u8 0] #[.int .u8 0, .int .u8 0, .int .u8 0, .int .u8 0, .int .u8 0, .int .u8 0, .int .u8 0, .int .u8 0, .int .u8 0, .int .u8 0, .int .u8 0, .int .u8 0, .int .u8 0, .int .u8 0, .int .u8 0, .int .u8 0] rfl (by exact Y3.out) size139 rfl (by decide) ?_)
  exact bodyPost_ret (results87 _ _ w.heap.size #[.int .u8 0, .int .u8 0, .int .u8 0, .int .u8 0, .int .u8 0, .int .u8 0, .int .u8 0, .int .u8 0, .int .u8 0, .int .u8 0, .int .u8 0, .int .u8 0, .int .u8 0, .int .u8 0, .int .u8 0, .int .u8 0] (.bool false) rfl rfl (setRow_heap _ _ _ _ _ _ Y3.out) rfl) rfl ⟨rfl, B3.out⟩

theorem oct_v4 (a b c d : Int) (ha : Byte a) (hb : Byte b) (hc : Byte c) (hd : Byte d) : oct (281470681743360 + a * 16777216 + b * 65536 + c * 256 + d) = [0, 0, 255, 255, a, b, c, d] := by
  unfold Byte at ha hb hc hd
  unfold oct
  simp only [List.cons.injEq, and_true]
  refine ⟨?_, ?_, ?_, ?_, ?_, ?_, ?_, ?_⟩ <;> omega

theorem as16_v4 (a b c d : Int) (p : Addr) (w : World) (ha : Byte a) (hb : Byte b) (hc : Byte c) (hd : Byte d) :
    Calls Tryz.prog 82 #[.agg #[.int .u64 0, .int .u64 (281470681743360 + a * 16777216 + b * 65536 + c * 256 + d), .pointer (some p)]] w fun e w' => e = .returned (.agg #[.int .u8 0, .int .u8 0, .int .u8 0, .int .u8 0, .int .u8 0, .int .u8 0, .int .u8 0, .int .u8 0, .int .u8 0, .int .u8 0, .int .u8 255, .int .u8 255, .int .u8 a, .int .u8 b, .int .u8 c, .int .u8 d]) ∧ Below w.heap.size w w' := by
  have h := as16 (281470681743360 + a * 16777216 + b * 65536 + c * 256 + d) p w (by unfold Byte at *; omega) (by unfold Byte at *; omega)
  rw [oct_v4 a b c d ha hb hc hd] at h
  exact h

set_option maxRecDepth 100000 in
set_option maxHeartbeats 400000 in
theorem parseIP_ok (p4 p6 : Addr) (s : ByteArray) (K : Nat) (a b c d : Int) (w : World) (g : GW p4 p6 w) (hs : s.size ≤ 9223372036854775807) (h : v4 s K 0 0 0 0 [0, 0, 0, 0] = some [a, b, c, d])
    (ha : Byte a) (hb : Byte b) (hc : Byte c) (hd : Byte d) (j : Int) (j0 : 0 ≤ j) (j1 : j < s.size) (hj : bt s j = 46) (hl : ∀ i : Int, 0 ≤ i → i < j → bt s i ≠ 46 ∧ bt s i ≠ 58 ∧ bt s i ≠ 37) :
    Calls Tryz.prog 87 #[.string s] w fun e w' => e = .returned (.tuple #[.agg #[.int .u8 0, .int .u8 0, .int .u8 0, .int .u8 0, .int .u8 0, .int .u8 0, .int .u8 0, .int .u8 0, .int .u8 0, .int .u8 0, .int .u8 255, .int .u8 255, .int .u8 a, .int .u8 b, .int .u8 c, .int .u8 d], .bool true]) ∧ Below w.heap.size w w' := by
  have H := Aside0.mk h
  have G := Aside0.mk g
  have HA := Aside0.mk ha
  have HB := Aside0.mk hb
  have HC := Aside0.mk hc
  have HD := Aside0.mk hd
  have HL := Aside0.mk hl
  have HJ := Aside0.mk hj
  clear h g ha hb hc hd hl hj
  have B0 : Below w.heap.size w (w.alloc (.cells #[.int .u8 0, .int .u8 0, .int .u8 0, .int .u8 0, .int .u8 0, .int .u8 0, .int .u8 0, .int .u8 0, .int .u8 0, .int .u8 0, .int .u8 0, .int .u8 0, .int .u8 0, .int .u8 0, .int .u8 0, .int .u8 0] 139)) := by go_grown
  go_enter Tryz.func87, Tryz.ntmps87
  go_wp2_with fail
  refine (parseAddr_ok p4 p6 s K a b c d _ (G.out.below B0) hs H.out HA.out HB.out HC.out HD.out j j0 j1 HJ.out HL.out).mono ?_
  rintro e w1 ⟨rfl, hb⟩
  have Y1 := Aside0.mk ((hb.block w.heap.size (by simp)).trans (heap1 w _))
  have B1 := Aside0.mk (bel_then B0 hb)
  have q1 := blk_lt Y1.out
  clear hb B0
  go_wp2_with fail
  have B2 := B1.out.alloc B1.out.size (.cells #[.int .u64 0, .int .u64 (281470681743360 + a * 16777216 + b * 65536 + c * 256 + d), .pointer (some p4)] 108)
  refine (zone4 p4 p6 0 (281470681743360 + a * 16777216 + b * 65536 + c * 256 + d) _ (G.out.below B2)).mono ?_
  rintro e w2 ⟨rfl, hb⟩
  have Y2 := Aside0.mk ((hb.block w1.heap.size (by simp)).trans (heap1 w1 _))
  have Y3 := Aside0.mk ((hb.block w.heap.size (by simp; omega)).trans ((Below.heap_alloc w1 _ _ q1).trans Y1.out))
  have B3 := Aside0.mk (bel_then B2 hb)
  have q2 := blk_lt Y2.out
  have d0 := blk_cell Y2.out 0
  have d1 := blk_cell Y2.out 1
  have d2 := blk_cell Y2.out 2
  simp only [List.getElem?_toArray, List.getElem?_cons_zero, List.getElem?_cons_succ] at d0 d1 d2
  clear hb B2
  go_wp2_with fail
  refine (as16_v4 a b c d p4 _ HA.out HB.out HC.out HD.out).mono ?_
  rintro e w3 ⟨rfl, hb⟩
  have Y4 := Aside0.mk ((hb.block w.heap.size (by omega)).trans Y3.out)
  have B4 := Aside0.mk (bel_setRow (g := w.heap.size) (bel_then B3.out hb) (Nat.le_refl _) #[.int .u8 0, .int .u8 0, .int .u8 0, .int .u8 0, .int .u8 0, .int .u8 0, .int .u8 0, .int .u8 0, .int .u8 0, .int .u8 0, .int .u8 255, .int .u8 255, .int .u8 a, .int .u8 b, .int .u8 c, .int .u8 d])
  clear d0 d1 d2 hb
  go_wp2_with (refine wpList_store_row rfl 139 (.tmp 2) (.tmp 20) rfl w.heap.size rfl 139 #[.int .u8 0, .int .u8 0, .int .u8 0, .int .u8 0, .int .u8 0, .int .u8 0, .int .u8 0, .int .u8 0, .int .u8 0, .int .u8 0, .int .u8 0, .int .u8 0, .int .u8 0, .int .u8 0, .int .u8 0, .int .u8 0] #[.int .u8 0, .int .u8 0, .int .u8 0, .int .u8 0, .int .u8 0, .int .u8 0, .int .u8 0, .int .u8 0, .int .u8 0, .int .u8 0, .int .u8 255, .int .u8 255, .int .u8 a, .int .u8 b, .int .u8 c, .int .u8 d] rfl (by exact Y4.out) size139 rfl (by simp [Value.oneCell']) ?_)
  exact bodyPost_ret (results87 _ _ w.heap.size #[.int .u8 0, .int .u8 0, .int .u8 0, .int .u8 0, .int .u8 0, .int .u8 0, .int .u8 0, .int .u8 0, .int .u8 0, .int .u8 0, .int .u8 255, .int .u8 255, .int .u8 a, .int .u8 b, .int .u8 c, .int .u8 d] (.bool true) rfl rfl (setRow_heap _ _ _ _ _ _ Y4.out) rfl) rfl ⟨rfl, B4.out⟩

set_option maxRecDepth 100000 in
set_option maxHeartbeats 400000 in
/-- net.ParseIP of what is no address: nil. -/
theorem ParseIP_err (s : ByteArray) (w : World) (hs : s.size ≤ 9223372036854775807) (h0 : 0 < s.size) (hn : ¬ (48 ≤ bt s 0 ∧ bt s 0 ≤ 57)) (hb : ∀ i : Int, 0 ≤ i → i < s.size → bt s i ≠ 58 ∧ bt s i ≠ 37) :
    Calls Tryz.prog 57 #[.string s] w fun e w' => e = .returned (.slice none 0 0) ∧ Below w.heap.size w w' := by
  have HN := Aside0.mk hn
  have HB := Aside0.mk hb
  clear hn hb
  go_enter Tryz.func57, Tryz.ntmps57
  go_wp2_with fail
  refine (parseIP_err s _ hs h0 HN.out HB.out).mono ?_
  rintro e w1 ⟨rfl, hb⟩
  go_wp2_with fail
  go_ret
  exact ⟨rfl, hb.alloc hb.size _⟩

set_option maxRecDepth 100000 in
set_option maxHeartbeats 400000 in
/-- net.ParseIP of the text of four numbers: a new row of sixteen bytes. -/
theorem ParseIP_ok (p4 p6 : Addr) (s : ByteArray) (K : Nat) (a b c d : Int) (w : World) (g : GW p4 p6 w) (hs : s.size ≤ 9223372036854775807) (h : v4 s K 0 0 0 0 [0, 0, 0, 0] = some [a, b, c, d])
    (ha : Byte a) (hb : Byte b) (hc : Byte c) (hd : Byte d) (j : Int) (j0 : 0 ≤ j) (j1 : j < s.size) (hj : bt s j = 46) (hl : ∀ i : Int, 0 ≤ i → i < j → bt s i ≠ 46 ∧ bt s i ≠ 58 ∧ bt s i ≠ 37) :
    Calls Tryz.prog 57 #[.string s] w (NewBytes 139 [0, 0, 0, 0, 0, 0, 0, 0, 0, 0, 255, 255, a, b, c, d] w) := by
  have H := Aside0.mk h
  have HA := Aside0.mk ha
  have HB := Aside0.mk hb
  have HC := Aside0.mk hc
  have HD := Aside0.mk hd
  have HL := Aside0.mk hl
  have HJ := Aside0.mk hj
  have G := Aside0.mk g
  clear h g ha hb hc hd hl hj
  go_enter Tryz.func57, Tryz.ntmps57
  go_wp2_with fail
  refine (parseIP_ok p4 p6 s K a b c d _ G.out hs H.out HA.out HB.out HC.out HD.out j j0 j1 HJ.out HL.out).mono ?_
  rintro e w1 ⟨rfl, hb⟩
  have q1 := hb.size
  go_wp2_with fail
  go_ret
  exact ⟨w1.heap.size, rfl, heap1 _ _, q1, hb.alloc hb.size _⟩
end Go.Proofs.YtnchgmjeoajmiaaGreatDoor

/-! Mask -/
namespace Go.Proofs.YtnchgmjeoajmiaaGreatDoor
open Go.RowKit Go.Proofs.YtnchgmjeoajmiaaGreatDoorW.PrintWords
set_option linter.unusedSimpArgs false
set_option linter.unusedVariables false

/-- A part of a block of bytes, read. -/
theorem C_blk {w : World} {g T : Nat} {bs : List Int} (h : w.heap[g]? = some (.cells (bs.map (Value.int .u8)).toArray T (0, 0))) (o n : Nat) (xs : List Int) (hx : (bs.drop o).take n = xs) (hl : xs.length = n) (hm : n ≤ 9223372036854775807) :
    Kd.C (Kd.int .u8) w (some ⟨g, o, none⟩) n xs := by
  refine Kd.C_of_reads (d := (0 : Int)) (h1 := fun _ => rfl) ⟨hl, hm, fun _ => ⟨_, rfl, fun j hj => ?_⟩⟩
  have ha : (⟨g, o, none⟩ : Addr).add j = ⟨g, o + j, none⟩ := by unfold Addr.add; split <;> simp_all
  have hj' : j < xs.length := by omega
  have e : bs[o + j]? = some (xs[j]'hj') := by
    rw [← List.getElem?_eq_getElem hj', ← hx, List.getElem?_take, if_pos hj, List.getElem?_drop]
  rw [ha, blk_cell h]
  simp [e, List.getD_eq_getElem?_getD, hj']

abbrev pre12 : List Int := [0, 0, 0, 0, 0, 0, 0, 0, 0, 0, 255, 255]
/-- The call hands back a slice that reads as the twelve bytes ahead of an address of four. -/
def Pre12 (w : World) (e : Ending) (w' : World) : Prop := ∃ A c, e = .returned (.slice A 12 c) ∧ 12 ≤ c ∧ Kd.C (Kd.int .u8) w' A 12 pre12 ∧ Below w.heap.size w w'
theorem prefix_calls (w : World) : Calls Tryz.prog 121 #[] w (Pre12 w) :=
  (P.netcidr_v4InV6Prefix.calls _ w rfl).mono fun e w' ⟨v0, he, hR, hb⟩ => by
    obtain ⟨A, c, rfl, hc, hC⟩ := Kd.R_reads hR
    exact ⟨A, c, he, hc, hC, hb⟩
theorem equal12 (A A' : Option Addr) (c c' : Nat) (w : World) (h : Kd.C (Kd.int .u8) w A 12 pre12) (hc : 12 ≤ c) (h' : Kd.C (Kd.int .u8) w A' 12 pre12) (hc' : 12 ≤ c') :
    Calls Tryz.prog 120 #[.slice A 12 c, .slice A' 12 c'] w fun e w' => e = .returned (.bool true) ∧ ∃ m, w' = w.drewN m :=
  (P.bytes_Equal.calls A c pre12 A' c' pre12 true w h hc h' hc' (by simp [P.bytes_Equal.f])).mono fun e w' ⟨he, hd⟩ => ⟨he, hd.out⟩

set_option maxRecDepth 100000 in
set_option maxHeartbeats 1000000 in
theorem mask_v4 (gi gm : Nat) (a b c d m0 m1 m2 m3 : Int) (w : World) (hi : w.heap[gi]? = some (.cells (([0, 0, 0, 0, 0, 0, 0, 0, 0, 0, 255, 255, a, b, c, d] : List Int).map (Value.int .u8)).toArray 139 (0, 0)))
    (hm : w.heap[gm]? = some (.cells (([m0, m1, m2, m3] : List Int).map (Value.int .u8)).toArray 5 (0, 0))) :
    Calls Tryz.prog 83 #[.slice (some ⟨gi, 0, none⟩) 16 16, .slice (some ⟨gm, 0, none⟩) 4 4] w (NewBytes 5 [bits .and .u8 a m0, bits .and .u8 b m1, bits .and .u8 c m2, bits .and .u8 d m3] w) := by
  have HI := Aside0.mk hi
  have HM := Aside0.mk hm
  have qi := blk_lt hi
  have qm := blk_lt hm
  clear hi hm
  have hmk : ∀ w, (Instr.makeSlice 63 (.int .i64 4) (.int .i64 4)).run Tryz.prog w = .ok (.slice (some ⟨w.heap.size, 0, none⟩) 4 4) (w.alloc (.cells #[.int .u8 0, .int .u8 0, .int .u8 0, .int .u8 0] 5)) := fun _ => by kernel_rfl
  go_enter Tryz.func83, Tryz.ntmps83
  go_wp2_with fail
  go_region_held3 (fun w' => w'.heap[gi]? = some (.cells (([0, 0, 0, 0, 0, 0, 0, 0, 0, 0, 255, 255, a, b, c, d] : List Int).map (Value.int .u8)).toArray 139 (0, 0))) (first | exact HI1.out | exact HI.out) (first
    | (go_at_call 121; refine (prefix_calls _).mono ?_; rintro e w1 ⟨A1, c1, rfl, hc1, hC1, hb⟩; have HI1 := Aside0.mk ((hb.block gi qi).trans HI.out); have HC1 := Aside0.mk hC1; have HB1 := Aside0.mk hb; have q1 := hb.size; clear hC1 hb)
    | (go_at_call 120; refine (equal12 _ _ _ _ _ (by exact C_blk HI1.out 0 12 _ rfl rfl (by omega)) (by omega) (by exact HC1.out) hc1).mono ?_; rintro e w2 ⟨rfl, ⟨m, rfl⟩⟩))
  rename_i hh
  clear hh
  have HI2 := Aside0.mk (show (w1.drewN m).heap[gi]? = _ from HI1.out)
  have HM2 := Aside0.mk (show (w1.drewN m).heap[gm]? = _ from (HB1.out.block gm qm).trans HM.out)
  have HB2 := Aside0.mk (show Below w.heap.size w (w1.drewN m) from pw_below_drewN (bel_then ((Below.refl _ w).drew) HB1.out) m)
  clear HI1 HC1 HB1 HI HM
  generalize w1.drewN m = w2 at *
  clear q1
  have q1 := HB2.out.size
  have pi := blk_lt HI2.out
  have pm := blk_lt HM2.out
  have i0 := blk_cell HI2.out 12
  have i1 := blk_cell HI2.out 13
  have i2 := blk_cell HI2.out 14
  have i3 := blk_cell HI2.out 15
  have k0 := blk_cell HM2.out 0
  have k1 := blk_cell HM2.out 1
  have k2 := blk_cell HM2.out 2
  have k3 := blk_cell HM2.out 3
  simp only [List.map_cons, List.map_nil, List.getElem?_toArray, List.getElem?_cons_zero, List.getElem?_cons_succ] at i0 i1 i2 i3 k0 k1 k2 k3
  clear qi qm
  go_wp2
  refine wp_loop_rounds 5 ?_
  rw [rounds_succ]
  go_wp2
  go_region
  go_wp2
  rw [rounds_succ]
  go_wp2
  go_region
  go_wp2
  rw [rounds_succ]
  go_wp2
  go_region
  go_wp2
  rw [rounds_succ]
  go_wp2
  go_region
  go_wp2
  rw [rounds_succ]
  go_wp2
  go_ret
  exact ⟨w2.heap.size, rfl, by exact heap1 w2 _, q1, (((((HB2.out.alloc q1 _).drew).drew).drew).drew)⟩
end Go.Proofs.YtnchgmjeoajmiaaGreatDoor

/-! Has -/
namespace Go.Proofs.YtnchgmjeoajmiaaGreatDoor
open Go.RowKit Go.Proofs.YtnchgmjeoajmiaaGreatDoorW.PrintWords
set_option linter.unusedSimpArgs false
set_option linter.unusedVariables false

theorem ip_eql (A : Option Addr) (n c : Nat) (w : World) : (Go.binOp .eql 63 (.slice A n c) (.slice none 0 0)).run Tryz.prog w = .ok (.bool A.isNone) w :=
  Lib.run_eql_slice_nil w 63 _ A n c 0 0 Tryz.underlying63

set_option maxRecDepth 100000 in
set_option maxHeartbeats 400000 in
/-- A network of four bytes: its number and its mask. -/
theorem netAndMask (p gi gm : Nat) (w : World) (h0 : w.cell? ⟨p, 0, none⟩ = some (.slice (some ⟨gi, 0, none⟩) 4 4)) (h1 : w.cell? ⟨p, 1, none⟩ = some (.slice (some ⟨gm, 0, none⟩) 4 4)) :
    Calls Tryz.prog 200 #[.pointer (some ⟨p, 0, none⟩)] w fun e w' => e = .returned (.tuple #[.slice (some ⟨gi, 0, none⟩) 4 4, .slice (some ⟨gm, 0, none⟩) 4 4]) ∧ w = w' := by
  have hn := ip_eql (some ⟨gi, 0, none⟩) 4 4
  go_enter Tryz.func200, Tryz.ntmps200
  go_wp2_with fail
  refine (to4_four _ _ _).mono ?_
  rintro e w' ⟨rfl, rfl⟩
  go_wp2_with fail
  go_ret2
  exact ⟨rfl, rfl⟩

/-- The bits of two addresses of four bytes agree under a mask. -/
def under (n m x : List Int) : Bool := (n.zip (m.zip x)).all fun t => bits .and .u8 t.1 t.2.1 == bits .and .u8 t.2.2 t.2.1

set_option maxRecDepth 100000 in
set_option maxHeartbeats 400000 in
theorem contains_0 (p gi gm gx cx : Nat) (n0 n1 n2 n3 m0 m1 m2 m3 x0 x1 x2 x3 : Int) (w : World) (h0 : w.cell? ⟨p, 0, none⟩ = some (.slice (some ⟨gi, 0, none⟩) 4 4)) (h1 : w.cell? ⟨p, 1, none⟩ = some (.slice (some ⟨gm, 0, none⟩) 4 4)) (n_0 : w.cell? ⟨gi, 0, none⟩ = some (.int .u8 n0)) (m_0 : w.cell? ⟨gm, 0, none⟩ = some (.int .u8 m0)) (x_0 : w.cell? ⟨gx, 0, none⟩ = some (.int .u8 x0)) (n_1 : w.cell? ⟨gi, 1, none⟩ = some (.int .u8 n1)) (m_1 : w.cell? ⟨gm, 1, none⟩ = some (.int .u8 m1)) (x_1 : w.cell? ⟨gx, 1, none⟩ = some (.int .u8 x1)) (n_2 : w.cell? ⟨gi, 2, none⟩ = some (.int .u8 n2)) (m_2 : w.cell? ⟨gm, 2, none⟩ = some (.int .u8 m2)) (x_2 : w.cell? ⟨gx, 2, none⟩ = some (.int .u8 x2)) (n_3 : w.cell? ⟨gi, 3, none⟩ = some (.int .u8 n3)) (m_3 : w.cell? ⟨gm, 3, none⟩ = some (.int .u8 m3)) (x_3 : w.cell? ⟨gx, 3, none⟩ = some (.int .u8 x3)) (e0 : (bits .and .u8 n0 m0) ≠ (bits .and .u8 x0 m0)) :
    Calls Tryz.prog 198 #[.pointer (some ⟨p, 0, none⟩), .slice (some ⟨gx, 0, none⟩) 4 cx] w fun e w' => e = .returned (.bool false) ∧ Drawn0 w w' := by
  have hn := ip_neq (some ⟨gx, 0, none⟩) 4 cx
  have b0 : ((bits .and .u8 n0 m0) != (bits .and .u8 x0 m0)) = true := bne_iff_ne.2 e0
  clear e0
  go_enter Tryz.func198, Tryz.ntmps198
  go_wp2_with fail
  refine (netAndMask p gi gm _ h0 h1).mono ?_
  rintro e w' ⟨rfl, rfl⟩
  go_wp2_with fail
  refine (to4_four _ _ _).mono ?_
  rintro e w' ⟨rfl, rfl⟩
  go_wp2_with fail
  refine wp_loop_rounds 5 ?_
  rw [rounds_succ]
  go_wp2
  go_quiet (fail)
  go_wp2
  go_ret
  exact ⟨rfl, by repeat (first | exact Drawn0.refl _ | apply Drawn0.step)⟩

set_option maxRecDepth 100000 in
set_option maxHeartbeats 400000 in
theorem contains_1 (p gi gm gx cx : Nat) (n0 n1 n2 n3 m0 m1 m2 m3 x0 x1 x2 x3 : Int) (w : World) (h0 : w.cell? ⟨p, 0, none⟩ = some (.slice (some ⟨gi, 0, none⟩) 4 4)) (h1 : w.cell? ⟨p, 1, none⟩ = some (.slice (some ⟨gm, 0, none⟩) 4 4)) (n_0 : w.cell? ⟨gi, 0, none⟩ = some (.int .u8 n0)) (m_0 : w.cell? ⟨gm, 0, none⟩ = some (.int .u8 m0)) (x_0 : w.cell? ⟨gx, 0, none⟩ = some (.int .u8 x0)) (n_1 : w.cell? ⟨gi, 1, none⟩ = some (.int .u8 n1)) (m_1 : w.cell? ⟨gm, 1, none⟩ = some (.int .u8 m1)) (x_1 : w.cell? ⟨gx, 1, none⟩ = some (.int .u8 x1)) (n_2 : w.cell? ⟨gi, 2, none⟩ = some (.int .u8 n2)) (m_2 : w.cell? ⟨gm, 2, none⟩ = some (.int .u8 m2)) (x_2 : w.cell? ⟨gx, 2, none⟩ = some (.int .u8 x2)) (n_3 : w.cell? ⟨gi, 3, none⟩ = some (.int .u8 n3)) (m_3 : w.cell? ⟨gm, 3, none⟩ = some (.int .u8 m3)) (x_3 : w.cell? ⟨gx, 3, none⟩ = some (.int .u8 x3)) (e0 : (bits .and .u8 n0 m0) = (bits .and .u8 x0 m0)) (e1 : (bits .and .u8 n1 m1) ≠ (bits .and .u8 x1 m1)) :
    Calls Tryz.prog 198 #[.pointer (some ⟨p, 0, none⟩), .slice (some ⟨gx, 0, none⟩) 4 cx] w fun e w' => e = .returned (.bool false) ∧ Drawn0 w w' := by
  have hn := ip_neq (some ⟨gx, 0, none⟩) 4 cx
  have b0 : ((bits .and .u8 n0 m0) != (bits .and .u8 x0 m0)) = false := by rw [e0]; simp
  have b1 : ((bits .and .u8 n1 m1) != (bits .and .u8 x1 m1)) = true := bne_iff_ne.2 e1
  clear e0 e1
  go_enter Tryz.func198, Tryz.ntmps198
  go_wp2_with fail
  refine (netAndMask p gi gm _ h0 h1).mono ?_
  rintro e w' ⟨rfl, rfl⟩
  go_wp2_with fail
  refine (to4_four _ _ _).mono ?_
  rintro e w' ⟨rfl, rfl⟩
  go_wp2_with fail
  refine wp_loop_rounds 5 ?_
  rw [rounds_succ]
  go_wp2
  go_quiet (fail)
  go_wp2
  rw [rounds_succ]
  go_wp2
  go_quiet (fail)
  go_wp2
  go_ret
  exact ⟨rfl, by repeat (first | exact Drawn0.refl _ | apply Drawn0.step)⟩

set_option maxRecDepth 100000 in
set_option maxHeartbeats 400000 in
theorem contains_2 (p gi gm gx cx : Nat) (n0 n1 n2 n3 m0 m1 m2 m3 x0 x1 x2 x3 : Int) (w : World) (h0 : w.cell? ⟨p, 0, none⟩ = some (.slice (some ⟨gi, 0, none⟩) 4 4)) (h1 : w.cell? ⟨p, 1, none⟩ = some (.slice (some ⟨gm, 0, none⟩) 4 4)) (n_0 : w.cell? ⟨gi, 0, none⟩ = some (.int .u8 n0)) (m_0 : w.cell? ⟨gm, 0, none⟩ = some (.int .u8 m0)) (x_0 : w.cell? ⟨gx, 0, none⟩ = some (.int .u8 x0)) (n_1 : w.cell? ⟨gi, 1, none⟩ = some (.int .u8 n1)) (m_1 : w.cell? ⟨gm, 1, none⟩ = some (.int .u8 m1)) (x_1 : w.cell? ⟨gx, 1, none⟩ = some (.int .u8 x1)) (n_2 : w.cell? ⟨gi, 2, none⟩ = some (.int .u8 n2)) (m_2 : w.cell? ⟨gm, 2, none⟩ = some (.int .u8 m2)) (x_2 : w.cell? ⟨gx, 2, none⟩ = some (.int .u8 x2)) (n_3 : w.cell? ⟨gi, 3, none⟩ = some (.int .u8 n3)) (m_3 : w.cell? ⟨gm, 3, none⟩ = some (.int .u8 m3)) (x_3 : w.cell? ⟨gx, 3, none⟩ = some (.int .u8 x3)) (e0 : (bits .and .u8 n0 m0) = (bits .and .u8 x0 m0)) (e1 : (bits .and .u8 n1 m1) = (bits .and .u8 x1 m1)) (e2 : (bits .and .u8 n2 m2) ≠ (bits .and .u8 x2 m2)) :
    Calls Tryz.prog 198 #[.pointer (some ⟨p, 0, none⟩), .slice (some ⟨gx, 0, none⟩) 4 cx] w fun e w' => e = .returned (.bool false) ∧ Drawn0 w w' := by
  have hn := ip_neq (some ⟨gx, 0, none⟩) 4 cx
  have b0 : ((bits .and .u8 n0 m0) != (bits .and .u8 x0 m0)) = false := by rw [e0]; simp
  have b1 : ((bits .and .u8 n1 m1) != (bits .and .u8 x1 m1)) = false := by rw [e1]; simp
  have b2 : ((bits .and .u8 n2 m2) != (bits .and .u8 x2 m2)) = true := bne_iff_ne.2 e2
  clear e0 e1 e2
  go_enter Tryz.func198, Tryz.ntmps198
  go_wp2_with fail
  refine (netAndMask p gi gm _ h0 h1).mono ?_
  rintro e w' ⟨rfl, rfl⟩
  go_wp2_with fail
  refine (to4_four _ _ _).mono ?_
  rintro e w' ⟨rfl, rfl⟩
  go_wp2_with fail
  refine wp_loop_rounds 5 ?_
  rw [rounds_succ]
  go_wp2
  go_quiet (fail)
  go_wp2
  rw [rounds_succ]
  go_wp2
  go_quiet (fail)
  go_wp2
  rw [rounds_succ]
  go_wp2
  go_quiet (fail)
  go_wp2
  go_ret
  exact ⟨rfl, by repeat (first | exact Drawn0.refl _ | apply Drawn0.step)⟩

set_option maxRecDepth 100000 in
set_option maxHeartbeats 400000 in
theorem contains_3 (p gi gm gx cx : Nat) (n0 n1 n2 n3 m0 m1 m2 m3 x0 x1 x2 x3 : Int) (w : World) (h0 : w.cell? ⟨p, 0, none⟩ = some (.slice (some ⟨gi, 0, none⟩) 4 4)) (h1 : w.cell? ⟨p, 1, none⟩ = some (.slice (some ⟨gm, 0, none⟩) 4 4)) (n_0 : w.cell? ⟨gi, 0, none⟩ = some (.int .u8 n0)) (m_0 : w.cell? ⟨gm, 0, none⟩ = some (.int .u8 m0)) (x_0 : w.cell? ⟨gx, 0, none⟩ = some (.int .u8 x0)) (n_1 : w.cell? ⟨gi, 1, none⟩ = some (.int .u8 n1)) (m_1 : w.cell? ⟨gm, 1, none⟩ = some (.int .u8 m1)) (x_1 : w.cell? ⟨gx, 1, none⟩ = some (.int .u8 x1)) (n_2 : w.cell? ⟨gi, 2, none⟩ = some (.int .u8 n2)) (m_2 : w.cell? ⟨gm, 2, none⟩ = some (.int .u8 m2)) (x_2 : w.cell? ⟨gx, 2, none⟩ = some (.int .u8 x2)) (n_3 : w.cell? ⟨gi, 3, none⟩ = some (.int .u8 n3)) (m_3 : w.cell? ⟨gm, 3, none⟩ = some (.int .u8 m3)) (x_3 : w.cell? ⟨gx, 3, none⟩ = some (.int .u8 x3)) (e0 : (bits .and .u8 n0 m0) = (bits .and .u8 x0 m0)) (e1 : (bits .and .u8 n1 m1) = (bits .and .u8 x1 m1)) (e2 : (bits .and .u8 n2 m2) = (bits .and .u8 x2 m2)) (e3 : (bits .and .u8 n3 m3) ≠ (bits .and .u8 x3 m3)) :
    Calls Tryz.prog 198 #[.pointer (some ⟨p, 0, none⟩), .slice (some ⟨gx, 0, none⟩) 4 cx] w fun e w' => e = .returned (.bool false) ∧ Drawn0 w w' := by
  have hn := ip_neq (some ⟨gx, 0, none⟩) 4 cx
  have b0 : ((bits .and .u8 n0 m0) != (bits .and .u8 x0 m0)) = false := by rw [e0]; simp
  have b1 : ((bits .and .u8 n1 m1) != (bits .and .u8 x1 m1)) = false := by rw [e1]; simp
  have b2 : ((bits .and .u8 n2 m2) != (bits .and .u8 x2 m2)) = false := by rw [e2]; simp
  have b3 : ((bits .and .u8 n3 m3) != (bits .and .u8 x3 m3)) = true := bne_iff_ne.2 e3
  clear e0 e1 e2 e3
  go_enter Tryz.func198, Tryz.ntmps198
  go_wp2_with fail
  refine (netAndMask p gi gm _ h0 h1).mono ?_
  rintro e w' ⟨rfl, rfl⟩
  go_wp2_with fail
  refine (to4_four _ _ _).mono ?_
  rintro e w' ⟨rfl, rfl⟩
  go_wp2_with fail
  refine wp_loop_rounds 5 ?_
  rw [rounds_succ]
  go_wp2
  go_quiet (fail)
  go_wp2
  rw [rounds_succ]
  go_wp2
  go_quiet (fail)
  go_wp2
  rw [rounds_succ]
  go_wp2
  go_quiet (fail)
  go_wp2
  rw [rounds_succ]
  go_wp2
  go_quiet (fail)
  go_wp2
  go_ret
  exact ⟨rfl, by repeat (first | exact Drawn0.refl _ | apply Drawn0.step)⟩

set_option maxRecDepth 100000 in
set_option maxHeartbeats 400000 in
theorem contains_4 (p gi gm gx cx : Nat) (n0 n1 n2 n3 m0 m1 m2 m3 x0 x1 x2 x3 : Int) (w : World) (h0 : w.cell? ⟨p, 0, none⟩ = some (.slice (some ⟨gi, 0, none⟩) 4 4)) (h1 : w.cell? ⟨p, 1, none⟩ = some (.slice (some ⟨gm, 0, none⟩) 4 4)) (n_0 : w.cell? ⟨gi, 0, none⟩ = some (.int .u8 n0)) (m_0 : w.cell? ⟨gm, 0, none⟩ = some (.int .u8 m0)) (x_0 : w.cell? ⟨gx, 0, none⟩ = some (.int .u8 x0)) (n_1 : w.cell? ⟨gi, 1, none⟩ = some (.int .u8 n1)) (m_1 : w.cell? ⟨gm, 1, none⟩ = some (.int .u8 m1)) (x_1 : w.cell? ⟨gx, 1, none⟩ = some (.int .u8 x1)) (n_2 : w.cell? ⟨gi, 2, none⟩ = some (.int .u8 n2)) (m_2 : w.cell? ⟨gm, 2, none⟩ = some (.int .u8 m2)) (x_2 : w.cell? ⟨gx, 2, none⟩ = some (.int .u8 x2)) (n_3 : w.cell? ⟨gi, 3, none⟩ = some (.int .u8 n3)) (m_3 : w.cell? ⟨gm, 3, none⟩ = some (.int .u8 m3)) (x_3 : w.cell? ⟨gx, 3, none⟩ = some (.int .u8 x3)) (e0 : (bits .and .u8 n0 m0) = (bits .and .u8 x0 m0)) (e1 : (bits .and .u8 n1 m1) = (bits .and .u8 x1 m1)) (e2 : (bits .and .u8 n2 m2) = (bits .and .u8 x2 m2)) (e3 : (bits .and .u8 n3 m3) = (bits .and .u8 x3 m3)) :
    Calls Tryz.prog 198 #[.pointer (some ⟨p, 0, none⟩), .slice (some ⟨gx, 0, none⟩) 4 cx] w fun e w' => e = .returned (.bool true) ∧ Drawn0 w w' := by
  have hn := ip_neq (some ⟨gx, 0, none⟩) 4 cx
  have b0 : ((bits .and .u8 n0 m0) != (bits .and .u8 x0 m0)) = false := by rw [e0]; simp
  have b1 : ((bits .and .u8 n1 m1) != (bits .and .u8 x1 m1)) = false := by rw [e1]; simp
  have b2 : ((bits .and .u8 n2 m2) != (bits .and .u8 x2 m2)) = false := by rw [e2]; simp
  have b3 : ((bits .and .u8 n3 m3) != (bits .and .u8 x3 m3)) = false := by rw [e3]; simp
  clear e0 e1 e2 e3
  go_enter Tryz.func198, Tryz.ntmps198
  go_wp2_with fail
  refine (netAndMask p gi gm _ h0 h1).mono ?_
  rintro e w' ⟨rfl, rfl⟩
  go_wp2_with fail
  refine (to4_four _ _ _).mono ?_
  rintro e w' ⟨rfl, rfl⟩
  go_wp2_with fail
  refine wp_loop_rounds 5 ?_
  rw [rounds_succ]
  go_wp2
  go_quiet (fail)
  go_wp2
  rw [rounds_succ]
  go_wp2
  go_quiet (fail)
  go_wp2
  rw [rounds_succ]
  go_wp2
  go_quiet (fail)
  go_wp2
  rw [rounds_succ]
  go_wp2
  go_quiet (fail)
  go_wp2
  rw [rounds_succ]
  go_wp2
  go_ret
  exact ⟨rfl, by repeat (first | exact Drawn0.refl _ | apply Drawn0.step)⟩

theorem contains_calls (p gi gm gx cx : Nat) (n0 n1 n2 n3 m0 m1 m2 m3 x0 x1 x2 x3 : Int) (w : World) (h0 : w.cell? ⟨p, 0, none⟩ = some (.slice (some ⟨gi, 0, none⟩) 4 4)) (h1 : w.cell? ⟨p, 1, none⟩ = some (.slice (some ⟨gm, 0, none⟩) 4 4)) (n_0 : w.cell? ⟨gi, 0, none⟩ = some (.int .u8 n0)) (m_0 : w.cell? ⟨gm, 0, none⟩ = some (.int .u8 m0)) (x_0 : w.cell? ⟨gx, 0, none⟩ = some (.int .u8 x0)) (n_1 : w.cell? ⟨gi, 1, none⟩ = some (.int .u8 n1)) (m_1 : w.cell? ⟨gm, 1, none⟩ = some (.int .u8 m1)) (x_1 : w.cell? ⟨gx, 1, none⟩ = some (.int .u8 x1)) (n_2 : w.cell? ⟨gi, 2, none⟩ = some (.int .u8 n2)) (m_2 : w.cell? ⟨gm, 2, none⟩ = some (.int .u8 m2)) (x_2 : w.cell? ⟨gx, 2, none⟩ = some (.int .u8 x2)) (n_3 : w.cell? ⟨gi, 3, none⟩ = some (.int .u8 n3)) (m_3 : w.cell? ⟨gm, 3, none⟩ = some (.int .u8 m3)) (x_3 : w.cell? ⟨gx, 3, none⟩ = some (.int .u8 x3)) :
    Calls Tryz.prog 198 #[.pointer (some ⟨p, 0, none⟩), .slice (some ⟨gx, 0, none⟩) 4 cx] w fun e w' => e = .returned (.bool (under [n0, n1, n2, n3] [m0, m1, m2, m3] [x0, x1, x2, x3])) ∧ Drawn0 w w' := by
  by_cases e0 : (bits .and .u8 n0 m0) = (bits .and .u8 x0 m0)
  · by_cases e1 : (bits .and .u8 n1 m1) = (bits .and .u8 x1 m1)
    · by_cases e2 : (bits .and .u8 n2 m2) = (bits .and .u8 x2 m2)
      · by_cases e3 : (bits .and .u8 n3 m3) = (bits .and .u8 x3 m3)
        · have r : under [n0, n1, n2, n3] [m0, m1, m2, m3] [x0, x1, x2, x3] = true := by simp [under, e0, e1, e2, e3]
          rw [r]; exact contains_4 p gi gm gx cx _ _ _ _ _ _ _ _ _ _ _ _ w h0 h1 n_0 m_0 x_0 n_1 m_1 x_1 n_2 m_2 x_2 n_3 m_3 x_3 e0 e1 e2 e3
        · have r : under [n0, n1, n2, n3] [m0, m1, m2, m3] [x0, x1, x2, x3] = false := by simp [under, e3]
          rw [r]; exact contains_3 p gi gm gx cx _ _ _ _ _ _ _ _ _ _ _ _ w h0 h1 n_0 m_0 x_0 n_1 m_1 x_1 n_2 m_2 x_2 n_3 m_3 x_3 e0 e1 e2 e3
      · have r : under [n0, n1, n2, n3] [m0, m1, m2, m3] [x0, x1, x2, x3] = false := by simp [under, e2]
        rw [r]; exact contains_2 p gi gm gx cx _ _ _ _ _ _ _ _ _ _ _ _ w h0 h1 n_0 m_0 x_0 n_1 m_1 x_1 n_2 m_2 x_2 n_3 m_3 x_3 e0 e1 e2
    · have r : under [n0, n1, n2, n3] [m0, m1, m2, m3] [x0, x1, x2, x3] = false := by simp [under, e1]
      rw [r]; exact contains_1 p gi gm gx cx _ _ _ _ _ _ _ _ _ _ _ _ w h0 h1 n_0 m_0 x_0 n_1 m_1 x_1 n_2 m_2 x_2 n_3 m_3 x_3 e0 e1
  · have r : under [n0, n1, n2, n3] [m0, m1, m2, m3] [x0, x1, x2, x3] = false := by simp [under, e0]
    rw [r]; exact contains_0 p gi gm gx cx _ _ _ _ _ _ _ _ _ _ _ _ w h0 h1 n_0 m_0 x_0 n_1 m_1 x_1 n_2 m_2 x_2 n_3 m_3 x_3 e0

set_option maxRecDepth 100000 in
set_option maxHeartbeats 400000 in
/-- A network is told not to contain what is no address. -/
theorem contains_none (p gi gm : Nat) (w : World) (h0 : w.cell? ⟨p, 0, none⟩ = some (.slice (some ⟨gi, 0, none⟩) 4 4)) (h1 : w.cell? ⟨p, 1, none⟩ = some (.slice (some ⟨gm, 0, none⟩) 4 4)) :
    Calls Tryz.prog 198 #[.pointer (some ⟨p, 0, none⟩), .slice none 0 0] w fun e w' => e = .returned (.bool false) ∧ w = w' := by
  have hn := ip_neq none 0 0
  go_enter Tryz.func198, Tryz.ntmps198
  go_wp2_with fail
  refine (netAndMask p gi gm _ h0 h1).mono ?_
  rintro e w' ⟨rfl, rfl⟩
  go_wp2_with fail
  refine (to4_none _ _ _).mono ?_
  rintro e w' ⟨rfl, rfl⟩
  go_wp2_with fail
  go_ret
  exact ⟨rfl, rfl⟩

theorem equal_four (A A' : Option Addr) (n n' : Nat) (a b c d x0 x1 x2 x3 : Int) (w : World) (h : Kd.C (Kd.int .u8) w A 4 [a, b, c, d]) (hc : 4 ≤ n) (h' : Kd.C (Kd.int .u8) w A' 4 [x0, x1, x2, x3]) (hc' : 4 ≤ n') :
    Calls Tryz.prog 120 #[.slice A 4 n, .slice A' 4 n'] w fun e w' => e = .returned (.bool ((strOfNums [a, b, c, d]).toList == (strOfNums [x0, x1, x2, x3]).toList)) ∧ ∃ m, w' = w.drewN m :=
  (P.bytes_Equal.calls A n [a, b, c, d] A' n' [x0, x1, x2, x3] _ w h hc h' hc' rfl).mono fun e w' ⟨he, hd⟩ => ⟨he, hd.out⟩

set_option maxRecDepth 100000 in
set_option maxHeartbeats 400000 in
/-- An address of sixteen bytes that holds four is held against four bytes. -/
theorem equal_calls (gi gx cx : Nat) (a b c d x0 x1 x2 x3 : Int) (w : World) (hi : w.heap[gi]? = some (.cells (([0, 0, 0, 0, 0, 0, 0, 0, 0, 0, 255, 255, a, b, c, d] : List Int).map (Value.int .u8)).toArray 139 (0, 0)))
    (hx : Kd.C (Kd.int .u8) w (some ⟨gx, 0, none⟩) 4 [x0, x1, x2, x3]) (hc : 4 ≤ cx) :
    Calls Tryz.prog 95 #[.slice (some ⟨gi, 0, none⟩) 16 16, .slice (some ⟨gx, 0, none⟩) 4 cx] w fun e w' => e = .returned (.bool ((strOfNums [a, b, c, d]).toList == (strOfNums [x0, x1, x2, x3]).toList)) ∧ Below w.heap.size w w' := by
  have HI := Aside0.mk hi
  have HX := Aside0.mk hx
  have qi := blk_lt hi
  clear hi hx
  go_enter Tryz.func95, Tryz.ntmps95
  go_wp2_with fail
  go_region_held3 (fun w' => w'.heap[gi]? = some (.cells (([0, 0, 0, 0, 0, 0, 0, 0, 0, 0, 255, 255, a, b, c, d] : List Int).map (Value.int .u8)).toArray 139 (0, 0))) (first | exact HI1.out | exact HI.out) (first
    | (go_at_call 121; refine (prefix_calls _).mono ?_; rintro e w1 ⟨A1, c1, rfl, hc1, hC1, hb⟩; have HI1 := Aside0.mk ((hb.block gi qi).trans HI.out); have HX1 := Aside0.mk (Kd.C_below (w1 := w1) HX.out (bel_then ((Below.refl _ w).drew) hb)); have HC1 := Aside0.mk hC1; have HB1 := Aside0.mk hb; have q1 := hb.size; clear hC1 hb)
    | (go_at_call 120; have z := HC1; refine (equal12 _ _ _ _ _ (by exact C_blk HI1.out 0 12 _ rfl rfl (by omega)) (by omega) (by exact z.out) hc1).mono ?_; rintro e w2 ⟨rfl, ⟨m, rfl⟩⟩; clear z HC1)
    | (go_at_call 120; refine (equal_four _ _ _ _ a b c d x0 x1 x2 x3 _ (by exact C_blk HI1.out 12 4 _ rfl rfl (by omega)) (by omega) (by exact HX1.out) hc).mono ?_; rintro e w2 ⟨rfl, ⟨m2, rfl⟩⟩))
  go_wp2
  go_ret
  exact ⟨rfl, pw_below_drewN (bel_then ((Below.refl _ w).drew) HB1.out) _⟩

set_option maxRecDepth 100000 in
set_option maxHeartbeats 400000 in
theorem equal_none (gi : Nat) (w : World) : Calls Tryz.prog 95 #[.slice (some ⟨gi, 0, none⟩) 16 16, .slice none 0 0] w fun e w' => e = .returned (.bool false) ∧ w = w' := by
  go_enter Tryz.func95, Tryz.ntmps95
  go_wp2_with fail
  go_ret
  exact ⟨rfl, rfl⟩
end Go.Proofs.YtnchgmjeoajmiaaGreatDoor

/-! Match -/
namespace Go.Proofs.YtnchgmjeoajmiaaGreatDoor
open Go.RowKit Go.Proofs.YtnchgmjeoajmiaaGreatDoorW.PrintWords
set_option linter.unusedSimpArgs false
set_option linter.unusedVariables false

set_option maxRecDepth 100000 in
set_option maxHeartbeats 400000 in
theorem match_all (h p : ByteArray) (v : Value) (w : World) : Calls Tryz.prog 197 #[.agg #[], .string h, .string p, v] w fun e w' => e = .returned (.bool true) ∧ Below w.heap.size w w' := by
  go_enter Tryz.func197, Tryz.ntmps197
  go_wp2
  go_ret
  exact ⟨rfl, by go_grown⟩

set_option maxRecDepth 100000 in
set_option maxHeartbeats 400000 in
theorem match_cidr0 (q gi gm : Nat) (h p : ByteArray) (w : World) (h0 : w.cell? ⟨q, 0, none⟩ = some (.slice (some ⟨gi, 0, none⟩) 4 4)) (h1 : w.cell? ⟨q, 1, none⟩ = some (.slice (some ⟨gm, 0, none⟩) 4 4)) :
    Calls Tryz.prog 199 #[.agg #[.pointer (some ⟨q, 0, none⟩)], .string h, .string p, .slice none 0 0] w fun e w' => e = .returned (.bool false) ∧ Below w.heap.size w w' := by
  have B0 : Below w.heap.size w (w.alloc (.cells #[.pointer (some ⟨q, 0, none⟩)] 91)) := by go_grown
  go_enter Tryz.func199, Tryz.ntmps199
  go_wp2_with fail
  refine (contains_none q gi gm _ (cell_on B0 h0) (cell_on B0 h1)).mono ?_
  rintro e w' ⟨rfl, rfl⟩
  go_wp2_with fail
  go_ret
  exact ⟨rfl, by go_grown⟩

set_option maxRecDepth 100000 in
set_option maxHeartbeats 400000 in
theorem match_cidr4 (q gi gm gx cx : Nat) (n0 n1 n2 n3 m0 m1 m2 m3 x0 x1 x2 x3 : Int) (h p : ByteArray) (w : World) (h0 : w.cell? ⟨q, 0, none⟩ = some (.slice (some ⟨gi, 0, none⟩) 4 4)) (h1 : w.cell? ⟨q, 1, none⟩ = some (.slice (some ⟨gm, 0, none⟩) 4 4))
    (hn : w.heap[gi]? = some (.cells #[.int .u8 n0, .int .u8 n1, .int .u8 n2, .int .u8 n3] 5 (0, 0))) (hm : w.heap[gm]? = some (.cells #[.int .u8 m0, .int .u8 m1, .int .u8 m2, .int .u8 m3] 5 (0, 0)))
    (c0 : w.cell? ⟨gx, 0, none⟩ = some (.int .u8 x0)) (c1 : w.cell? ⟨gx, 1, none⟩ = some (.int .u8 x1)) (c2 : w.cell? ⟨gx, 2, none⟩ = some (.int .u8 x2)) (c3 : w.cell? ⟨gx, 3, none⟩ = some (.int .u8 x3)) :
    Calls Tryz.prog 199 #[.agg #[.pointer (some ⟨q, 0, none⟩)], .string h, .string p, .slice (some ⟨gx, 0, none⟩) 4 cx] w fun e w' => e = .returned (.bool (under [n0, n1, n2, n3] [m0, m1, m2, m3] [x0, x1, x2, x3])) ∧ Below w.heap.size w w' := by
  have B0 : Below w.heap.size w (w.alloc (.cells #[.pointer (some ⟨q, 0, none⟩)] 91)) := by go_grown
  have K : ∀ (i : Nat), w.cell? ⟨gi, i, none⟩ = #[Value.int .u8 n0, .int .u8 n1, .int .u8 n2, .int .u8 n3][i]? := fun i => blk_cell hn i
  have L : ∀ (i : Nat), w.cell? ⟨gm, i, none⟩ = #[Value.int .u8 m0, .int .u8 m1, .int .u8 m2, .int .u8 m3][i]? := fun i => blk_cell hm i
  have H := contains_calls q gi gm gx cx n0 n1 n2 n3 m0 m1 m2 m3 x0 x1 x2 x3 _ (cell_on B0 h0) (cell_on B0 h1) (cell_on B0 (K 0)) (cell_on B0 (L 0)) (cell_on B0 c0) (cell_on B0 (K 1)) (cell_on B0 (L 1)) (cell_on B0 c1) (cell_on B0 (K 2)) (cell_on B0 (L 2)) (cell_on B0 c2) (cell_on B0 (K 3)) (cell_on B0 (L 3)) (cell_on B0 c3)
  have H' := Aside0.mk H
  clear K L H hn hm c0 c1 c2 c3 h0 h1
  go_enter Tryz.func199, Tryz.ntmps199
  go_wp2_with fail
  refine H'.out.mono ?_
  rintro e w' ⟨rfl, ⟨m, rfl⟩⟩
  go_wp2_with fail
  go_ret
  exact ⟨rfl, pw_below_drewN B0 _⟩

set_option maxRecDepth 100000 in
set_option maxHeartbeats 400000 in
theorem match_ip0 (gi : Nat) (h p mp : ByteArray) (w : World) :
    Calls Tryz.prog 201 #[.agg #[.slice (some ⟨gi, 0, none⟩) 16 16, .string mp], .string h, .string p, .slice none 0 0] w fun e w' => e = .returned (.bool false) ∧ Below w.heap.size w w' := by
  go_enter Tryz.func201, Tryz.ntmps201
  go_wp2_with fail
  refine (equal_none gi _).mono ?_
  rintro e w' ⟨rfl, rfl⟩
  go_wp2_with fail
  go_ret
  exact ⟨rfl, by go_grown⟩

theorem ret_bool {a b : Bool} (h : a = b) : Ending.returned (.bool a) = .returned (.bool b) := by rw [h]
/-- A matcher's port is none, or the port asked for. -/
def portOk (mp p : ByteArray) : Bool := mp.toList.isEmpty || mp.toList == p.toList

set_option maxRecDepth 100000 in
set_option maxHeartbeats 400000 in
theorem match_ip4 (gi gx cx : Nat) (a b c d x0 x1 x2 x3 : Int) (h p mp : ByteArray) (w : World) (r : Bool) (hr : ((strOfNums [a, b, c, d]).toList == (strOfNums [x0, x1, x2, x3]).toList) = r) (hi : w.heap[gi]? = some (.cells (([0, 0, 0, 0, 0, 0, 0, 0, 0, 0, 255, 255, a, b, c, d] : List Int).map (Value.int .u8)).toArray 139 (0, 0)))
    (hx : Kd.C (Kd.int .u8) w (some ⟨gx, 0, none⟩) 4 [x0, x1, x2, x3]) (hc : 4 ≤ cx) :
    Calls Tryz.prog 201 #[.agg #[.slice (some ⟨gi, 0, none⟩) 16 16, .string mp], .string h, .string p, .slice (some ⟨gx, 0, none⟩) 4 cx] w fun e w' =>
      e = .returned (.bool (r && portOk mp p)) ∧ Below w.heap.size w w' := by
  have B0 : Below w.heap.size w (w.alloc (.cells #[.slice (some ⟨gi, 0, none⟩) 16 16, .string mp] 96)) := by go_grown
  have H0 := equal_calls gi gx cx a b c d x0 x1 x2 x3 _ ((B0.block gi (blk_lt hi)).trans hi) (Kd.C_below hx B0) hc
  rw [hr] at H0
  have H := Aside0.mk H0
  clear hi hx hr H0
  have Y := heap1 w (.cells #[.slice (some ⟨gi, 0, none⟩) 16 16, .string mp] 96)
  cases r
  all_goals
    go_enter Tryz.func201, Tryz.ntmps201
    go_wp2_with fail
    refine H.out.mono ?_
    rintro e w1 ⟨rfl, hb⟩
    have Z := (hb.block w.heap.size (by simp)).trans Y
    have d1 := blk_cell Z 1
    have q1 := blk_lt Z
    have B1 := Aside0.mk (bel_then B0 hb)
    simp only [List.getElem?_toArray, List.getElem?_cons_zero, List.getElem?_cons_succ] at d1
    clear hb Y Z B0 H
  · go_wp2
    go_ret
    exact ⟨rfl, B1.out⟩
  · by_cases e1 : mp.toList = []
    · go_wp2
      go_ret
      exact ⟨ret_bool (by simp [portOk, e1]), B1.out⟩
    · go_wp2
      go_ret
      exact ⟨ret_bool (by simp [portOk]), B1.out⟩

set_option maxRecDepth 100000 in
set_option maxHeartbeats 400000 in
theorem match_dom4 (host port h p : ByteArray) (mh : Bool) (a : Addr) (n c : Nat) (w : World) :
    Calls Tryz.prog 202 #[.agg #[.string host, .string port, .bool mh], .string h, .string p, .slice (some a) n c] w fun e w' => e = .returned (.bool false) ∧ Below w.heap.size w w' := by
  have hn := ip_neq (some a) n c
  go_enter Tryz.func202, Tryz.ntmps202
  go_wp2_with fail
  go_ret
  exact ⟨rfl, by go_grown⟩

/-- What a matcher over names says of a host in small letters and a port. -/
def domOk (host port : ByteArray) (mh : Bool) (h p : ByteArray) : Bool := (Lib.hasSuffix h.data.toList host.data.toList || (mh && h.toList == (host.extract 1 host.size).toList)) && portOk port p

set_option maxRecDepth 100000 in
set_option maxHeartbeats 400000 in
theorem match_dom0 (host port h p : ByteArray) (mh : Bool) (w : World) (hh : h.size ≤ 9223372036854775807) (h1 : 1 ≤ host.size) (h2 : host.size ≤ 9223372036854775807) :
    Calls Tryz.prog 202 #[.agg #[.string host, .string port, .bool mh], .string h, .string p, .slice none 0 0] w fun e w' => e = .returned (.bool (domOk host port mh h p)) ∧ Below w.heap.size w w' := by
  have hn := ip_neq none 0 0
  have H := Aside0.mk (Tryz.strings_HasSuffix h host (w.alloc (.cells #[.string host, .string port, .bool mh] 100)) hh)
  generalize hs : Lib.hasSuffix h.data.toList host.data.toList = r at H
  have HS := Aside0.mk hs
  clear hs
  cases r
  all_goals
    go_enter Tryz.func202, Tryz.ntmps202
    go_wp2_with fail
    refine H.out.mono ?_
    rintro e w' ⟨rfl, rfl⟩
    by_cases e1 : port.toList = []
    all_goals
      go_wp2
      all_goals (go_ret; exact ⟨ret_bool (by simp [domOk, portOk, HS.out, *]), by go_grown⟩)
end Go.Proofs.YtnchgmjeoajmiaaGreatDoor

/-! Split -/
namespace Go.Proofs.YtnchgmjeoajmiaaGreatDoor
open Go.RowKit Go.Proofs.YtnchgmjeoajmiaaGreatDoorW.PrintWords
set_option linter.unusedSimpArgs false
set_option linter.unusedVariables false

set_option maxRecDepth 100000 in
set_option maxHeartbeats 400000 in
theorem split_err (s : ByteArray) (w : World) (hs : s.size < 4611686018427387904) (h : Lib.lastIndexByte s 58 = -1) :
    Calls Tryz.prog 56 #[.string s] w fun e w' => (∃ v, e = .returned (.tuple #[.string ⟨#[]⟩, .string ⟨#[]⟩, .iface 144 v])) ∧ Below w.heap.size w w' := by
  have H := Aside0.mk h
  clear h
  go_enter Tryz.func56, Tryz.ntmps56
  go_wp2_with fail
  refine (Tryz.strings_LastIndexByte s 58 hs _).mono ?_
  rw [H.out]
  rintro e w' ⟨rfl, rfl⟩
  go_wp2
  go_ret3
  exact ⟨⟨_, rfl⟩, by go_grown⟩

/-- What SplitHostPort asks of a host and a port: the last colon stands at i, the host has no colon and does not begin with a bracket, and there is no bracket at all. -/
structure Splits (s : ByteArray) (i : Nat) : Prop where
  size : s.size < 4611686018427387904
  lt : i < s.size
  last : Lib.lastIndexByte s 58 = (i : Int)
  head : bt s 0 ≠ 91
  host : Lib.indexByte (s.extract 0 i).data.toList (58 : Int).toNat.toUInt8 = -1
  left : Lib.indexByte s.data.toList (91 : Int).toNat.toUInt8 = -1
  right : Lib.indexByte s.data.toList (93 : Int).toNat.toUInt8 = -1

set_option maxRecDepth 100000 in
set_option maxHeartbeats 400000 in
theorem split_ok (s : ByteArray) (i : Nat) (w : World) (h : Splits s i) :
    Calls Tryz.prog 56 #[.string s] w fun e w' => e = .returned (.tuple #[.string (s.extract 0 i), .string (s.extract (i + 1) s.size), .nilIface]) ∧ w = w' := by
  have H := Aside0.mk h
  have hs := h.size
  have hl := h.lt
  have hx := bt_at s 0
  simp only [Int.toNat_zero] at hx
  have hb : (bt s 0 == 91) = false := beq_eq_false_iff_ne.2 h.head
  clear h
  go_enter Tryz.func56, Tryz.ntmps56
  go_wp2_with fail
  refine (Tryz.strings_LastIndexByte s 58 hs _).mono ?_
  rw [H.out.last]
  rintro e w' ⟨rfl, rfl⟩
  go_wp2_with fail
  refine (Tryz.strings_IndexByte _ 58 _).mono ?_
  rw [H.out.host]
  rintro e w1 ⟨rfl, rfl⟩
  go_wp2_with fail
  refine (Tryz.strings_IndexByte _ 91 _).mono ?_
  rw [H.out.left]
  rintro e w2 ⟨rfl, rfl⟩
  go_wp2_with fail
  refine (Tryz.strings_IndexByte _ 93 _).mono ?_
  rw [H.out.right]
  rintro e w3 ⟨rfl, rfl⟩
  go_wp2_with fail
  go_ret3
  exact ⟨rfl, rfl⟩

/-- The loopback address in brackets with a port. -/
structure SplitsLoop (s : ByteArray) : Prop where
  size : s.size < 4611686018427387904
  lt : 6 ≤ s.size
  last : Lib.lastIndexByte s 58 = 5
  head : bt s 0 = 91
  close : Lib.indexByte s.data.toList (93 : Int).toNat.toUInt8 = 4
  left : Lib.indexByte (s.extract 1 s.size).data.toList (91 : Int).toNat.toUInt8 = -1
  right : Lib.indexByte (s.extract 5 s.size).data.toList (93 : Int).toNat.toUInt8 = -1

set_option maxRecDepth 100000 in
set_option maxHeartbeats 400000 in
theorem split_loop (s : ByteArray) (w : World) (h : SplitsLoop s) :
    Calls Tryz.prog 56 #[.string s] w fun e w' => e = .returned (.tuple #[.string (s.extract 1 4), .string (s.extract 6 s.size), .nilIface]) ∧ w = w' := by
  have H := Aside0.mk h
  have hs := h.size
  have hl := h.lt
  have hx := bt_at s 0
  simp only [Int.toNat_zero] at hx
  have hb : (bt s 0 == 91) = true := beq_iff_eq.2 h.head
  have hz : ((5 : Int) == (s.size : Int)) = false := beq_eq_false_iff_ne.2 (by omega)
  clear h
  go_enter Tryz.func56, Tryz.ntmps56
  go_wp2_with fail
  refine (Tryz.strings_LastIndexByte s 58 hs _).mono ?_
  rw [H.out.last]
  rintro e w' ⟨rfl, rfl⟩
  go_wp2_with fail
  refine (Tryz.strings_IndexByte _ 93 _).mono ?_
  rw [H.out.close]
  rintro e w1 ⟨rfl, rfl⟩
  go_wp2_with fail
  refine (Tryz.strings_IndexByte _ 91 _).mono ?_
  rw [H.out.left]
  rintro e w2 ⟨rfl, rfl⟩
  go_wp2_with fail
  refine (Tryz.strings_IndexByte _ 93 _).mono ?_
  rw [H.out.right]
  rintro e w3 ⟨rfl, rfl⟩
  go_wp2_with fail
  go_ret3
  exact ⟨rfl, rfl⟩

/-- Every byte is less than 128. -/
def Ascii (s : ByteArray) : Prop := ∀ i : Int, 0 ≤ i → i < s.size → bt s i < 128

theorem isASCII_l (s : ByteArray) (hs : s.size ≤ 9223372036854775806) (ha : Ascii s) (d : Nat) : ∀ (k : Nat) (i : Int), 0 ≤ i → i ≤ s.size → (s.size : Int) - i = d → d < k → P.httpproxy_isASCII.l0 k s i = some true := by
  induction d with
  | zero =>
    intro k i h0 h1 hd hk
    obtain ⟨k, rfl⟩ : ∃ m, k = m + 1 := ⟨k - 1, by omega⟩
    simp only [P.httpproxy_isASCII.l0]
    rw [if_neg (by omega)]
  | succ d ih =>
    intro k i h0 h1 hd hk
    obtain ⟨k, rfl⟩ : ∃ m, k = m + 1 := ⟨k - 1, by omega⟩
    have hlt : i < (s.size : Int) := by omega
    have hb := ha i h0 hlt
    have hw : wrap64 (i + 1) = i + 1 := by unfold wrap64; omega
    simp only [P.httpproxy_isASCII.l0]
    rw [if_pos hlt, if_pos h0, if_neg (by omega), hw]
    exact ih k (i + 1) (by omega) (by omega) (by omega) (by omega)

set_option maxRecDepth 100000 in
set_option maxHeartbeats 400000 in
theorem idna_ok (s : ByteArray) (w : World) (hs : s.size ≤ 9223372036854775806) (ha : Ascii s) :
    Calls Tryz.prog 59 #[.string s] w fun e w' => e = .returned (.tuple #[.string s, .nilIface]) ∧ ∃ n, w' = w.drewN n := by
  have H := Aside0.mk (P.httpproxy_isASCII.calls (s.size + 1) s true w (isASCII_l s hs ha s.size (s.size + 1) 0 (by omega) (by omega) (by omega) (by omega)))
  clear ha
  go_enter Tryz.func59, Tryz.ntmps59
  go_wp2_with fail
  refine H.out.mono ?_
  rintro e w' ⟨rfl, ⟨n, rfl⟩⟩
  go_wp2_with fail
  go_ret2
  exact ⟨rfl, _, rfl⟩
end Go.Proofs.YtnchgmjeoajmiaaGreatDoor

/-! Pcidr -/
namespace Go.Proofs.YtnchgmjeoajmiaaGreatDoor
open Go.RowKit Go.Proofs.YtnchgmjeoajmiaaGreatDoorW.PrintWords
set_option linter.unusedSimpArgs false
set_option linter.unusedVariables false

theorem blk_on {w w' : World} {g : Nat} {o : Obj} (h : w.heap[g]? = some o) (hb : Below w.heap.size w w') : w'.heap[g]? = some o := (hb.block g (blk_lt h)).trans h
/-- The three cells of an Addr. -/
theorem addr_cells {w : World} {g : Nat} {x y z : Value} (h : w.heap[g]? = some (.cells #[x, y, z] 108 (0, 0))) : w.cell? ⟨g, 0, none⟩ = some x ∧ w.cell? ⟨g, 1, none⟩ = some y ∧ w.cell? ⟨g, 2, none⟩ = some z :=
  ⟨by rw [blk_cell h]; rfl, by rw [blk_cell h]; rfl, by rw [blk_cell h]; rfl⟩

abbrev slash : ByteArray := { data := #[47] }

set_option maxRecDepth 100000 in
set_option maxHeartbeats 400000 in
theorem parseCIDR_err (s : ByteArray) (k : Nat) (w : World) (h : P.netcidr_zzCut.f k s slash = some (s, ⟨#[]⟩, false)) :
    Calls Tryz.prog 55 #[.string s] w fun e w' => (∃ v, e = .returned (.tuple #[.slice none 0 0, .pointer none, .iface 131 v])) ∧ Below w.heap.size w w' := by
  have H := Aside0.mk (P.netcidr_zzCut.calls k s slash s ⟨#[]⟩ false w h)
  clear h
  go_enter Tryz.func55, Tryz.ntmps55
  go_wp2_with fail
  refine H.out.mono ?_
  rintro e w' ⟨rfl, ⟨n, rfl⟩⟩
  go_wp2_with fail
  go_ret3
  exact ⟨⟨_, rfl⟩, by have := pw_below_drewN (Below.refl w.heap.size w) n; go_grown⟩

theorem mask4_four (n : Int) : ∃ m0 m1 m2 m3, mask4 n = [m0, m1, m2, m3] := by
  unfold mask4
  split
  · exact ⟨_, _, _, _, rfl⟩
  split
  · exact ⟨_, _, _, _, rfl⟩
  split
  · exact ⟨_, _, _, _, rfl⟩
  split
  · exact ⟨_, _, _, _, rfl⟩
  · exact ⟨_, _, _, _, rfl⟩

/-- A network of four bytes and its mask, new in memory. -/
def NewNet (l m : List Int) (w : World) (e : Ending) (w' : World) : Prop :=
  ∃ q gi gm v, e = .returned (.tuple #[v, .pointer (some ⟨q, 0, none⟩), .nilIface]) ∧ w'.heap[q]? = some (.cells #[.slice (some ⟨gi, 0, none⟩) 4 4, .slice (some ⟨gm, 0, none⟩) 4 4] 143 (0, 0)) ∧
    w'.heap[gi]? = some (.cells (l.map (Value.int .u8)).toArray 5 (0, 0)) ∧ w'.heap[gm]? = some (.cells (m.map (Value.int .u8)).toArray 5 (0, 0)) ∧ Below w.heap.size w w'

/-- The text of four numbers, as the walks of parseIPv4 take it. -/
structure Four (s : ByteArray) (a b c d : Int) : Prop where
  size : s.size ≤ 9223372036854775807
  loop : ∃ K, v4 s K 0 0 0 0 [0, 0, 0, 0] = some [a, b, c, d]
  a : Byte a
  b : Byte b
  c : Byte c
  d : Byte d
  dot : ∃ j : Int, 0 ≤ j ∧ j < s.size ∧ bt s j = 46 ∧ ∀ i : Int, 0 ≤ i → i < j → bt s i ≠ 46 ∧ bt s i ≠ 58 ∧ bt s i ≠ 37

theorem Four.addr {s : ByteArray} {a b c d : Int} (h : Four s a b c d) (p4 p6 : Addr) (w : World) (g : GW p4 p6 w) :
    Calls Tryz.prog 60 #[.string s] w fun e w' => e = .returned (.tuple #[.agg #[.int .u64 0, .int .u64 (281470681743360 + a * 16777216 + b * 65536 + c * 256 + d), .pointer (some p4)], .nilIface]) ∧ Below w.heap.size w w' := by
  obtain ⟨K, hK⟩ := h.loop
  obtain ⟨j, j0, j1, hj, hl⟩ := h.dot
  exact parseAddr_ok p4 p6 s K a b c d w g h.size hK h.a h.b h.c h.d j j0 j1 hj hl
theorem Four.ip {s : ByteArray} {a b c d : Int} (h : Four s a b c d) (p4 p6 : Addr) (w : World) (g : GW p4 p6 w) :
    Calls Tryz.prog 57 #[.string s] w (NewBytes 139 [0, 0, 0, 0, 0, 0, 0, 0, 0, 0, 255, 255, a, b, c, d] w) := by
  obtain ⟨K, hK⟩ := h.loop
  obtain ⟨j, j0, j1, hj, hl⟩ := h.dot
  exact ParseIP_ok p4 p6 s K a b c d w g h.size hK h.a h.b h.c h.d j j0 j1 hj hl

set_option maxRecDepth 100000 in
set_option maxHeartbeats 1000000 in
theorem parseCIDR_ok (p4 p6 : Addr) (s t u : ByteArray) (k k' : Nat) (a b c d n m0 m1 m2 m3 : Int) (w : World) (g : GW p4 p6 w) (h : P.netcidr_zzCut.f k s slash = some (t, u, true)) (ht : Four t a b c d)
    (hd : P.netcidr_dtoi.f k' u = some (n, (u.size : Int), true)) (n0 : 0 ≤ n) (n1 : n ≤ 32) (hm : mask4 n = [m0, m1, m2, m3]) :
    Calls Tryz.prog 55 #[.string s] w (NewNet [bits .and .u8 a m0, bits .and .u8 b m1, bits .and .u8 c m2, bits .and .u8 d m3] [m0, m1, m2, m3] w) := by
  have H := Aside0.mk (P.netcidr_zzCut.calls k s slash t u true w h)
  have G := Aside0.mk g
  have HT := Aside0.mk ht
  have HD := fun w => Aside0.mk (P.netcidr_dtoi.calls k' u n (u.size : Int) true w hd)
  have HM := Aside0.mk hm
  clear h g ht hd hm
  go_enter Tryz.func55, Tryz.ntmps55
  go_wp2_with fail
  refine H.out.mono ?_
  rintro e w0 ⟨rfl, ⟨q0, rfl⟩⟩
  have B0 := pw_below_drewN (Below.refl w.heap.size w) q0
  go_wp2_with fail
  refine (HT.out.addr p4 p6 _ (G.out.below B0)).mono ?_
  rintro e w1 ⟨rfl, hb⟩
  have B1 := Aside0.mk (bel_then B0 hb)
  clear hb B0 H
  go_wp2_with fail
  have B2 := B1.out.alloc B1.out.size (.cells #[.int .u64 0, .int .u64 (281470681743360 + a * 16777216 + b * 65536 + c * 256 + d), .pointer (some p4)] 108)
  refine (zone4 p4 p6 0 _ _ (G.out.below B2)).mono ?_
  rintro e w2 ⟨rfl, hb⟩
  have Y2 := Aside0.mk ((hb.block w1.heap.size (by simp)).trans (heap1 w1 _))
  have B3 := Aside0.mk (bel_then B2 hb)
  have d0 := blk_cell Y2.out 0
  have d1 := blk_cell Y2.out 1
  have d2 := blk_cell Y2.out 2
  have q2 := blk_lt Y2.out
  simp only [List.getElem?_toArray, List.getElem?_cons_zero, List.getElem?_cons_succ] at d0 d1 d2
  clear hb B2
  have nn : decide (n < 0) = false := decide_eq_false (by omega)
  have nm : decide (32 < n) = false := decide_eq_false (by omega)
  go_wp2_with fail
  refine ((HD _).out).mono ?_
  rintro e w3 ⟨rfl, ⟨q3, rfl⟩⟩
  go_wp2_with fail
  have B4 := pw_below_drewN B3.out q3
  have Y4 := blk_on Y2.out (pw_below_drewN (Below.refl _ w2) q3)
  clear d0 d1 d2 B3 Y2
  refine (bitLen4 p4 p6 0 (281470681743360 + a * 16777216 + b * 65536 + c * 256 + d) _ (G.out.below B4)).mono ?_
  rintro e w4 ⟨rfl, hb⟩
  have Y5 := Aside0.mk (blk_on Y4 hb)
  have B5 := Aside0.mk (bel_then B4 hb)
  obtain ⟨d0, d1, d2⟩ := addr_cells Y5.out
  clear Y4 B4 hb
  go_wp2_with fail
  refine (bitLen4 p4 p6 0 (281470681743360 + a * 16777216 + b * 65536 + c * 256 + d) _ (G.out.below B5.out)).mono ?_
  rintro e w5 ⟨rfl, hb⟩
  have Y6 := Aside0.mk (blk_on Y5.out hb)
  have B6 := Aside0.mk (bel_then B5.out hb)
  clear d0 d1 d2 hb Y5 B5
  go_wp2_with fail
  refine (cidrMask n _ n0 n1).mono ?_
  rw [HM.out]
  rintro e w6 ⟨gm, rfl, hgm, ggm, hb⟩
  have Y7 := Aside0.mk (blk_on Y6.out hb)
  have B7 := Aside0.mk (bel_then B6.out hb)
  have M7 := Aside0.mk hgm
  obtain ⟨d0, d1, d2⟩ := addr_cells Y7.out
  clear hb Y6 B6 hgm ggm
  go_wp2_with fail
  refine (as16_v4 a b c d p4 _ HT.out.a HT.out.b HT.out.c HT.out.d).mono ?_
  rintro e w7 ⟨rfl, hb⟩
  have B8 := Aside0.mk (bel_then B7.out hb)
  have M8 := Aside0.mk (blk_on M7.out hb)
  clear d0 d1 d2 hb Y7 B7 M7
  go_wp2_with fail
  have B9 := Aside0.mk (B8.out.alloc B8.out.size (.cells #[.int .u8 0, .int .u8 0, .int .u8 0, .int .u8 0, .int .u8 0, .int .u8 0, .int .u8 0, .int .u8 0, .int .u8 0, .int .u8 0, .int .u8 255, .int .u8 255, .int .u8 a, .int .u8 b, .int .u8 c, .int .u8 d] 139))
  have I9 := Aside0.mk (heap1 w7 (.cells #[.int .u8 0, .int .u8 0, .int .u8 0, .int .u8 0, .int .u8 0, .int .u8 0, .int .u8 0, .int .u8 0, .int .u8 0, .int .u8 0, .int .u8 255, .int .u8 255, .int .u8 a, .int .u8 b, .int .u8 c, .int .u8 d] 139))
  have M9 := Aside0.mk (blk_on M8.out (show Below w7.heap.size w7 (w7.alloc (.cells #[.int .u8 0, .int .u8 0, .int .u8 0, .int .u8 0, .int .u8 0, .int .u8 0, .int .u8 0, .int .u8 0, .int .u8 0, .int .u8 0, .int .u8 255, .int .u8 255, .int .u8 a, .int .u8 b, .int .u8 c, .int .u8 d] 139)) by go_grown))
  go_region_held3 (fun _ => True) (exact trivial) (first
    | (go_at_call 83; refine (mask_v4 w7.heap.size gm a b c d m0 m1 m2 m3 _ (by exact I9.out) (by exact M9.out)).mono ?_; rintro e w8 ⟨gi, rfl, hgi, ggi, hb⟩; have I10 := Aside0.mk hgi; have HB := Aside0.mk hb; clear hgi ggi hb))
  go_wp2
  rename_i hh
  clear hh
  have B10 := Aside0.mk (bel_then ((B9.out).drew) HB.out)
  have M10 := Aside0.mk (blk_on (w := (w7.alloc (.cells #[.int .u8 0, .int .u8 0, .int .u8 0, .int .u8 0, .int .u8 0, .int .u8 0, .int .u8 0, .int .u8 0, .int .u8 0, .int .u8 0, .int .u8 255, .int .u8 255, .int .u8 a, .int .u8 b, .int .u8 c, .int .u8 d] 139)).drew) M9.out HB.out)
  have B11 := Aside0.mk (B10.out.alloc B10.out.size (.cells #[.slice (some ⟨gi, 0, none⟩) 4 4, .slice (some ⟨gm, 0, none⟩) 4 4] 143))
  have I11 := Aside0.mk (blk_on I10.out (show Below w8.heap.size w8 (w8.alloc (.cells #[.slice (some ⟨gi, 0, none⟩) 4 4, .slice (some ⟨gm, 0, none⟩) 4 4] 143)) by go_grown))
  have M11 := Aside0.mk (blk_on M10.out (show Below w8.heap.size w8 (w8.alloc (.cells #[.slice (some ⟨gi, 0, none⟩) 4 4, .slice (some ⟨gm, 0, none⟩) 4 4] 143)) by go_grown))
  clear HB B9 I9 M9 I10 M10 B10 B8 M8 B1
  go_ret3
  exact ⟨w8.heap.size, gi, gm, _, rfl, heap1 _ _, I11.out, M11.out, B11.out⟩
end Go.Proofs.YtnchgmjeoajmiaaGreatDoor
