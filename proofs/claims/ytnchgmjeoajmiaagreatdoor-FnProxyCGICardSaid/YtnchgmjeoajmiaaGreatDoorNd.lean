/- The walks of the functions of neturl. -/
import Derived.Test.YtnchgmjeoajmiaaGreatDoorNa
import Derived.Deep.QuietTactic
import Derived.BigQuiet
import Derived.Test.YtnchgmjeoajmiaaGreatDoorNx1
import Derived.Laws.RangeString
import Derived.Laws.IdiomStrings
/-! Ura -/
namespace Go.Proofs.YtnchgmjeoajmiaaGreatDoor
open Go.RowKit Go.Proofs.YtnchgmjeoajmiaaGreatDoorW.PrintWords
set_option linter.unusedSimpArgs false
set_option linter.unusedVariables false

/-- A text whose first colon stands at n, behind a word of letters, digits, hyphens and dots that begins with a letter. -/
structure Sch (s : ByteArray) (n : Int) : Prop where
  size : s.size ≤ 9223372036854775806
  pos : 0 < n
  lt : n < s.size
  at_ : bt s n = 58
  first : 97 ≤ bt s 0 ∧ bt s 0 ≤ 122
  all : ∀ i : Int, 0 ≤ i → i < n → (97 ≤ bt s i ∧ bt s i ≤ 122) ∨ (48 ≤ bt s i ∧ bt s i ≤ 57) ∨ bt s i = 45 ∨ bt s i = 46

set_option maxRecDepth 100000 in
set_option maxHeartbeats 400000 in
theorem getScheme_ok (s : ByteArray) (n : Int) (w : World) (h : Sch s n) :
    Calls Tryz.prog 139 #[.string s] w fun e w' => e = .returned (.tuple #[.string (s.extract 0 n.toNat), .string (s.extract (n + 1).toNat s.size), .nilIface]) ∧ ∃ m, w' = w.drewN m := by
  have hs := h.size
  have hp := h.pos
  have hl := h.lt
  have H := Aside0.mk h
  clear h
  go_enter Tryz.func139, Tryz.ntmps139
  go_wp2_with fail
  go_loop [5] (fun v5 => ∃ i : Int, v5 = .int .i64 i ∧ 0 ≤ i ∧ i ≤ n) (fun v5 => s.size - (intOf v5).toNat)
  case atStart => exact ⟨0, rfl, by omega, by omega⟩
  case round =>
    obtain ⟨i, rfl, i0, i1⟩ := hrel
    have c1 : i < (s.size : Int) := by omega
    have hx := bt_at s i
    have p1 := eq_true i0
    have q1 := eq_true c1
    by_cases c2 : i = n
    · subst c2
      have hb := H.out.at_
      have hz : (i == 0) = false := beq_eq_false_iff_ne.2 (by omega)
      rw [hb] at hx
      go_wp2_with fail
      go_quiet (fail)
      go_wp2_with fail
      go_ret3
      exact ⟨rfl, _, rfl⟩
    · have hall := H.out.all i i0 (by omega)
      by_cases hl : 97 ≤ bt s i ∧ bt s i ≤ 122
      · have d1 : decide (97 ≤ bt s i) = true := decide_eq_true hl.1
        have d2 : decide (bt s i ≤ 122) = true := decide_eq_true hl.2
        have i2 : i < n := by omega
        clear hall c2
        go_wp2_with fail
        go_round
        case rel => exact ⟨i + 1, rfl, by omega, by omega⟩
        case measure => simp [intOf]; omega
      · have hr : (48 ≤ bt s i ∧ bt s i ≤ 57) ∨ bt s i = 45 ∨ bt s i = 46 := by rcases hall with h | h; exact absurd h hl; exact h
        have d1 : decide (97 ≤ bt s i) = false := decide_eq_false (by omega)
        have d2 : decide (65 ≤ bt s i) = false := decide_eq_false (by omega)
        have hz : (i == 0) = false := beq_eq_false_iff_ne.2 (fun e => by
          have := H.out.first
          rw [e] at hl
          exact hl this)
        have i2 : i < n := by omega
        clear hall hl c2
        rcases hr with hd | hd | hd
        · have d3 : decide (48 ≤ bt s i) = true := decide_eq_true hd.1
          have d4 : decide (bt s i ≤ 57) = true := decide_eq_true hd.2
          go_wp2_with fail
          go_round
          case rel => exact ⟨i + 1, rfl, by omega, by omega⟩
          case measure => simp [intOf]; omega
        · rw [hd] at hx
          go_wp2_with fail
          go_round
          case rel => exact ⟨i + 1, rfl, by omega, by omega⟩
          case measure => simp [intOf]; omega
        · rw [hd] at hx
          go_wp2_with fail
          go_round
          case rel => exact ⟨i + 1, rfl, by omega, by omega⟩
          case measure => simp [intOf]; omega

/-- A byte of a host with a port. -/
def HostB (c : Int) : Prop := (97 ≤ c ∧ c ≤ 122) ∨ (48 ≤ c ∧ c ≤ 57) ∨ c = 45 ∨ c = 46 ∨ c = 58
/-- What the table of neturl says of such a byte: a host may hold it. -/
def UT (w : World) : Prop := ∀ c : Int, HostB c → ∃ v, w.cell? ⟨13, c.toNat, none⟩ = some (.int .u8 v) ∧ bits .and .u8 v 4 ≠ 0
theorem UT.below {w w' : World} (h : UT w) (hb : Below w.heap.size w w') : UT w' := fun c hc => by
  obtain ⟨v, h1, h2⟩ := h c hc
  exact ⟨v, cell_on hb h1, h2⟩

set_option maxRecDepth 100000 in
set_option maxHeartbeats 400000 in
theorem shouldEscape_host (c : Int) (w : World) (hc : HostB c) (h : UT w) : Calls Tryz.prog 170 #[.int .u8 c, .int .u8 4] w fun e w' => e = .returned (.bool false) ∧ w' = w := by
  obtain ⟨v, h1, h2⟩ := h c hc
  have hb : (bits .and .u8 v 4 == 0) = false := beq_eq_false_iff_ne.2 h2
  have c0 : 0 ≤ c := by unfold HostB at hc; omega
  have c1 : c < 256 := by unfold HostB at hc; omega
  clear hc h h2
  go_enter Tryz.func170, Tryz.ntmps170
  go_wp2_with fail
  go_ret
  exact ⟨rfl, rfl⟩

set_option maxRecDepth 100000 in
set_option maxHeartbeats 400000 in
theorem unescape_host (s : ByteArray) (w : World) (hs : s.size ≤ 1000000) (hall : ∀ i : Int, 0 ≤ i → i < s.size → HostB (bt s i)) (ut : UT w) :
    Calls Tryz.prog 145 #[.string s, .int .u8 4] w fun e w' => e = .returned (.tuple #[.string s, .nilIface]) ∧ w' = w := by
  have H := Aside0.mk hall
  have U := Aside0.mk ut
  clear hall ut
  go_enter Tryz.func145, Tryz.ntmps145
  go_wp2_with fail
  go_loop [0, 6, 7, 8] (fun v0 v6 v7 v8 => v0 = .string s ∧ v6 = .int .i64 0 ∧ v7 = .bool false ∧ ∃ i : Int, v8 = .int .i64 i ∧ 0 ≤ i ∧ i ≤ s.size) (fun v0 v6 v7 v8 => s.size - (intOf v8).toNat)
  case atStart => exact ⟨rfl, rfl, rfl, 0, rfl, by omega, by omega⟩
  case round =>
    obtain ⟨rfl, rfl, rfl, i, rfl, i0, i1⟩ := hrel
    have hx := bt_at s i
    have p1 := eq_true i0
    by_cases c1 : i < (s.size : Int)
    · have q1 := eq_true c1
      have hc := H.out i i0 c1
      have e1 : (bt s i == 37) = false := beq_eq_false_iff_ne.2 (by unfold HostB at hc; omega)
      have e2 : (bt s i == 43) = false := beq_eq_false_iff_ne.2 (by unfold HostB at hc; omega)
      have e3 : decide (bt s i < 128) = true := decide_eq_true (by unfold HostB at hc; omega)
      have HC := Aside0.mk hc
      clear hc
      go_wp2_with fail
      refine (shouldEscape_host _ _ HC.out U.out).mono ?_
      rintro e w1 ⟨rfl, rfl⟩
      go_wp2_with fail
      go_round
      case rel => exact ⟨rfl, rfl, rfl, i + 1, rfl, by omega, by omega⟩
      case measure => simp [intOf]; omega
    · have q1 := eq_false c1
      go_wp2_with fail
      go_ret2
      exact ⟨rfl, rfl⟩
end Go.Proofs.YtnchgmjeoajmiaaGreatDoor

/-! Urb -/
namespace Go.Proofs.YtnchgmjeoajmiaaGreatDoor
open Go.RowKit Go.Proofs.YtnchgmjeoajmiaaGreatDoorW.PrintWords
set_option linter.unusedSimpArgs false
set_option linter.unusedVariables false

theorem below_iter (w : World) (s : ByteArray) (pos : Nat) : Below w.heap.size w (w.iter s pos) := by
  unfold World.iter
  go_grown

set_option maxRecDepth 100000 in
set_option maxHeartbeats 400000 in
theorem validPort_ok (p t : ByteArray) (w : World) (h1 : 0 < p.size) (hz : p.size ≤ 1000000) (h0 : bt p 0 = 58) (ht : p.extract 1 p.size = t) (hall : ∀ (i : Nat) (h : i < t.size), 48 ≤ (t[i]'h).toNat ∧ (t[i]'h).toNat ≤ 57) :
    Calls Tryz.prog 161 #[.string p] w fun e w' => e = .returned (.bool true) ∧ Below w.heap.size w w' := by
  have H := Aside0.mk hall
  have e0 : (p.toList == ([] : List UInt8)) = false := by
    rw [beq_eq_false_iff_ne]
    intro e
    have hl : p.toList.length = p.size := by rw [ByteArray.toList_eq]; exact Array.length_toList
    rw [e, List.length_nil] at hl
    omega
  have hx := bt_at p 0
  rw [h0] at hx
  simp only [Int.toNat_zero] at hx
  clear hall
  go_enter Tryz.func161, Tryz.ntmps161
  go_wp2_with fail
  go_loopw [4, 13] (fun v4 v13 w' => ∃ pos : Nat, w' = w.iter t pos ∧ pos ≤ t.size) (fun _ _ w' => t.size - w'.iterPos w.heap.size)
  case atStart => exact ⟨0, rfl, Nat.zero_le _⟩
  case round =>
    obtain ⟨pos, rfl, hle⟩ := hrel
    by_cases hp : pos < t.size
    · have hd := H.out pos hp
      have hnx : ∀ ty, (Instr.next (.pointer (some ⟨w.heap.size, 0, none⟩)) true ty).run Tryz.prog (w.iter t pos) = _ := fun ty => run_next_ascii w t pos ty hp (by omega)
      have d1 : decide (((t[pos]'hp).toNat : Int) < 48) = false := decide_eq_false (by omega)
      have d2 : decide (57 < ((t[pos]'hp).toNat : Int)) = false := decide_eq_false (by omega)
      clear hd
      go_wp2_with fail
      go_roundw
      case rel => exact ⟨pos + 1, rfl, by omega⟩
      case measure => simp; omega
    · have hnx : ∀ ty, (Instr.next (.pointer (some ⟨w.heap.size, 0, none⟩)) true ty).run Tryz.prog (w.iter t pos) = _ := fun ty => run_next_end w t pos ty hp
      go_wp2_with fail
      go_ret
      exact ⟨rfl, below_iter w t pos⟩

/-- A host that is a name, with its port: the colon at n. -/
structure HostP (s t : ByteArray) (n : Nat) : Prop where
  size : s.size ≤ 1000000
  lt : n < s.size
  all : ∀ i : Int, 0 ≤ i → i < s.size → HostB (bt s i)
  index : ∃ k, N.neturl_zzIndex.f k s ⟨#[58]⟩ = some (n : Int)
  last : Lib.lastIndexByte s 58 = n
  open_ : Lib.lastIndexByte s 91 = -1
  at_ : Lib.lastIndexByte s 64 = -1
  colon : bt (s.extract n s.size) 0 = 58
  tail : (s.extract n s.size).extract 1 (s.extract n s.size).size = t
  dig : ∀ (i : Nat) (h : i < t.size), 48 ≤ (t[i]'h).toNat ∧ (t[i]'h).toNat ≤ 57

set_option maxRecDepth 100000 in
set_option maxHeartbeats 400000 in
theorem parseHost_ok (sch s t : ByteArray) (n : Nat) (w : World) (h : HostP s t n) (ut : UT w) :
    Calls Tryz.prog 164 #[.string sch, .string s] w fun e w' => e = .returned (.tuple #[.string s, .nilIface]) ∧ Below w.heap.size w w' := by
  have hs := h.size
  have hl := h.lt
  obtain ⟨k, hk⟩ := h.index
  have K := Aside0.mk hk
  have H := Aside0.mk h
  have U := Aside0.mk ut
  have hz : (s.extract n s.size).size = s.size - n := by rw [ByteArray.size_extract]; omega
  have hn : ((n : Int) == -1) = false := beq_eq_false_iff_ne.2 (by omega)
  clear h ut hk
  go_enter Tryz.func164, Tryz.ntmps164
  go_wp2_with fail
  refine (Tryz.strings_LastIndex_one s ⟨#[91]⟩ rfl (by omega) _).mono ?_
  rw [show (((⟨#[91]⟩ : ByteArray)[0]'(by decide)).toNat : Int) = 91 from rfl, H.out.open_]
  rintro e w1 ⟨rfl, rfl⟩
  go_wp2_with fail
  refine (N.neturl_zzIndex.calls k s ⟨#[58]⟩ n _ K.out).mono ?_
  rintro e w2 ⟨rfl, ⟨m2, rfl⟩⟩
  go_wp2_with fail
  refine (Tryz.strings_LastIndex_one s ⟨#[58]⟩ rfl (by omega) _).mono ?_
  rw [show (((⟨#[58]⟩ : ByteArray)[0]'(by decide)).toNat : Int) = 58 from rfl, H.out.last]
  rintro e w3 ⟨rfl, rfl⟩
  go_wp2_with fail
  refine (validPort_ok (s.extract n s.size) t _ (by omega) (by omega) H.out.colon H.out.tail H.out.dig).mono ?_
  rintro e w4 ⟨rfl, b4⟩
  have B4 := Aside0.mk (bel_then (pw_below_drewN (Below.refl _ _) m2) b4)
  clear b4
  go_wp2_with fail
  refine (unescape_host s w4 hs H.out.all (U.out.below B4.out)).mono ?_
  rintro e w5 ⟨rfl, rfl⟩
  go_wp2_with fail
  go_ret2
  exact ⟨rfl, B4.out⟩

set_option maxRecDepth 100000 in
set_option maxHeartbeats 400000 in
theorem parseAuthority_ok (sch s t : ByteArray) (n : Nat) (w : World) (h : HostP s t n) (ut : UT w) :
    Calls Tryz.prog 143 #[.string sch, .string s] w fun e w' => e = .returned (.tuple #[.pointer none, .string s, .nilIface]) ∧ Below w.heap.size w w' := by
  have hs := h.size
  have H := Aside0.mk h
  have U := Aside0.mk ut
  clear h ut
  go_enter Tryz.func143, Tryz.ntmps143
  go_wp2_with fail
  refine (Tryz.strings_LastIndex_one s ⟨#[64]⟩ rfl (by omega) _).mono ?_
  rw [show (((⟨#[64]⟩ : ByteArray)[0]'(by decide)).toNat : Int) = 64 from rfl, H.out.at_]
  rintro e w1 ⟨rfl, rfl⟩
  go_wp2_with fail
  refine (parseHost_ok sch s t n _ H.out U.out).mono ?_
  rintro e w2 ⟨rfl, b2⟩
  go_wp2_with fail
  go_ret3
  exact ⟨rfl, b2⟩

set_option maxRecDepth 100000 in
set_option maxHeartbeats 400000 in
theorem unescape_empty (m : Int) (w : World) : Calls Tryz.prog 145 #[.string ⟨#[]⟩, .int .u8 m] w fun e w' => e = .returned (.tuple #[.string ⟨#[]⟩, .nilIface]) ∧ w' = w := by
  go_enter Tryz.func145, Tryz.ntmps145
  go_wp2_with fail
  refine wp_loop_rounds 3 ?_
  rw [rounds_succ]
  go_wp2_with fail
  go_ret2
  exact ⟨rfl, rfl⟩

set_option maxRecDepth 100000 in
set_option maxHeartbeats 400000 in
theorem escape_empty (m : Int) (w : World) : Calls Tryz.prog 146 #[.string ⟨#[]⟩, .int .u8 m] w fun e w' => e = .returned (.string ⟨#[]⟩) ∧ Below w.heap.size w w' := by
  have hcv := fun w s => run_bytes_of_string (P := Tryz.prog) w 9 46 5 s Tryz.underlying9 Tryz.underlying46 Tryz.underlying5
  go_enter Tryz.func146, Tryz.ntmps146
  go_wp2_with fail
  refine wp_loop_rounds 3 ?_
  rw [rounds_succ]
  go_wp2_with fail
  go_ret
  exact ⟨rfl, by go_grown⟩
end Go.Proofs.YtnchgmjeoajmiaaGreatDoor

/-! Urc -/
namespace Go.Proofs.YtnchgmjeoajmiaaGreatDoor
open Go.RowKit Go.Proofs.YtnchgmjeoajmiaaGreatDoorW.PrintWords
set_option linter.unusedSimpArgs false
set_option linter.unusedVariables false

/-- The cells of an URL of a scheme, an opaque part and a host. -/
abbrev urlC (sch opq host : ByteArray) : Array Value := #[.string sch, .string opq, .pointer none, .string host, .string ⟨#[]⟩, .string ⟨#[]⟩, .string ⟨#[]⟩, .string ⟨#[]⟩, .string ⟨#[]⟩, .bool false, .bool false]

set_option maxRecDepth 100000 in
set_option maxHeartbeats 400000 in
theorem setPath_empty (g : Nat) (sch opq host : ByteArray) (w : World) (hg : w.heap[g]? = some (.cells (urlC sch opq host) 73 (0, 0))) :
    Calls Tryz.prog 144 #[.pointer (some ⟨g, 0, none⟩), .string ⟨#[]⟩] w fun e w' => e = .returned .nilIface ∧ w'.heap[g]? = some (.cells (urlC sch opq host) 73 (0, 0)) ∧ ∀ B A0, B ≤ g → Below B A0 w → Below B A0 w' := by
  have HG := Aside0.mk hg
  have q := blk_lt hg
  have c4 := blk_cell hg 4
  have f4 := blk_frozen hg 4
  simp only [List.getElem?_toArray, List.getElem?_cons_zero, List.getElem?_cons_succ] at c4
  clear hg
  go_enter Tryz.func144, Tryz.ntmps144
  go_wp2_with fail
  refine (unescape_empty 1 _).mono ?_
  rintro e w1 ⟨rfl, rfl⟩
  go_wp2_with fail
  have hg := blk_put HG.out 4 (.string ⟨#[]⟩) (cs' := urlC sch opq host) rfl
  refine (escape_empty 1 _).mono ?_
  rintro e w2 ⟨rfl, b2⟩
  have h2 := (b2.block g (blk_lt hg)).trans hg
  have H2 := Aside0.mk h2
  have B2 := Aside0.mk b2
  have c7 := blk_cell h2 7
  have f7 := blk_frozen h2 7
  simp only [List.getElem?_toArray, List.getElem?_cons_zero, List.getElem?_cons_succ] at c7
  clear c4 f4 h2 b2 hg
  go_wp2_with fail
  go_ret
  refine ⟨rfl, blk_put H2.out 7 (.string ⟨#[]⟩) rfl, fun B A0 hB hA => ?_⟩
  have s1 : Below B A0 (w1.setCell ⟨g, 4, none⟩ (.string ⟨#[]⟩)) := hA.setCell (p := ⟨g, 4, none⟩) hB _
  exact (s1.trans (B2.out.mono (Nat.le_trans hB (Nat.le_of_lt (blk_lt (blk_put HG.out 4 (.string ⟨#[]⟩) (cs' := urlC sch opq host) rfl)))))).setCell (p := ⟨g, 7, none⟩) hB _

/-- The text 'name:port' as url.Parse takes it. -/
structure UrlA (s sc rest : ByteArray) (n : Int) : Prop where
  sch : Sch s n
  small : s.size ≤ 1000000
  ctl : ∃ k, N.neturl_stringContainsCTLByte.f k s = some false
  ne : s.toList ≠ []
  star : s.toList ≠ [42]
  esc : s.extract 0 n.toNat = sc
  erest : s.extract (n + 1).toNat s.size = rest
  scs : sc.size ≤ 1000000
  rs : rest.size ≤ 1000000
  ascii : ∀ (j : Nat) (b : UInt8), sc.data.toList[j]? = some b → b.toNat < 128
  low : (⟨(Lib.toLowerA sc.data.toList).toArray⟩ : ByteArray) = sc
  qs : Lib.hasSuffix rest.data.toList [63] = false
  qcut : ∃ k, N.neturl_zzCut.f k rest ⟨#[63]⟩ = some (rest, ⟨#[]⟩, false)
  slash : Lib.hasPrefix rest.data.toList [47] = false
  scne : sc.toList ≠ []

set_option maxRecDepth 100000 in
set_option maxHeartbeats 1000000 in
theorem parse_opaque (s sc rest : ByteArray) (n : Int) (w : World) (h : UrlA s sc rest n) :
    Calls Tryz.prog 105 #[.string s, .bool false] w fun e w' => ∃ g, e = .returned (.tuple #[.pointer (some ⟨g, 0, none⟩), .nilIface]) ∧ w'.heap[g]? = some (.cells (urlC sc rest ⟨#[]⟩) 73 (0, 0)) ∧ w.heap.size ≤ g ∧ Below w.heap.size w w' := by
  obtain ⟨k, hk⟩ := h.ctl
  obtain ⟨kc, hkc⟩ := h.qcut
  have K := Aside0.mk hk
  have KC := Aside0.mk hkc
  have H := Aside0.mk h
  have e0 : (s.toList == ([] : List UInt8)) = false := beq_eq_false_iff_ne.2 h.ne
  have e1 : (s.toList == [42]) = false := beq_eq_false_iff_ne.2 h.star
  have e2 : (sc.toList == ([] : List UInt8)) = false := beq_eq_false_iff_ne.2 h.scne
  have e3 : (sc.toList != ([] : List UInt8)) = true := by unfold bne; rw [e2]; rfl
  clear hk hkc h
  go_enter Tryz.func105, Tryz.ntmps105
  go_wp2_with fail
  refine (N.neturl_stringContainsCTLByte.calls k s false _ K.out).mono ?_
  rintro e w1 ⟨rfl, ⟨m1, rfl⟩⟩
  go_wp2_with fail
  have Y0 : ((w.drewN m1).alloc (.cells (urlC ⟨#[]⟩ ⟨#[]⟩ ⟨#[]⟩) 73)).heap[w.heap.size]? = some (.cells (urlC ⟨#[]⟩ ⟨#[]⟩ ⟨#[]⟩) 73 (0, 0)) := heap1 (w.drewN m1) _
  have A0 : Below w.heap.size w ((w.drewN m1).alloc (.cells (urlC ⟨#[]⟩ ⟨#[]⟩ ⟨#[]⟩) 73)) := (pw_below_drewN (Below.refl _ w) m1).alloc (Nat.le_refl _) _
  refine (getScheme_ok s n _ H.out.sch).mono ?_
  rw [H.out.esc, H.out.erest]
  rintro e w2 ⟨rfl, ⟨m2, rfl⟩⟩
  have Y1 : (((w.drewN m1).alloc (.cells (urlC ⟨#[]⟩ ⟨#[]⟩ ⟨#[]⟩) 73)).drewN m2).heap[w.heap.size]? = some (.cells (urlC ⟨#[]⟩ ⟨#[]⟩ ⟨#[]⟩) 73 (0, 0)) := Y0
  have A1 := pw_below_drewN A0 m2
  generalize ((w.drewN m1).alloc (.cells (urlC ⟨#[]⟩ ⟨#[]⟩ ⟨#[]⟩) 73)).drewN m2 = W1 at *
  have c0 := blk_cell Y1 0
  have f0 := blk_frozen Y1 0
  simp only [List.getElem?_toArray, List.getElem?_cons_zero, List.getElem?_cons_succ] at c0
  have q1 := blk_lt Y1
  have Y2 := blk_put Y1 0 (.string sc) (cs' := urlC sc ⟨#[]⟩ ⟨#[]⟩) rfl
  have k0 := blk_cell Y2 0
  simp only [List.getElem?_toArray, List.getElem?_cons_zero, List.getElem?_cons_succ] at k0
  have YY := Aside0.mk Y2
  have AA := Aside0.mk (A1.setCell (p := ⟨w.heap.size, 0, none⟩) (Nat.le_refl _) (.string sc))
  clear Y0 A0 Y1 A1 Y2
  go_wp2_with fail
  refine (Tryz.strings_ToLower_ascii sc _ (by have := H.out.scs; omega) H.out.ascii).mono ?_
  rw [H.out.low]
  rintro e W2 ⟨rfl, b2⟩
  have Y3 := (b2.block _ (blk_lt YY.out)).trans YY.out
  have A3 := bel_then AA.out b2
  clear c0 f0 k0 q1 b2 YY AA
  have c0 := blk_cell Y3 0
  have f0 := blk_frozen Y3 0
  simp only [List.getElem?_toArray, List.getElem?_cons_zero, List.getElem?_cons_succ] at c0
  have Y4 := blk_put Y3 0 (.string sc) (cs' := urlC sc ⟨#[]⟩ ⟨#[]⟩) rfl
  have YY := Aside0.mk Y4
  have AA := Aside0.mk (A3.setCell (p := ⟨w.heap.size, 0, none⟩) (Nat.le_refl _) (.string sc))
  clear Y3 A3 Y4
  go_wp2_with fail
  have Y5 := YY.out
  have A5 := AA.out
  generalize W2.setCell ⟨w.heap.size, 0, none⟩ (.string sc) = W3 at *
  clear c0 f0 YY AA
  have YY := Aside0.mk Y5
  have AA := Aside0.mk A5
  clear Y5 A5
  refine (Tryz.strings_HasSuffix rest ⟨#[63]⟩ _ (by have := H.out.rs; omega)).mono ?_
  rw [show (⟨#[63]⟩ : ByteArray).data.toList = [63] from rfl, H.out.qs]
  rintro e w4 ⟨rfl, rfl⟩
  go_wp2_with fail
  refine (N.neturl_zzCut.calls kc rest ⟨#[63]⟩ rest ⟨#[]⟩ false _ KC.out).mono ?_
  rintro e w5 ⟨rfl, ⟨m5, rfl⟩⟩
  have Y6 : (w4.drewN m5).heap[w.heap.size]? = some (.cells (urlC sc ⟨#[]⟩ ⟨#[]⟩) 73 (0, 0)) := YY.out
  have A6 := pw_below_drewN AA.out m5
  generalize w4.drewN m5 = W5 at *
  have c6 := blk_cell Y6 6
  have f6 := blk_frozen Y6 6
  simp only [List.getElem?_toArray, List.getElem?_cons_zero, List.getElem?_cons_succ] at c6
  have Y7 := Aside0.mk (blk_put Y6 6 (.string ⟨#[]⟩) (cs' := urlC sc ⟨#[]⟩ ⟨#[]⟩) rfl)
  have A7 := Aside0.mk (A6.setCell (p := ⟨w.heap.size, 6, none⟩) (Nat.le_refl _) (.string ⟨#[]⟩))
  clear Y6 A6 YY AA
  go_wp2_with fail
  refine (Tryz.strings_HasPrefix rest ⟨#[47]⟩ _).mono ?_
  rw [show (⟨#[47]⟩ : ByteArray).data.toList = [47] from rfl, H.out.slash]
  rintro e w8 ⟨rfl, rfl⟩
  have Y8 := Y7.out
  have A8 := A7.out
  generalize W5.setCell ⟨w.heap.size, 6, none⟩ (.string ⟨#[]⟩) = W8 at *
  have c0 := blk_cell Y8 0
  have c1 := blk_cell Y8 1
  have f1 := blk_frozen Y8 1
  simp only [List.getElem?_toArray, List.getElem?_cons_zero, List.getElem?_cons_succ] at c0 c1
  have Y9 := Aside0.mk (blk_put Y8 1 (.string rest) (cs' := urlC sc rest ⟨#[]⟩) rfl)
  have A9 := Aside0.mk (A8.setCell (p := ⟨w.heap.size, 1, none⟩) (Nat.le_refl _) (.string rest))
  clear Y8 A8 Y7 A7 c6 f6
  go_wp2_with fail
  go_ret2
  exact ⟨w.heap.size, rfl, Y9.out, Nat.le_refl _, A9.out⟩
/-- 'http' -/
abbrev httpT : ByteArray := ⟨#[104, 116, 116, 112]⟩
theorem http_ascii : ∀ (j : Nat) (b : UInt8), httpT.data.toList[j]? = some b → b.toNat < 128 := fun j b h => by
  have : ∀ b ∈ ([104, 116, 116, 112] : List UInt8), b.toNat < 128 := by decide
  exact this b (List.mem_of_getElem? h)
theorem http_low : (⟨(Lib.toLowerA httpT.data.toList).toArray⟩ : ByteArray) = httpT := by decide +kernel
/-- The text 'http://name:port' as url.Parse takes it. -/
structure UrlH (s rest host t : ByteArray) (n : Nat) : Prop where
  sch : Sch s 4
  small : s.size ≤ 1000000
  ctl : ∃ k, N.neturl_stringContainsCTLByte.f k s = some false
  ne : s.toList ≠ []
  star : s.toList ≠ [42]
  esc : s.extract 0 4 = httpT
  erest : s.extract 5 s.size = rest
  rs : rest.size ≤ 1000000
  qs : Lib.hasSuffix rest.data.toList [63] = false
  qcut : ∃ k, N.neturl_zzCut.f k rest ⟨#[63]⟩ = some (rest, ⟨#[]⟩, false)
  slash : Lib.hasPrefix rest.data.toList [47] = true
  slash2 : Lib.hasPrefix rest.data.toList [47, 47] = true
  two : 2 ≤ rest.size
  auth : rest.extract 2 rest.size = host
  noslash : ∃ k, N.neturl_zzIndex.f k host ⟨#[47]⟩ = some (-1)
  hp : HostP host t n

set_option maxRecDepth 100000 in
set_option maxHeartbeats 1000000 in
theorem parse_http (s rest host t : ByteArray) (n : Nat) (w : World) (h : UrlH s rest host t n) (ut : UT w) :
    Calls Tryz.prog 105 #[.string s, .bool false] w fun e w' => ∃ g, e = .returned (.tuple #[.pointer (some ⟨g, 0, none⟩), .nilIface]) ∧ w'.heap[g]? = some (.cells (urlC httpT ⟨#[]⟩ host) 73 (0, 0)) ∧ w.heap.size ≤ g ∧ Below w.heap.size w w' := by
  obtain ⟨k, hk⟩ := h.ctl
  obtain ⟨kc, hkc⟩ := h.qcut
  have K := Aside0.mk hk
  have KC := Aside0.mk hkc
  have H := Aside0.mk h
  have e0 : (s.toList == ([] : List UInt8)) = false := beq_eq_false_iff_ne.2 h.ne
  have e1 : (s.toList == [42]) = false := beq_eq_false_iff_ne.2 h.star
  have e2 : (httpT.toList == ([] : List UInt8)) = false := by decide +kernel
  have e3 : (httpT.toList != ([] : List UInt8)) = true := by decide +kernel
  have U := Aside0.mk ut
  have hrs := h.rs
  obtain ⟨kn, hkn⟩ := h.noslash
  have KN := Aside0.mk hkn
  clear hk hkc h ut hkn
  go_enter Tryz.func105, Tryz.ntmps105
  go_wp2_with fail
  refine (N.neturl_stringContainsCTLByte.calls k s false _ K.out).mono ?_
  rintro e w1 ⟨rfl, ⟨m1, rfl⟩⟩
  go_wp2_with fail
  have Y0 : ((w.drewN m1).alloc (.cells (urlC ⟨#[]⟩ ⟨#[]⟩ ⟨#[]⟩) 73)).heap[w.heap.size]? = some (.cells (urlC ⟨#[]⟩ ⟨#[]⟩ ⟨#[]⟩) 73 (0, 0)) := heap1 (w.drewN m1) _
  have A0 : Below w.heap.size w ((w.drewN m1).alloc (.cells (urlC ⟨#[]⟩ ⟨#[]⟩ ⟨#[]⟩) 73)) := (pw_below_drewN (Below.refl _ w) m1).alloc (Nat.le_refl _) _
  refine (getScheme_ok s 4 _ H.out.sch).mono ?_
  rw [show (4 : Int).toNat = 4 from rfl, show ((4 : Int) + 1).toNat = 5 from rfl, H.out.esc, H.out.erest]
  rintro e w2 ⟨rfl, ⟨m2, rfl⟩⟩
  have Y1 : (((w.drewN m1).alloc (.cells (urlC ⟨#[]⟩ ⟨#[]⟩ ⟨#[]⟩) 73)).drewN m2).heap[w.heap.size]? = some (.cells (urlC ⟨#[]⟩ ⟨#[]⟩ ⟨#[]⟩) 73 (0, 0)) := Y0
  have A1 := pw_below_drewN A0 m2
  generalize ((w.drewN m1).alloc (.cells (urlC ⟨#[]⟩ ⟨#[]⟩ ⟨#[]⟩) 73)).drewN m2 = W1 at *
  have c0 := blk_cell Y1 0
  have f0 := blk_frozen Y1 0
  simp only [List.getElem?_toArray, List.getElem?_cons_zero, List.getElem?_cons_succ] at c0
  have q1 := blk_lt Y1
  have Y2 := blk_put Y1 0 (.string httpT) (cs' := urlC httpT ⟨#[]⟩ ⟨#[]⟩) rfl
  have k0 := blk_cell Y2 0
  simp only [List.getElem?_toArray, List.getElem?_cons_zero, List.getElem?_cons_succ] at k0
  have YY := Aside0.mk Y2
  have AA := Aside0.mk (A1.setCell (p := ⟨w.heap.size, 0, none⟩) (Nat.le_refl _) (.string httpT))
  clear Y0 A0 Y1 A1 Y2
  go_wp2_with fail
  refine (Tryz.strings_ToLower_ascii httpT _ (by decide) http_ascii).mono ?_
  rw [http_low]
  rintro e W2 ⟨rfl, b2⟩
  have Y3 := (b2.block _ (blk_lt YY.out)).trans YY.out
  have A3 := bel_then AA.out b2
  clear c0 f0 k0 q1 b2 YY AA
  have c0 := blk_cell Y3 0
  have f0 := blk_frozen Y3 0
  simp only [List.getElem?_toArray, List.getElem?_cons_zero, List.getElem?_cons_succ] at c0
  have Y4 := blk_put Y3 0 (.string httpT) (cs' := urlC httpT ⟨#[]⟩ ⟨#[]⟩) rfl
  have YY := Aside0.mk Y4
  have AA := Aside0.mk (A3.setCell (p := ⟨w.heap.size, 0, none⟩) (Nat.le_refl _) (.string httpT))
  clear Y3 A3 Y4
  go_wp2_with fail
  have Y5 := YY.out
  have A5 := AA.out
  generalize W2.setCell ⟨w.heap.size, 0, none⟩ (.string httpT) = W3 at *
  clear c0 f0 YY AA
  have YY := Aside0.mk Y5
  have AA := Aside0.mk A5
  clear Y5 A5
  refine (Tryz.strings_HasSuffix rest ⟨#[63]⟩ _ (by have := H.out.rs; omega)).mono ?_
  rw [show (⟨#[63]⟩ : ByteArray).data.toList = [63] from rfl, H.out.qs]
  rintro e w4 ⟨rfl, rfl⟩
  go_wp2_with fail
  refine (N.neturl_zzCut.calls kc rest ⟨#[63]⟩ rest ⟨#[]⟩ false _ KC.out).mono ?_
  rintro e w5 ⟨rfl, ⟨m5, rfl⟩⟩
  have Y6 : (w4.drewN m5).heap[w.heap.size]? = some (.cells (urlC httpT ⟨#[]⟩ ⟨#[]⟩) 73 (0, 0)) := YY.out
  have A6 := pw_below_drewN AA.out m5
  generalize w4.drewN m5 = W5 at *
  have c6 := blk_cell Y6 6
  have f6 := blk_frozen Y6 6
  simp only [List.getElem?_toArray, List.getElem?_cons_zero, List.getElem?_cons_succ] at c6
  have Y7 := Aside0.mk (blk_put Y6 6 (.string ⟨#[]⟩) (cs' := urlC httpT ⟨#[]⟩ ⟨#[]⟩) rfl)
  have A7 := Aside0.mk (A6.setCell (p := ⟨w.heap.size, 6, none⟩) (Nat.le_refl _) (.string ⟨#[]⟩))
  clear Y6 A6 YY AA
  go_wp2_with fail
  refine (Tryz.strings_HasPrefix rest ⟨#[47]⟩ _).mono ?_
  rw [show (⟨#[47]⟩ : ByteArray).data.toList = [47] from rfl, H.out.slash]
  rintro e w8 ⟨rfl, rfl⟩
  have Y8 := Y7.out
  have A8 := A7.out
  generalize W5.setCell ⟨w.heap.size, 6, none⟩ (.string ⟨#[]⟩) = W8 at *
  have c0 := blk_cell Y8 0
  simp only [List.getElem?_toArray, List.getElem?_cons_zero, List.getElem?_cons_succ] at c0
  clear Y7 A7 c6 f6
  go_wp2_with fail
  refine (Tryz.strings_HasPrefix rest ⟨#[47, 47]⟩ _).mono ?_
  rw [show (⟨#[47, 47]⟩ : ByteArray).data.toList = [47, 47] from rfl, H.out.slash2]
  rintro e w9 ⟨rfl, rfl⟩
  have h2 := H.out.two
  have ha := H.out.auth
  go_wp2_with fail
  refine (N.neturl_zzIndex.calls kn host ⟨#[47]⟩ (-1) _ KN.out).mono ?_
  rintro e w10 ⟨rfl, ⟨m10, rfl⟩⟩
  have Y10 : (w9.drewN m10).heap[w.heap.size]? = some (.cells (urlC httpT ⟨#[]⟩ ⟨#[]⟩) 73 (0, 0)) := Y8
  have A10 := pw_below_drewN A8 m10
  generalize w9.drewN m10 = W10 at *
  clear Y8 A8 c0
  have c0 := blk_cell Y10 0
  simp only [List.getElem?_toArray, List.getElem?_cons_zero, List.getElem?_cons_succ] at c0
  go_wp2_with fail
  refine (parseAuthority_ok httpT host t n _ H.out.hp (U.out.below A10)).mono ?_
  rintro e w11 ⟨rfl, b11⟩
  have Y11 := (b11.block _ (blk_lt Y10)).trans Y10
  have A11 := bel_then A10 b11
  have d2 := blk_cell Y11 2
  have g2 := blk_frozen Y11 2
  simp only [List.getElem?_toArray, List.getElem?_cons_zero, List.getElem?_cons_succ] at d2
  have Y12 := blk_put Y11 2 (.pointer none) (cs' := urlC httpT ⟨#[]⟩ ⟨#[]⟩) rfl
  have A12 := A11.setCell (p := ⟨w.heap.size, 2, none⟩) (Nat.le_refl _) (.pointer none)
  have d3 := blk_cell Y12 3
  have g3 := blk_frozen Y12 3
  simp only [List.getElem?_toArray, List.getElem?_cons_zero, List.getElem?_cons_succ] at d3
  have Y13 := Aside0.mk (blk_put Y12 3 (.string host) (cs' := urlC httpT ⟨#[]⟩ host) rfl)
  have A13 := Aside0.mk (A12.setCell (p := ⟨w.heap.size, 3, none⟩) (Nat.le_refl _) (.string host))
  clear Y10 A10 b11 A11 c0 Y12 A12 Y11
  go_wp2_with fail
  have Y14 := Y13.out
  have A14 := A13.out
  generalize (w11.setCell ⟨w.heap.size, 2, none⟩ (.pointer none)).setCell ⟨w.heap.size, 3, none⟩ (.string host) = W14 at *
  clear d2 g2 d3 g3
  refine (setPath_empty _ httpT ⟨#[]⟩ host _ Y14).mono ?_
  rintro e w15 ⟨rfl, Y15, A15⟩
  have Y16 := Aside0.mk Y15
  have A16 := Aside0.mk (A15 _ _ (Nat.le_refl _) A14)
  clear Y15 A15 Y14 A14
  go_wp2_with fail
  go_ret2
  exact ⟨w.heap.size, rfl, Y16.out, Nat.le_refl _, A16.out⟩
end Go.Proofs.YtnchgmjeoajmiaaGreatDoor

/-! Urd -/
namespace Go.Proofs.YtnchgmjeoajmiaaGreatDoor
open Go.RowKit Go.Proofs.YtnchgmjeoajmiaaGreatDoorW.PrintWords
set_option linter.unusedSimpArgs false
set_option linter.unusedVariables false

/-- The call hands back a new URL. -/
def NewUrl (sch opq host : ByteArray) (w : World) (e : Ending) (w' : World) : Prop :=
  ∃ g, e = .returned (.tuple #[.pointer (some ⟨g, 0, none⟩), .nilIface]) ∧ w'.heap[g]? = some (.cells (urlC sch opq host) 73 (0, 0)) ∧ w.heap.size ≤ g ∧ Below w.heap.size w w'
def NoHash (s : ByteArray) : Prop := ∃ k, N.neturl_zzCut.f k s ⟨#[35]⟩ = some (s, ⟨#[]⟩, false)

set_option maxRecDepth 100000 in
set_option maxHeartbeats 400000 in
theorem parse_of (s sch opq host : ByteArray) (w : World) (hh : NoHash s) (hp : ∀ w', Below w.heap.size w w' → Calls Tryz.prog 105 #[.string s, .bool false] w' (NewUrl sch opq host w')) :
    Calls Tryz.prog 66 #[.string s] w (NewUrl sch opq host w) := by
  obtain ⟨k, hk⟩ := hh
  have HP := Aside0.mk hp
  clear hp
  go_enter Tryz.func66, Tryz.ntmps66
  go_wp2_with fail
  refine (N.neturl_zzCut.calls k s ⟨#[35]⟩ s ⟨#[]⟩ false _ hk).mono ?_
  rintro e w1 ⟨rfl, ⟨m, rfl⟩⟩
  have A1 := Aside0.mk (show Below w.heap.size w (w.drewN m) from pw_below_drewN (Below.refl _ w) m)
  go_wp2_with fail
  refine (HP.out _ A1.out).mono ?_
  rintro e w2 ⟨g, rfl, hg, hle, b2⟩
  have HG := Aside0.mk hg
  have A2 := Aside0.mk (bel_then A1.out b2)
  have HLE := Aside0.mk (show w.heap.size ≤ g from hle)
  clear hg b2 hle
  go_wp2_with fail
  go_ret2
  exact ⟨g, rfl, HG.out, HLE.out, A2.out⟩

/-- What parseProxy takes: a name with a port. -/
structure ProxyT (p sc rest rest' t : ByteArray) (n : Int) (n' : Nat) : Prop where
  a : UrlA p sc rest n
  ha : NoHash p
  h : UrlH ((⟨#[104, 116, 116, 112, 58, 47, 47]⟩ : ByteArray) ++ p) rest' p t n'
  hh : NoHash ((⟨#[104, 116, 116, 112, 58, 47, 47]⟩ : ByteArray) ++ p)

set_option maxRecDepth 100000 in
set_option maxHeartbeats 400000 in
theorem parseProxy_named (p sc rest rest' t : ByteArray) (n : Int) (n' : Nat) (w : World) (h : ProxyT p sc rest rest' t n n') (ut : UT w) :
    Calls Tryz.prog 51 #[.string p] w (NewUrl httpT ⟨#[]⟩ p w) := by
  have H := Aside0.mk h
  have U := Aside0.mk ut
  have e0 : (p.toList == ([] : List UInt8)) = false := beq_eq_false_iff_ne.2 h.a.ne
  have e1 : (sc.toList == ([] : List UInt8)) = false := beq_eq_false_iff_ne.2 h.a.scne
  have hs := h.a.small
  have hz : (⟨#[104, 116, 116, 112, 58, 47, 47]⟩ : ByteArray).size = 7 := rfl
  clear h ut
  go_enter Tryz.func51, Tryz.ntmps51
  go_wp2_with fail
  refine (parse_of p sc rest ⟨#[]⟩ _ H.out.ha fun w' _ => parse_opaque p sc rest n w' H.out.a).mono ?_
  rintro e w1 ⟨g, rfl, hg, hle, b1⟩
  have c0 := blk_cell hg 0
  have c3 := blk_cell hg 3
  simp only [List.getElem?_toArray, List.getElem?_cons_zero, List.getElem?_cons_succ] at c0 c3
  have A1 := Aside0.mk b1
  clear hg b1
  go_wp2_with fail
  refine (parse_of _ httpT ⟨#[]⟩ p _ H.out.hh fun w' b => parse_http _ rest' p t n' w' H.out.h (U.out.below (bel_then A1.out b))).mono ?_
  rintro e w2 ⟨g2, rfl, hg2, hle2, b2⟩
  have HG := Aside0.mk hg2
  have A2 := Aside0.mk (bel_then A1.out b2)
  have HLE := Aside0.mk (Nat.le_trans A1.out.size hle2)
  clear hg2 b2 hle2
  go_wp2_with fail
  go_ret2
  exact ⟨g2, rfl, HG.out, HLE.out, A2.out⟩
end Go.Proofs.YtnchgmjeoajmiaaGreatDoor
