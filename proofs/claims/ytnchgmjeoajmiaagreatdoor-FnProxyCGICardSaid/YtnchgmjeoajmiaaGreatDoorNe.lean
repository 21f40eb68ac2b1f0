/- The walks of ProxyFunc and ProxyFor, the plain laws on the texts of a proxy. -/
import Derived.Test.YtnchgmjeoajmiaaGreatDoorNd
import Derived.Test.YtnchgmjeoajmiaaGreatDoorNc
import Derived.Test.YtnchgmjeoajmiaaGreatDoorNx1
/-! Ure -/
namespace Go.Proofs.YtnchgmjeoajmiaaGreatDoor
open Go.RowKit Go.Proofs.YtnchgmjeoajmiaaGreatDoorW.PrintWords
set_option linter.unusedSimpArgs false
set_option linter.unusedVariables false

theorem item_blank : Item ⟨#[]⟩ ⟨#[]⟩ := by
  have := item_of (a := []) (q := []) (b := []) (fun x hx => by cases hx) (fun x hx => by cases hx) (fun x hx => by cases hx) (by simp)
  exact this

/-- init's loop over one empty item. -/
theorem loop_blank (p4 p6 : Addr) (cb g cap : Nat) (W : World) (Q0 : Exit → Act → World → Prop) (G : GW p4 p6 W) (hs : W.cell? ⟨g, 0, none⟩ = some (.string ⟨#[]⟩))
    (hQ : ∀ a w', a.defers = [] → Below W.heap.size W w' → Q0 (.exit 0) a w') (a : Act) (ha : IvF cb g 1 cap 0 a) : (Code.loop initBody).wp Tryz.prog Q0 a W := by
  refine wp_loop (fun a w => (IvF cb g 1 cap 0 a ∧ w = W) ∨ (IvF cb g 1 cap 1 a ∧ Below W.heap.size W w)) (fun a _ => mu 1 a) (.inl ⟨ha, rfl⟩) fun a w hI => ?_
  rcases hI with ⟨h0, rfl⟩ | ⟨h1, hb⟩
  · have m0 := mu_at h0
    obtain ⟨u, rfl⟩ := h0
    refine round_blank p4 p6 cb g 1 cap 0 u w _ _ G (by omega) (by omega) hs item_blank fun a' w' h1 h2 => ?_
    exact ⟨.inr ⟨h1, h2⟩, by rw [mu_at h1, m0]; omega⟩
  · obtain ⟨u, rfl⟩ := h1
    exact round_end cb g 1 cap u w _ fun a' h0 => hQ a' w h0 hb

/-- What parseProxy makes of a text: nothing of nothing, an URL of a name with a port. -/
def PV (x : ByteArray) (u : Value) (w : World) : Prop := (x = ⟨#[]⟩ ∧ u = .pointer none) ∨ ∃ g, u = .pointer (some ⟨g, 0, none⟩) ∧ w.heap[g]? = some (.cells (urlC httpT ⟨#[]⟩ x) 73 (0, 0)) ∧ x ≠ ⟨#[]⟩
theorem PV.below {x : ByteArray} {u : Value} {w w' : World} (h : PV x u w) (hb : Below w.heap.size w w') : PV x u w' := by
  rcases h with h | ⟨g, h1, h2, h3⟩
  · exact .inl h
  · exact .inr ⟨g, h1, (hb.block g (blk_lt h2)).trans h2, h3⟩
theorem PV.set {x : ByteArray} {u : Value} {w : World} (h : PV x u w) {cb : Nat} {cs : Array Value} (hc : w.heap[cb]? = some (.cells cs 77 (0, 0))) (i : Nat) (v : Value) : PV x u (w.setCell ⟨cb, i, none⟩ v) := by
  rcases h with h | ⟨g, h1, h2, h3⟩
  · exact .inl h
  · refine .inr ⟨g, h1, blk_far h2 ?_ v, h3⟩
    rintro rfl
    rw [hc] at h2
    injection h2 with h2
    injection h2 with _ h2 _
    exact absurd h2 (by decide)
def ProxyP (x : ByteArray) : Prop := ∀ w, UT w → Calls Tryz.prog 51 #[.string x] w fun e w' => ∃ u, e = .returned (.tuple #[u, .nilIface]) ∧ PV x u w' ∧ Below w.heap.size w w'
theorem proxyP_none : ProxyP ⟨#[]⟩ := fun w _ => (parseProxy_none w).mono fun e w' ⟨h1, h2⟩ => ⟨.pointer none, h1, .inl ⟨rfl, rfl⟩, by subst h2; exact Below.refl _ _⟩
theorem proxyP_named {p sc rest rest' t : ByteArray} {n : Int} {n' : Nat} (h : ProxyT p sc rest rest' t n n') : ProxyP p := fun w ut => (parseProxy_named p sc rest rest' t n n' w h ut).mono fun e w' ⟨g, h1, h2, h3, h4⟩ => ⟨_, h1, .inr ⟨g, rfl, h2, fun e => h.a.ne (by rw [e]; exact ByteArray.toList_eq _)⟩, h4⟩

/-- The setting's cells behind init. -/
abbrev cfgC (hp hsp : ByteArray) (cgi : Bool) (u4 u5 : Value) : Array Value := #[.string hp, .string hsp, .string ⟨#[]⟩, .bool cgi, u4, u5, .slice none 0 0, .slice none 0 0]

theorem split_blank : P.httpproxy_zzSplit.f 5 ⟨#[]⟩ comma = some [⟨#[]⟩] := by
  have := zzSplit_join [[]] 5 [] (by simp) (fun x hx => by simp at hx; subst hx; intro b hb; cases hb) (by simp [joinL]) (by simp [joinL]) (by simp)
  exact this

set_option maxRecDepth 1000000 in
set_option maxHeartbeats 400000 in
theorem init_prox (p4 p6 : Addr) (wB : World) (cb : Nat) (hp hsp : ByteArray) (cgi : Bool) (w : World) (G : GW p4 p6 wB) (U : UT wB) (hBw : Below wB.heap.size wB w) (hB : wB.heap.size ≤ cb) (P1 : ProxyP hp) (P2 : ProxyP hsp)
    (hc : w.heap[cb]? = some (.cells (cfgC hp hsp cgi (.pointer none) (.pointer none)) 77 (0, 0))) :
    Calls Tryz.prog 47 #[.pointer (some ⟨cb, 0, none⟩)] w fun e w' => e = .returned (.tuple #[]) ∧ (∃ u4 u5, w'.heap[cb]? = some (.cells (cfgC hp hsp cgi u4 u5) 77 (0, 0)) ∧ PV hp u5 w' ∧ PV hsp u4 w') ∧ Below wB.heap.size wB w' := by
  have H := fun w => Aside0.mk (P.httpproxy_zzSplit.calls 5 ⟨#[]⟩ comma [⟨#[]⟩] w split_blank)
  have d := blk_cell hc
  have d0 := d 0
  have d5 := d 5
  have fr := blk_frozen hc
  simp only [List.getElem?_toArray, List.getElem?_cons_zero, List.getElem?_cons_succ] at d0 d5
  clear d
  go_enter Tryz.func47, Tryz.ntmps47
  go_wp2_with fail
  refine (P1 _ (U.below hBw)).mono ?_
  rintro e w1 ⟨u5, rfl, pv5, b1⟩
  have hc1 := (b1.block cb (blk_lt hc)).trans hc
  have B1 := bel_then hBw b1
  have e5 := blk_cell hc1 5
  have f5 := blk_frozen hc1 5
  have hc2 := blk_put hc1 5 u5 (cs' := cfgC hp hsp cgi (.pointer none) u5) rfl
  have e1 := blk_cell hc2 1
  simp only [List.getElem?_toArray, List.getElem?_cons_zero, List.getElem?_cons_succ] at e1 e5
  have PV5 := Aside0.mk (pv5.set hc1 5 u5)
  have B2 := Aside0.mk (B1.setCell (p := ⟨cb, 5, none⟩) hB u5)
  have HC2 := Aside0.mk hc2
  clear d0 d5 fr b1 hc1 B1 hc2 pv5 hc
  have hu5 : ∃ o, u5 = .pointer o := by
    rcases PV5.out with h | ⟨g, h, _⟩
    · exact ⟨_, h.2⟩
    · exact ⟨_, h⟩
  obtain ⟨o5, rfl⟩ := hu5
  go_wp2_with fail
  refine (P2 _ (U.below B2.out)).mono ?_
  rintro e w3 ⟨u4, rfl, pv4, b3⟩
  have hc3 := (b3.block cb (blk_lt HC2.out)).trans HC2.out
  have B3 := bel_then B2.out b3
  have PV5' := PV5.out.below b3
  clear e1 e5 f5
  have e4 := blk_cell hc3 4
  have f4 := blk_frozen hc3 4
  have hc4 := blk_put hc3 4 u4 (cs' := cfgC hp hsp cgi u4 (.pointer o5)) rfl
  have e2 := blk_cell hc4 2
  simp only [List.getElem?_toArray, List.getElem?_cons_zero, List.getElem?_cons_succ] at e2 e4
  have PA := Aside0.mk (PV5'.set hc3 4 u4)
  have PB := Aside0.mk (pv4.set hc3 4 u4)
  have B4 := Aside0.mk (B3.setCell (p := ⟨cb, 4, none⟩) hB u4)
  have HC4 := Aside0.mk hc4
  clear b3 hc3 B3 PV5' pv4 hc4 PV5 HC2 B2
  have hu4 : ∃ o, u4 = .pointer o := by
    rcases PB.out with h | ⟨g, h, _⟩
    · exact ⟨_, h.2⟩
    · exact ⟨_, h⟩
  obtain ⟨o4, rfl⟩ := hu4
  go_wp2_with fail
  refine ((H _).out).mono ?_
  rintro e w5 ⟨v, rfl, hv, hb⟩
  obtain ⟨g, cap, cur, rfl, hg, hcur⟩ := row_block hv (by decide)
  have B5 := bel_then B4.out hb
  have hc5 := (hb.block cb (blk_lt HC4.out)).trans HC4.out
  have PA5 := PA.out.below hb
  have PB5 := PB.out.below hb
  have hs0 : w5.cell? ⟨g, 0, none⟩ = some (.string ⟨#[]⟩) := by rw [blk_cell hg]; exact hcur 0 _ rfl
  clear hv hb e2 e4 f4
  go_wp2_with fail
  refine loop_blank p4 p6 cb g cap w5 _ (G.below B5) hs0 ?_ _ (IvF.mk ..)
  intro a w' h0 h2
  go_wp2
  exact bodyPost_end (v := .tuple #[]) (by simp [results, Tryz.f47]) h0 ⟨rfl, ⟨_, _, (h2.block cb (blk_lt hc5)).trans hc5, PA5.below h2, PB5.below h2⟩, bel_then B5 h2⟩
end Go.Proofs.YtnchgmjeoajmiaaGreatDoor

/-! Urf -/
namespace Go.Proofs.YtnchgmjeoajmiaaGreatDoor
open Go.RowKit Go.Proofs.YtnchgmjeoajmiaaGreatDoorW.PrintWords
set_option linter.unusedSimpArgs false
set_option linter.unusedVariables false

/-- The setting behind init. -/
def Set7 (cb : Nat) (hp hsp : ByteArray) (cgi : Bool) (w : World) : Prop := ∃ u4 u5, w.heap[cb]? = some (.cells (cfgC hp hsp cgi u4 u5) 77 (0, 0)) ∧ PV hp u5 w ∧ PV hsp u4 w
theorem Set7.below {cb : Nat} {hp hsp : ByteArray} {cgi : Bool} {w w' : World} (h : Set7 cb hp hsp cgi w) (hb : Below w.heap.size w w') : Set7 cb hp hsp cgi w' := by
  obtain ⟨u4, u5, h1, h2, h3⟩ := h
  exact ⟨u4, u5, (hb.block cb (blk_lt h1)).trans h1, h2.below hb, h3.below hb⟩

set_option maxRecDepth 100000 in
set_option maxHeartbeats 400000 in
theorem proxyFunc_calls (p4 p6 : Addr) (cg : Nat) (hp hsp : ByteArray) (cgi : Bool) (w : World) (G : GW p4 p6 w) (U : UT w) (P1 : ProxyP hp) (P2 : ProxyP hsp) (hc : w.heap[cg]? = some (.cells #[.string hp, .string hsp, .string ⟨#[]⟩, .bool cgi] 57 (0, 0))) :
    Calls Tryz.prog 46 #[.pointer (some ⟨cg, 0, none⟩)] w fun e w' => e = .returned (.func (Fn.func 50) #[.pointer (some ⟨w.heap.size, 0, none⟩)] #[]) ∧ Set7 w.heap.size hp hsp cgi w' ∧ Below w.heap.size w w' := by
  have c0 := blk_cell hc 0
  have c1 := blk_cell hc 1
  have c2 := blk_cell hc 2
  have c3 := blk_cell hc 3
  simp only [List.getElem?_toArray, List.getElem?_cons_zero, List.getElem?_cons_succ] at c0 c1 c2 c3
  clear hc
  go_enter Tryz.func46, Tryz.ntmps46
  go_wp2_with fail
  refine (init_prox p4 p6 w w.heap.size hp hsp cgi _ G U (by go_grown) (Nat.le_refl _) P1 P2 (heap1 w _)).mono ?_
  rintro e w1 ⟨rfl, hS, b1⟩
  go_wp2_with fail
  go_ret
  exact ⟨rfl, hS, b1⟩

/-- errors.New. -/
theorem errNew_calls (s : ByteArray) (w : World) : Calls Tryz.prog 64 #[.string s] w fun e w' => (∃ T v, e = .returned (.iface T v)) ∧ Below w.heap.size w w' := by
  go_enter Tryz.func64, Tryz.ntmps64
  go_wp2_with fail
  go_ret
  exact ⟨⟨_, _, rfl⟩, by go_grown⟩

abbrev httpsT : ByteArray := ⟨#[104, 116, 116, 112, 115]⟩
/-- A request's URL: a scheme and a host. -/
def ReqU (g : Nat) (sch host : ByteArray) (w : World) : Prop := w.heap[g]? = some (.cells (urlC sch ⟨#[]⟩ host) 73 (0, 0))

set_option maxRecDepth 100000 in
set_option maxHeartbeats 400000 in
/-- No proxy for the scheme. -/
theorem forURL_none (cb gr : Nat) (hp hsp sch host : ByteArray) (cgi : Bool) (w : World) (S7 : Set7 cb hp hsp cgi w) (R : ReqU gr sch host w)
    (h : (sch.toList = [104, 116, 116, 112] ∧ hp = ⟨#[]⟩) ∨ (sch.toList = [104, 116, 116, 112, 115] ∧ hsp = ⟨#[]⟩) ∨ (sch.toList ≠ [104, 116, 116, 112] ∧ sch.toList ≠ [104, 116, 116, 112, 115])) :
    Calls Tryz.prog 50 #[.pointer (some ⟨cb, 0, none⟩), .pointer (some ⟨gr, 0, none⟩)] w fun e w' => e = .returned (.tuple #[.pointer none, .nilIface]) ∧ w' = w := by
  obtain ⟨u4, u5, hc, p5, p4⟩ := S7
  have r0 := blk_cell R 0
  have c4 := blk_cell hc 4
  have c5 := blk_cell hc 5
  simp only [List.getElem?_toArray, List.getElem?_cons_zero, List.getElem?_cons_succ] at r0 c4 c5
  rcases h with ⟨h1, h2⟩ | ⟨h1, h2⟩ | ⟨h1, h2⟩
  · have hu : u5 = .pointer none := by
      rcases p5 with h | ⟨g, _, _, h⟩
      · exact h.2
      · exact absurd h2 h
    subst hu
    have e1 : (sch.toList == [104, 116, 116, 112, 115]) = false := beq_eq_false_iff_ne.2 (by rw [h1]; decide)
    have e2 : (sch.toList == [104, 116, 116, 112]) = true := beq_iff_eq.2 h1
    clear hc p5 p4 R h1
    go_enter Tryz.func50, Tryz.ntmps50
    go_wp2_with fail
    go_ret2
    exact ⟨rfl, rfl⟩
  · have hu : u4 = .pointer none := by
      rcases p4 with h | ⟨g, _, _, h⟩
      · exact h.2
      · exact absurd h2 h
    subst hu
    have e1 : (sch.toList == [104, 116, 116, 112, 115]) = true := beq_iff_eq.2 h1
    clear hc p5 p4 R h1
    go_enter Tryz.func50, Tryz.ntmps50
    go_wp2_with fail
    go_ret2
    exact ⟨rfl, rfl⟩
  · have e1 : (sch.toList == [104, 116, 116, 112, 115]) = false := beq_eq_false_iff_ne.2 h2
    have e2 : (sch.toList == [104, 116, 116, 112]) = false := beq_eq_false_iff_ne.2 h1
    clear hc p5 p4 R h1
    go_enter Tryz.func50, Tryz.ntmps50
    go_wp2_with fail
    go_ret2
    exact ⟨rfl, rfl⟩

set_option maxRecDepth 100000 in
set_option maxHeartbeats 400000 in
/-- In a CGI handler. -/
theorem forURL_cgi (cb gr : Nat) (hp hsp sch host : ByteArray) (w : World) (S7 : Set7 cb hp hsp true w) (R : ReqU gr sch host w)
    (h1 : sch.toList = [104, 116, 116, 112]) (h2 : hp ≠ ⟨#[]⟩) :
    Calls Tryz.prog 50 #[.pointer (some ⟨cb, 0, none⟩), .pointer (some ⟨gr, 0, none⟩)] w fun e w' => (∃ T v, e = .returned (.tuple #[.pointer none, .iface T v])) ∧ Below w.heap.size w w' := by
  obtain ⟨u4, u5, hc, p5, p4⟩ := S7
  have r0 := blk_cell R 0
  have c3 := blk_cell hc 3
  have c5 := blk_cell hc 5
  simp only [List.getElem?_toArray, List.getElem?_cons_zero, List.getElem?_cons_succ] at r0 c3 c5
  obtain ⟨g, rfl⟩ : ∃ g, u5 = .pointer (some ⟨g, 0, none⟩) := by
    rcases p5 with h | ⟨g, h, _, _⟩
    · exact absurd h.1 h2
    · exact ⟨g, h⟩
  have e1 : (sch.toList == [104, 116, 116, 112, 115]) = false := beq_eq_false_iff_ne.2 (by rw [h1]; decide)
  have e2 : (sch.toList == [104, 116, 116, 112]) = true := beq_iff_eq.2 h1
  clear hc p5 p4 R h1
  go_enter Tryz.func50, Tryz.ntmps50
  go_wp2_with fail
  refine (errNew_calls _ _).mono ?_
  rintro e w1 ⟨⟨T, v, rfl⟩, b1⟩
  go_wp2_with fail
  go_ret2
  exact ⟨⟨_, _, rfl⟩, b1⟩
end Go.Proofs.YtnchgmjeoajmiaaGreatDoor

/-! Urg -/
namespace Go.Proofs.YtnchgmjeoajmiaaGreatDoor
open Go.RowKit Go.Proofs.YtnchgmjeoajmiaaGreatDoorW.PrintWords
set_option linter.unusedSimpArgs false
set_option linter.unusedVariables false

/-- A host's name without a port. -/
structure BareN (s : ByteArray) : Prop where
  size : s.size ≤ 1000000
  colon : Lib.lastIndexByte s 58 = -1
  open_ : Lib.hasPrefix s.data.toList [91] = false
  first : Lib.indexByte s.data.toList (58 : Int).toNat.toUInt8 = -1
  ascii : Ascii s

set_option maxRecDepth 100000 in
set_option maxHeartbeats 400000 in
theorem splitHP_name (s : ByteArray) (w : World) (h : BareN s) : Calls Tryz.prog 136 #[.string s] w fun e w' => e = .returned (.tuple #[.string s, .string ⟨#[]⟩]) ∧ w' = w := by
  have hs := h.size
  have ho := h.open_
  have H := Aside0.mk h
  clear h
  go_enter Tryz.func136, Tryz.ntmps136
  go_wp2_with fail
  refine (Tryz.strings_LastIndexByte s 58 (by omega) _).mono ?_
  rw [H.out.colon]
  rintro e w1 ⟨rfl, rfl⟩
  go_wp2_with fail
  refine (Tryz.strings_HasPrefix s ⟨#[91]⟩ _).mono ?_
  rw [show (⟨#[91]⟩ : ByteArray).data.toList = [91] from rfl, ho]
  rintro e w2 ⟨rfl, rfl⟩
  go_wp2_with fail
  go_ret2
  exact ⟨rfl, rfl⟩

theorem hostname_ok (gr : Nat) (sch s : ByteArray) (w : World) (R : ReqU gr sch s w) (h : BareN s) : Calls Tryz.prog 101 #[.pointer (some ⟨gr, 0, none⟩)] w fun e w' => e = .returned (.string s) ∧ w' = w := by
  have r3 := blk_cell R 3
  simp only [List.getElem?_toArray, List.getElem?_cons_zero, List.getElem?_cons_succ] at r3
  clear R
  go_enter Tryz.func101, Tryz.ntmps101
  go_wp2_with fail
  refine (splitHP_name s _ h).mono ?_
  rintro e w1 ⟨rfl, rfl⟩
  go_wp2_with fail
  go_ret
  exact ⟨rfl, rfl⟩
theorem port_none (gr : Nat) (sch s : ByteArray) (w : World) (R : ReqU gr sch s w) (h : BareN s) : Calls Tryz.prog 102 #[.pointer (some ⟨gr, 0, none⟩)] w fun e w' => e = .returned (.string ⟨#[]⟩) ∧ w' = w := by
  have r3 := blk_cell R 3
  simp only [List.getElem?_toArray, List.getElem?_cons_zero, List.getElem?_cons_succ] at r3
  clear R
  go_enter Tryz.func102, Tryz.ntmps102
  go_wp2_with fail
  refine (splitHP_name s _ h).mono ?_
  rintro e w1 ⟨rfl, rfl⟩
  go_wp2_with fail
  go_ret
  exact ⟨rfl, rfl⟩

set_option maxRecDepth 100000 in
set_option maxHeartbeats 400000 in
theorem join_ok (s t : ByteArray) (w : World) (h : BareN s) (ht : t.size ≤ 1000) : Calls Tryz.prog 103 #[.string s, .string t] w fun e w' => e = .returned (.string (s ++ ⟨#[58]⟩ ++ t)) ∧ w' = w := by
  have hs := h.size
  have i0 := h.first
  have hz : (⟨#[58]⟩ : ByteArray).size = 1 := rfl
  clear h
  go_enter Tryz.func103, Tryz.ntmps103
  go_wp2_with fail
  refine (Tryz.strings_IndexByte s 58 _).mono ?_
  rw [i0]
  rintro e w1 ⟨rfl, rfl⟩
  go_wp2_with fail
  go_ret
  exact ⟨rfl, rfl⟩

/-- The ports of the two schemes, in the listed variable. -/
def PM (w : World) : Prop := ∃ r es clock, w.cell? ⟨3, 0, none⟩ = some (.map (some r)) ∧ w.heap[r]? = some (.map es clock) ∧
  ∀ w' : World, w'.heap[r]? = some (.map es clock) → ∀ k v, (k = httpT ∧ v = (⟨#[56, 48]⟩ : ByteArray)) ∨ (k = httpsT ∧ v = (⟨#[52, 52, 51]⟩ : ByteArray)) → (Instr.lookup 166 (.map (some r)) (.string k) false).run Tryz.prog w' = .ok (.string v) w'
theorem PM.below {w w' : World} (h : PM w) (hb : Below w.heap.size w w') : PM w' := by
  obtain ⟨r, es, clock, h1, h2, h3⟩ := h
  exact ⟨r, es, clock, cell_on hb h1, (hb.block r (blk_lt h2)).trans h2, h3⟩

set_option maxRecDepth 100000 in
set_option maxHeartbeats 400000 in
theorem canonical_ok (gr : Nat) (sch s v : ByteArray) (w : World) (R : ReqU gr sch s w) (h : BareN s) (pm : PM w) (hv : (sch = httpT ∧ v = (⟨#[56, 48]⟩ : ByteArray)) ∨ (sch = httpsT ∧ v = (⟨#[52, 52, 51]⟩ : ByteArray))) (hl : v.size ≤ 1000) :
    Calls Tryz.prog 65 #[.pointer (some ⟨gr, 0, none⟩)] w fun e w' => e = .returned (.string (s ++ ⟨#[58]⟩ ++ v)) ∧ Below w.heap.size w w' := by
  have H := Aside0.mk h
  have RR := Aside0.mk R
  have hs := h.size
  obtain ⟨r, es, clock, m1, m2, m3⟩ := pm
  clear h R
  go_enter Tryz.func65, Tryz.ntmps65
  go_wp2_with fail
  refine (hostname_ok gr sch s _ RR.out H.out).mono ?_
  rintro e w1 ⟨rfl, rfl⟩
  go_wp2_with fail
  refine (idna_ok s _ (by omega) H.out.ascii).mono ?_
  rintro e w2 ⟨rfl, ⟨n, rfl⟩⟩
  go_wp2_with fail
  refine (port_none gr sch s _ (by exact RR.out) H.out).mono ?_
  rintro e w3 ⟨rfl, rfl⟩
  have r0 := blk_cell RR.out 0
  simp only [List.getElem?_toArray, List.getElem?_cons_zero, List.getElem?_cons_succ] at r0
  have lk := fun (x : World) (hx : x.heap[r]? = some (.map es clock)) => m3 x hx sch v hv
  have k0 := lk (w1.drewN n) m2
  go_wp2_with fail
  go_region_held3 (fun w' => w'.cell? ⟨gr, 0, none⟩ = some (.string sch) ∧ w'.cell? ⟨3, 0, none⟩ = some (.map (some r)) ∧ (Instr.lookup 166 (.map (some r)) (.string sch) false).run Tryz.prog w' = .ok (.string v) w')
    (first | exact ⟨r0, m1, lk _ m2⟩)
    (first | fail)
  go_wp2_with fail
  refine (join_ok s v _ H.out hl).mono ?_
  rintro e w4 ⟨rfl, rfl⟩
  go_wp2_with fail
  go_ret
  exact ⟨rfl, pw_below_drewN (Below.refl _ _) _⟩
end Go.Proofs.YtnchgmjeoajmiaaGreatDoor

/-! Urh -/
namespace Go.Proofs.YtnchgmjeoajmiaaGreatDoor
open Go.RowKit Go.Proofs.YtnchgmjeoajmiaaGreatDoorW.PrintWords
set_option linter.unusedSimpArgs false
set_option linter.unusedVariables false

theorem Set7.cf {cb : Nat} {hp hsp : ByteArray} {cgi : Bool} {w : World} (B : Nat) (h : Set7 cb hp hsp cgi w) : ∃ x0 x1 x2 x3 x4 x5, CF B cb x0 x1 x2 x3 x4 x5 [] [] w := by
  obtain ⟨u4, u5, h1, _, _⟩ := h
  exact ⟨_, _, _, _, _, _, _, _, h1, Ms.nil _ _, Ms.nil _ _, fun g hg => by simp [Value.ownBlock] at hg⟩

/-- The call hands back an URL that was there. -/
def OldUrl (sch opq host : ByteArray) (w : World) (e : Ending) (w' : World) : Prop :=
  ∃ g, e = .returned (.tuple #[.pointer (some ⟨g, 0, none⟩), .nilIface]) ∧ w'.heap[g]? = some (.cells (urlC sch opq host) 73 (0, 0)) ∧ Below w.heap.size w w'
/-- The proxy of a scheme. -/
def Prox (hp hsp sch v p : ByteArray) (cgi : Bool) : Prop := (sch = httpT ∧ v = (⟨#[56, 48]⟩ : ByteArray) ∧ p = hp ∧ cgi = false) ∨ (sch = httpsT ∧ v = (⟨#[52, 52, 51]⟩ : ByteArray) ∧ p = hsp)

set_option maxRecDepth 100000 in
set_option maxHeartbeats 400000 in
/-- Behind the choice of the proxy. -/
theorem forURL_use (p4 p6 : Addr) (cb gr : Nat) (hp hsp sch s v low p : ByteArray) (cgi : Bool) (w : World) (G : GW p4 p6 w) (pm : PM w) (S7 : Set7 cb hp hsp cgi w) (R : ReqU gr sch s w) (h : BareN s) (hx : Prox hp hsp sch v p cgi) (hne : p ≠ ⟨#[]⟩)
    (hs : NameAddr (s ++ ⟨#[58]⟩ ++ v) s v low) (hloc : s.toList ≠ [108, 111, 99, 97, 108, 104, 111, 115, 116]) :
    Calls Tryz.prog 50 #[.pointer (some ⟨cb, 0, none⟩), .pointer (some ⟨gr, 0, none⟩)] w (OldUrl httpT ⟨#[]⟩ p w) := by
  obtain ⟨x0, x1, x2, x3, x4, x5, cf⟩ := S7.cf 0
  obtain ⟨u4, u5, hc, p5, p4'⟩ := S7
  have r0 := blk_cell R 0
  have c3 := blk_cell hc 3
  have c4 := blk_cell hc 4
  have c5 := blk_cell hc 5
  simp only [List.getElem?_toArray, List.getElem?_cons_zero, List.getElem?_cons_succ] at r0 c3 c4 c5
  have hv : (sch = httpT ∧ v = (⟨#[56, 48]⟩ : ByteArray)) ∨ (sch = httpsT ∧ v = (⟨#[52, 52, 51]⟩ : ByteArray)) := by
    rcases hx with h | h
    · exact .inl ⟨h.1, h.2.1⟩
    · exact .inr ⟨h.1, h.2.1⟩
  have hl : v.size ≤ 1000 := by rcases hv with h | h <;> (rw [h.2]; decide)
  have CA := Aside0.mk (canonical_ok gr sch s v w R h pm hv hl)
  have UA := Aside0.mk (show ∀ w1 : World, Below w.heap.size w w1 → Calls Tryz.prog 48 #[.pointer (some ⟨cb, 0, none⟩), .string (s ++ ⟨#[58]⟩ ++ v)] w1 fun e w' => e = .returned (.bool true) ∧ Below w1.heap.size w1 w' from fun w1 b1 => by
    have := use_name p4 p6 0 cb x0 x1 x2 x3 x4 x5 [] [] w1 _ s v low (G.below b1) (cf.below b1) hs hloc (fun m hm => by simp at hm) (by decide)
    simpa using this)
  rcases hx with ⟨rfl, rfl, rfl, rfl⟩ | ⟨rfl, rfl, rfl⟩
  · obtain ⟨g, rfl, hg, _⟩ : ∃ g, u5 = .pointer (some ⟨g, 0, none⟩) ∧ w.heap[g]? = some (.cells (urlC httpT ⟨#[]⟩ p) 73 (0, 0)) ∧ p ≠ ⟨#[]⟩ := by
      rcases p5 with h | h
      · exact absurd h.1 hne
      · exact h
    have HG := Aside0.mk hg
    clear hc p5 p4' R h hg hv hl pm G hs hloc cf c4 hne
    go_enter Tryz.func50, Tryz.ntmps50
    go_wp2_with fail
    refine CA.out.mono ?_
    rintro e w1 ⟨rfl, b1⟩
    go_wp2_with fail
    refine (UA.out w1 b1).mono ?_
    rintro e w2 ⟨rfl, b2⟩
    have B2 := bel_then b1 b2
    go_wp2_with fail
    go_ret2
    exact ⟨g, rfl, (B2.block g (blk_lt HG.out)).trans HG.out, B2⟩
  · obtain ⟨g, rfl, hg, _⟩ : ∃ g, u4 = .pointer (some ⟨g, 0, none⟩) ∧ w.heap[g]? = some (.cells (urlC httpT ⟨#[]⟩ p) 73 (0, 0)) ∧ p ≠ ⟨#[]⟩ := by
      rcases p4' with h | h
      · exact absurd h.1 hne
      · exact h
    have HG := Aside0.mk hg
    clear hc p5 p4' R h hg hv hl pm G hs hloc cf c5 c3 hne
    go_enter Tryz.func50, Tryz.ntmps50
    go_wp2_with fail
    refine CA.out.mono ?_
    rintro e w1 ⟨rfl, b1⟩
    go_wp2_with fail
    refine (UA.out w1 b1).mono ?_
    rintro e w2 ⟨rfl, b2⟩
    have B2 := bel_then b1 b2
    go_wp2_with fail
    go_ret2
    exact ⟨g, rfl, (B2.block g (blk_lt HG.out)).trans HG.out, B2⟩

theorem results_four {fn : Func} {t u v z : Tmp} (h : fn.results = #[.tmp t, .tmp u, .tmp v, .tmp z]) (tmps : Array Value) (P : Program) (w : World) :
    (results fn tmps).run P w = .ok (.tuple #[tmps.getD t undef, tmps.getD u undef, tmps.getD v undef, tmps.getD z undef]) w := by
  simp [results, h]

/-- What a call of the proxy's function hands back. -/
inductive Said | nix | err | url (p : ByteArray)
def Said.end_ : Said → Ending → World → Prop
  | .nix, e, w => e = .returned (.tuple #[.pointer none, .nilIface])
  | .err, e, w => ∃ T v, e = .returned (.tuple #[.pointer none, .iface T v])
  | .url p, e, w => ∃ g, e = .returned (.tuple #[.pointer (some ⟨g, 0, none⟩), .nilIface]) ∧ w.heap[g]? = some (.cells (urlC httpT ⟨#[]⟩ p) 73 (0, 0))
def Said.out : Said → Ending → Prop
  | .nix, e => e = .returned (.tuple #[.string ⟨#[]⟩, .string ⟨#[]⟩, .bool false, .nilIface])
  | .err, e => ∃ T v, e = .returned (.tuple #[.string ⟨#[]⟩, .string ⟨#[]⟩, .bool false, .iface T v])
  | .url p, e => e = .returned (.tuple #[.string httpT, .string p, .bool true, .nilIface])

set_option maxRecDepth 100000 in
set_option maxHeartbeats 400000 in
theorem zzProxyFor_calls (x : Said) (p4 p6 : Addr) (cg : Nat) (hp hsp sch s : ByteArray) (cgi : Bool) (w : World) (G : GW p4 p6 w) (U : UT w) (P1 : ProxyP hp) (P2 : ProxyP hsp) (hc : w.heap[cg]? = some (.cells #[.string hp, .string hsp, .string ⟨#[]⟩, .bool cgi] 57 (0, 0)))
    (hx : ∀ cb gr w1, Below w.heap.size w w1 → Set7 cb hp hsp cgi w1 → ReqU gr sch s w1 → Calls Tryz.prog 50 #[.pointer (some ⟨cb, 0, none⟩), .pointer (some ⟨gr, 0, none⟩)] w1 fun e w' => x.end_ e w' ∧ Below w1.heap.size w1 w') :
    Calls Tryz.prog 39 #[.pointer (some ⟨cg, 0, none⟩), .string sch, .string s] w fun e w' => x.out e ∧ Below w.heap.size w w' := by
  have HX := Aside0.mk hx
  clear hx
  go_enter Tryz.func39, Tryz.ntmps39
  go_wp2_with fail
  refine (proxyFunc_calls p4 p6 cg hp hsp cgi w G U P1 P2 hc).mono ?_
  rintro e w1 ⟨rfl, S7, b1⟩
  clear P1 P2 hc G U
  go_wp2_with fail
  have B2 : Below w.heap.size w (w1.alloc (.cells (urlC sch ⟨#[]⟩ s) 73)) := b1.alloc b1.size _
  have B1' : Below w1.heap.size w1 (w1.alloc (.cells (urlC sch ⟨#[]⟩ s) 73)) := by go_grown
  refine (HX.out w.heap.size w1.heap.size _ B2 (S7.below B1') (heap1 w1 _)).mono ?_
  rintro e w2 ⟨hs, b2⟩
  have B3 := bel_then B2 b2
  clear B2 B1' b2 b1 S7 HX
  obtain h | h | ⟨p, h⟩ : x = .nix ∨ x = .err ∨ ∃ p, x = .url p := by cases x <;> simp
  · rw [h] at hs
    obtain rfl := hs
    go_wp2_with fail
    refine bodyPost_ret (results_four rfl _ _ _) rfl ?_
    exact ⟨by rw [h]; exact rfl, B3⟩
  · rw [h] at hs
    obtain ⟨T, v, rfl⟩ := hs
    go_wp2_with fail
    refine bodyPost_ret (results_four rfl _ _ _) rfl ?_
    exact ⟨by rw [h]; exact ⟨T, v, rfl⟩, B3⟩
  · rw [h] at hs
    obtain ⟨g, rfl, hg⟩ := hs
    have c0 := blk_cell hg 0
    have c3 := blk_cell hg 3
    simp only [List.getElem?_toArray, List.getElem?_cons_zero, List.getElem?_cons_succ] at c0 c3
    clear hg
    go_wp2_with fail
    go_region_held3 (fun w' => w'.cell? ⟨g, 0, none⟩ = some (.string httpT) ∧ w'.cell? ⟨g, 3, none⟩ = some (.string p))
      (first | exact ⟨c0, c3⟩)
      (first | fail)
    go_wp2_with fail
    refine bodyPost_ret (results_four rfl _ _ _) rfl ?_
    exact ⟨by rw [h]; exact rfl, pw_below_drewN B3 1⟩

/-- ProxyFor's four results. -/
def Said.four : Said → Ending → Prop
  | .nix, e => e = .returned (.tuple #[.string ⟨#[]⟩, .string ⟨#[]⟩, .bool false, .bool true])
  | .err, e => e = .returned (.tuple #[.string ⟨#[]⟩, .string ⟨#[]⟩, .bool false, .bool false])
  | .url p, e => e = .returned (.tuple #[.string httpT, .string p, .bool true, .bool true])

set_option maxRecDepth 100000 in
set_option maxHeartbeats 400000 in
theorem proxyFor_calls (x : Said) (p4 p6 : Addr) (hp hsp sch s : ByteArray) (cgi : Bool) (w : World) (G : GW p4 p6 w) (U : UT w) (P1 : ProxyP hp) (P2 : ProxyP hsp)
    (hx : ∀ cb gr w1, Below w.heap.size w w1 → Set7 cb hp hsp cgi w1 → ReqU gr sch s w1 → Calls Tryz.prog 50 #[.pointer (some ⟨cb, 0, none⟩), .pointer (some ⟨gr, 0, none⟩)] w1 fun e w' => x.end_ e w' ∧ Below w1.heap.size w1 w') :
    Calls Tryz.prog 18 #[.agg #[.string hp, .string hsp, .string ⟨#[]⟩, .bool cgi], .string sch, .string s] w fun e w' => x.four e ∧ Below w.heap.size w w' := by
  have HX := Aside0.mk hx
  have GA := Aside0.mk G
  have UA := Aside0.mk U
  have PA := Aside0.mk P1
  have PB := Aside0.mk P2
  clear hx G U P1 P2
  go_enter Tryz.func18, Tryz.ntmps18
  go_wp2_with fail
  have B2 : Below w.heap.size w ((w.alloc (.cells #[.string hp, .string hsp, .string ⟨#[]⟩, .bool cgi] 25)).alloc (.cells #[.string hp, .string hsp, .string ⟨#[]⟩, .bool cgi] 57)) := by go_grown
  refine (zzProxyFor_calls x p4 p6 (w.heap.size + 1) hp hsp sch s cgi _ (GA.out.below B2) (UA.out.below B2) PA.out PB.out (heap2 w _ _) fun cb gr w1 b h1 h2 => HX.out cb gr w1 (bel_then B2 b) h1 h2).mono ?_
  rintro e w2 ⟨hs, b2⟩
  have B3 := bel_then B2 b2
  clear B2 b2 HX GA UA PA PB
  obtain h | h | ⟨p, h⟩ : x = .nix ∨ x = .err ∨ ∃ p, x = .url p := by cases x <;> simp
  · rw [h] at hs
    obtain rfl := hs
    go_wp2_with fail
    refine bodyPost_ret (results_four rfl _ _ _) rfl ?_
    exact ⟨by rw [h]; exact rfl, B3⟩
  · rw [h] at hs
    obtain ⟨T, v, rfl⟩ := hs
    go_wp2_with fail
    refine bodyPost_ret (results_four rfl _ _ _) rfl ?_
    exact ⟨by rw [h]; exact rfl, B3⟩
  · rw [h] at hs
    obtain rfl := hs
    go_wp2_with fail
    refine bodyPost_ret (results_four rfl _ _ _) rfl ?_
    exact ⟨by rw [h]; exact rfl, B3⟩
end Go.Proofs.YtnchgmjeoajmiaaGreatDoor

/-! Txu -/
namespace Go.Proofs.YtnchgmjeoajmiaaGreatDoor
open Go.RowKit Go.Proofs.YtnchgmjeoajmiaaGreatDoorW.PrintWords
set_option linter.unusedSimpArgs false
set_option linter.unusedVariables false

theorem nIdx_eq : ∀ (k : Nat) (a b : ByteArray) (i : Int), N.neturl_zzIndex.l0 k a b i = P.netcidr_zzIndex.l0 k a b i
  | 0, _, _, _ => rfl
  | k + 1, a, b, i => by
    unfold N.neturl_zzIndex.l0 P.netcidr_zzIndex.l0
    rw [nIdx_eq k]

theorem nIdx_none {l : List UInt8} {c : UInt8} (h : No c.toNat l) (hl : l.length ≤ 1000000000) : N.neturl_zzIndex.f (l.length + 1) (MK l) (MK [c]) = some (-1) := by
  unfold N.neturl_zzIndex.f
  rw [nIdx_eq, show (0 : Int) = ((0 : Nat) : Int) from rfl, cutIndex_none c l.length (l.length + 1) l 0 (by omega) (by omega) hl (fun m _ => no_get (c := c) h m)]
theorem nIdx_at {a t : List UInt8} {c : UInt8} (h : No c.toNat a) (hl : a.length + t.length ≤ 1000000) : N.neturl_zzIndex.f (a.length + 1) (MK (a ++ [c] ++ t)) (MK [c]) = some (a.length : Int) := by
  unfold N.neturl_zzIndex.f
  rw [nIdx_eq, show (0 : Int) = ((0 : Nat) : Int) from rfl, cutIndex_some c a.length (a.length + 1) (a ++ [c] ++ t) 0 a.length (by omega) (by omega) (by simp) (by simp; omega) (fun m _ hm => by
    rw [List.append_assoc, List.getElem?_append_left hm]
    exact no_get (c := c) h m) (by simp)]
theorem nCut_none {l : List UInt8} {c : UInt8} (h : No c.toNat l) (hl : l.length ≤ 1000000000) : ∃ k, N.neturl_zzCut.f k (MK l) (MK [c]) = some (MK l, ⟨#[]⟩, false) := by
  refine ⟨l.length + 1, ?_⟩
  unfold N.neturl_zzCut.f
  rw [nIdx_none h hl]
  simp only [Option.bind_some]
  rw [if_neg (by decide)]

/-- No control byte. -/
theorem ctl_none (l : List UInt8) (hl : l.length ≤ 1000000000) (hall : ∀ b ∈ l, 32 ≤ b.toNat ∧ b.toNat < 127) : ∃ k, N.neturl_stringContainsCTLByte.f k (MK l) = some false := by
  have key : ∀ (d k i : Nat), l.length = i + d → d < k → N.neturl_stringContainsCTLByte.l0 k (MK l) (i : Int) = some false := by
    intro d
    induction d with
    | zero =>
      intro k i hi hk
      obtain ⟨k, rfl⟩ : ∃ m, k = m + 1 := ⟨k - 1, by omega⟩
      unfold N.neturl_stringContainsCTLByte.l0
      rw [if_neg (by rw [MK_size]; omega)]
    | succ d ih =>
      intro k i hi hk
      obtain ⟨k, rfl⟩ : ∃ m, k = m + 1 := ⟨k - 1, by omega⟩
      unfold N.neturl_stringContainsCTLByte.l0
      have hb := bt_MK l i (by omega)
      have := hall _ (List.getElem_mem (show i < l.length by omega))
      have ew : wrap64 ((i : Int) + 1) = ((i + 1 : Nat) : Int) := by unfold wrap64; omega
      rw [if_pos (by rw [MK_size]; omega), if_pos (by omega), hb, if_neg (by omega), if_neg (by omega), ew]
      exact ih k (i + 1) (by omega) (by omega)
  exact ⟨l.length + 1, by
    unfold N.neturl_stringContainsCTLByte.f
    exact key l.length _ 0 (by omega) (by omega)⟩

/-- The bytes of 'name:port'. -/
theorem np_all {nm p : List UInt8} (h : Nm nm) (hp : Pt p) : ∀ b ∈ nm ++ [58] ++ p, (97 ≤ b.toNat ∧ b.toNat ≤ 122) ∨ (48 ≤ b.toNat ∧ b.toNat ≤ 57) ∨ b.toNat = 45 ∨ b.toNat = 46 ∨ b.toNat = 58 := fun b hb => by
  rcases List.mem_append.1 hb with hb | hb
  · rcases List.mem_append.1 hb with hb | hb
    · have := h.all b hb; omega
    · simp at hb; subst hb; decide
  · have := hp.dig b hb; omega
theorem np_len {nm p : List UInt8} (h : Nm nm) (hp : Pt p) : (nm ++ [58] ++ p).length ≤ 106 := by
  have := h.len; have := hp.five; simp; omega
theorem No_np {nm p : List UInt8} (h : Nm nm) (hp : Pt p) (c : Nat) (hc : ¬ ((97 ≤ c ∧ c ≤ 122) ∨ (48 ≤ c ∧ c ≤ 57) ∨ c = 45 ∨ c = 46 ∨ c = 58)) : No c (nm ++ [58] ++ p) := fun b hb e => by
  have := np_all h hp b hb; omega

/-- A word, a colon, the rest. -/
theorem sch_of {a t : List UInt8} {x : UInt8} {u : List UInt8} (he : a = x :: u) (hx : 97 ≤ x.toNat ∧ x.toNat ≤ 122) (hall : ∀ b ∈ a, (97 ≤ b.toNat ∧ b.toNat ≤ 122) ∨ (48 ≤ b.toNat ∧ b.toNat ≤ 57) ∨ b.toNat = 45 ∨ b.toNat = 46) (hl : (a ++ [58] ++ t).length ≤ 1000000) :
    Sch (MK (a ++ [58] ++ t)) (a.length : Int) := by
  have hsz := MK_size (a ++ [58] ++ t)
  have hlen : (a ++ [58] ++ t).length = a.length + 1 + t.length := by simp; omega
  have hpos : 0 < a.length := by rw [he]; simp
  refine ⟨by omega, by omega, by omega, ?_, ?_, fun i h0 h1 => ?_⟩
  · rw [bt_MK _ a.length (by omega)]; simp
  · have := bt_MK (a ++ [58] ++ t) 0 (by omega)
    have e : (a ++ [58] ++ t)[0]'(by omega) = x := by simp [he]
    rw [e] at this
    have h0 : ((0 : Nat) : Int) = 0 := rfl
    rw [h0] at this
    rw [this]; omega
  · obtain ⟨j, rfl⟩ : ∃ j : Nat, i = j := ⟨i.toNat, by omega⟩
    rw [bt_MK _ j (by omega)]
    have e : (a ++ [58] ++ t)[j]'(by omega) = a[j]'(by omega) := by
      rw [List.getElem_append_left (by simp; omega), List.getElem_append_left (by omega)]
    rw [e]
    have := hall _ (List.getElem_mem (show j < a.length by omega))
    omega

theorem ex_head (a t : List UInt8) : (MK (a ++ [58] ++ t)).extract 0 a.length = MK a := by
  rw [extract_MK, List.drop_zero, Nat.sub_zero, List.append_assoc, List.take_left]
theorem ex_tail (a t : List UInt8) : (MK (a ++ [58] ++ t)).extract (a.length + 1) (MK (a ++ [58] ++ t)).size = MK t := by
  rw [extract_MK, MK_size]
  congr 1
  rw [show a.length + 1 = (a ++ [58]).length by simp, List.drop_left, List.take_of_length_le (by simp; omega)]

theorem no_suffix {l : List UInt8} {c : UInt8} (h : No c.toNat l) : Lib.hasSuffix l [c] = false := by
  unfold Lib.hasSuffix
  rw [Bool.eq_false_iff]
  intro e
  obtain ⟨t, ht⟩ := List.isSuffixOf_iff_suffix.1 e
  exact h c (by rw [← ht]; simp) rfl
theorem no_prefix {l : List UInt8} {c : UInt8} (h : No c.toNat l) : Lib.hasPrefix l [c] = false := by
  unfold Lib.hasPrefix
  rw [Bool.eq_false_iff]
  intro e
  obtain ⟨t, ht⟩ := List.isPrefixOf_iff_prefix.1 e
  exact h c (by rw [← ht]; simp) rfl

theorem urlA_np {nm p : List UInt8} (h : Nm nm) (hp : Pt p) : UrlA (MK (nm ++ [58] ++ p)) (MK nm) (MK p) (nm.length : Int) := by
  obtain ⟨x, u, he, hx⟩ := h.head
  have hl := np_len h hp
  have h1 := h.len
  have h5 := hp.five
  refine ⟨sch_of he hx h.all (by omega), by rw [MK_size]; omega, ctl_none _ (by omega) (fun b hb => by have := np_all h hp b hb; omega), ?_, ?_, ?_, ?_, by rw [MK_size]; omega, by rw [MK_size]; omega, ?_, ?_, no_suffix (hp.no 63 (by decide)), nCut_none (hp.no 63 (by decide)) (by omega), no_prefix (hp.no 47 (by decide)), ?_⟩
  · rw [toList_MK]; simp
  · rw [toList_MK]
    intro e
    have := No_np h hp 42 (by decide) 42 (by rw [e]; simp)
    exact this rfl
  · rw [Int.toNat_natCast]; exact ex_head nm p
  · rw [show ((nm.length : Int) + 1).toNat = nm.length + 1 by omega]; exact ex_tail nm p
  · intro j b hb
    have := h.all b (List.mem_of_getElem? hb)
    omega
  · show MK (nm.map Lib.lowerB) = MK nm
    rw [h.lower]
  · rw [toList_MK]; exact h.ne

theorem host_np {nm p : List UInt8} (h : Nm nm) (hp : Pt p) : HostP (MK (nm ++ [58] ++ p)) (MK p) nm.length := by
  have hl := np_len h hp
  have h1 := h.len
  have h5 := hp.five
  have hlen : (nm ++ [58] ++ p).length = nm.length + 1 + p.length := by simp; omega
  have hex : (MK (nm ++ [58] ++ p)).extract nm.length (MK (nm ++ [58] ++ p)).size = MK ([58] ++ p) := by
    rw [extract_MK, MK_size]
    congr 1
    rw [List.append_assoc, List.drop_left, List.take_of_length_le (by simp)]
  refine ⟨by rw [MK_size]; omega, by rw [MK_size]; omega, fun i h0 h1 => ?_, ⟨nm.length + 1, nIdx_at (a := nm) (t := p) (c := 58) (fun b hb => ?_) (by omega)⟩, ?_, lastIndex_none (c := 91) (No_np h hp 91 (by decide)), lastIndex_none (c := 64) (No_np h hp 64 (by decide)), ?_, ?_, fun i hi => ?_⟩
  · rw [MK_size] at h1
    obtain ⟨b, hb, e⟩ := bt_mem h0 h1
    rw [e]
    have := np_all h hp b hb
    unfold HostB
    omega
  · have := h.all b hb
    show b.toNat ≠ 58
    omega
  · exact lastIndex_at (a := nm) (t := p) (c := 58) (hp.no 58 (by decide))
  · rw [hex]
    exact MK_first (h := [58] ++ p) (x := 58) (t := p) rfl
  · rw [hex, extract_MK, MK_size]
    congr 1
    simp
  · have hi' : i < p.length := by rw [MK_size] at hi; exact hi
    have := hp.dig _ (List.getElem_mem hi')
    exact this

abbrev httpP : List UInt8 := [104, 116, 116, 112]
theorem urlH_np {nm p : List UInt8} (h : Nm nm) (hp : Pt p) : UrlH (MK (httpP ++ [58] ++ ([47, 47] ++ (nm ++ [58] ++ p)))) (MK ([47, 47] ++ (nm ++ [58] ++ p))) (MK (nm ++ [58] ++ p)) (MK p) nm.length := by
  have hl := np_len h hp
  have hlen : (httpP ++ [58] ++ ([47, 47] ++ (nm ++ [58] ++ p))).length = 7 + (nm ++ [58] ++ p).length := by simp; omega
  have hlen2 : ([47, 47] ++ (nm ++ [58] ++ p)).length = 2 + (nm ++ [58] ++ p).length := by simp; omega
  have hnq : ∀ c : Nat, c ≠ 47 → (¬ ((97 ≤ c ∧ c ≤ 122) ∨ (48 ≤ c ∧ c ≤ 57) ∨ c = 45 ∨ c = 46 ∨ c = 58)) → No c ([47, 47] ++ (nm ++ [58] ++ p)) := fun c hc hc2 b hb => by
    rcases List.mem_append.1 hb with hb | hb
    · simp at hb; subst hb; exact fun e => hc e.symm
    · exact No_np h hp c hc2 b hb
  refine ⟨sch_of (a := httpP) (x := 104) (u := [116, 116, 112]) rfl (by decide) (by decide) (by omega), by rw [MK_size]; omega, ctl_none _ (by omega) (fun b hb => ?_), ?_, ?_, ex_head httpP _, ex_tail httpP _, by rw [MK_size]; omega, no_suffix (hnq 63 (by decide) (by decide)), nCut_none (hnq 63 (by decide) (by decide)) (by omega), ?_, ?_, by rw [MK_size]; omega, ?_, ⟨_, nIdx_none (c := 47) (No_np h hp 47 (by decide)) (by omega)⟩, host_np h hp⟩
  · rcases List.mem_append.1 hb with hb | hb
    · have : ∀ b ∈ httpP ++ [58], 32 ≤ b.toNat ∧ b.toNat < 127 := by decide
      exact this b hb
    · rcases List.mem_append.1 hb with hb | hb
      · simp at hb; subst hb; decide
      · have := np_all h hp b hb; omega
  · rw [toList_MK]; simp
  · rw [toList_MK]; simp
  · simp [Lib.hasPrefix, List.isPrefixOf]
  · simp [Lib.hasPrefix, List.isPrefixOf]
  · rw [extract_MK, MK_size]
    congr 1
    rw [show 2 = ([47, 47] : List UInt8).length from rfl, List.drop_left, List.take_of_length_le (by simp)]

theorem http_pre {nm p : List UInt8} : (⟨#[104, 116, 116, 112, 58, 47, 47]⟩ : ByteArray) ++ MK (nm ++ [58] ++ p) = MK (httpP ++ [58] ++ ([47, 47] ++ (nm ++ [58] ++ p))) := by
  rw [show (⟨#[104, 116, 116, 112, 58, 47, 47]⟩ : ByteArray) = MK [104, 116, 116, 112, 58, 47, 47] from rfl, MK_append]
  congr 1

theorem proxyT_np {nm p : List UInt8} (h : Nm nm) (hp : Pt p) : ProxyT (MK (nm ++ [58] ++ p)) (MK nm) (MK p) (MK ([47, 47] ++ (nm ++ [58] ++ p))) (MK p) (nm.length : Int) nm.length := by
  have hl := np_len h hp
  refine ⟨urlA_np h hp, nCut_none (c := 35) (No_np h hp 35 (by decide)) (by omega), ?_, ?_⟩
  · rw [http_pre]; exact urlH_np h hp
  · rw [http_pre]
    refine nCut_none (c := 35) (fun b hb => ?_) (by simp; have := h.len; have := hp.five; omega)
    rcases List.mem_append.1 hb with hb | hb
    · have : ∀ b ∈ httpP ++ [58], b.toNat ≠ 35 := by decide
      exact this b hb
    · rcases List.mem_append.1 hb with hb | hb
      · simp at hb; subst hb; decide
      · have := np_all h hp b hb
        show b.toNat ≠ 35
        omega

theorem proxyP_np {nm p : List UInt8} (h : Nm nm) (hp : Pt p) : ProxyP (MK (nm ++ [58] ++ p)) := proxyP_named (proxyT_np h hp)
theorem np_ne (nm p : List UInt8) : MK (nm ++ [58] ++ p) ≠ ⟨#[]⟩ := fun e => by
  have := congrArg BL e
  rw [BL_MK] at this
  have h2 : BL (⟨#[]⟩ : ByteArray) = [] := rfl
  rw [h2] at this
  simp at this

theorem bareN_nm {nm : List UInt8} (h : Nm nm) : BareN (MK nm) := by
  have h1 := h.len
  have no : ∀ c : Nat, (¬ ((97 ≤ c ∧ c ≤ 122) ∨ (48 ≤ c ∧ c ≤ 57) ∨ c = 45 ∨ c = 46)) → No c nm := fun c hc b hb e => by have := h.all b hb; omega
  refine ⟨by rw [MK_size]; omega, lastIndex_none (c := 58) (no 58 (by decide)), no_prefix (c := 91) (no 91 (by decide)), indexByte_none (c := 58) (by decide) (no 58 (by decide)), fun i h0 h1 => ?_⟩
  rw [MK_size] at h1
  obtain ⟨b, hb, e⟩ := bt_mem h0 h1
  rw [e]
  have := h.all b hb
  omega
end Go.Proofs.YtnchgmjeoajmiaaGreatDoor

/-! Uri -/
namespace Go.Proofs.YtnchgmjeoajmiaaGreatDoor
open Go.RowKit Go.Proofs.YtnchgmjeoajmiaaGreatDoorW.PrintWords
set_option linter.unusedSimpArgs false
set_option linter.unusedVariables false

/-- Either no proxy, or that of a name with a port. -/
def PT (x : ByteArray) : Prop := x = ⟨#[]⟩ ∨ ∃ nm p, Nm nm ∧ Pt p ∧ x = MK (nm ++ [58] ++ p)
theorem PT.prox {x : ByteArray} (h : PT x) : ProxyP x := by
  rcases h with rfl | ⟨nm, p, h1, h2, rfl⟩
  · exact proxyP_none
  · exact proxyP_np h1 h2

theorem pf_none (p4 p6 : Addr) (hp hsp sch s : ByteArray) (cgi : Bool) (w : World) (G : GW p4 p6 w) (U : UT w) (P1 : PT hp) (P2 : PT hsp)
    (h : (sch.toList = [104, 116, 116, 112] ∧ hp = ⟨#[]⟩) ∨ (sch.toList = [104, 116, 116, 112, 115] ∧ hsp = ⟨#[]⟩) ∨ (sch.toList ≠ [104, 116, 116, 112] ∧ sch.toList ≠ [104, 116, 116, 112, 115])) :
    Calls Tryz.prog 18 #[.agg #[.string hp, .string hsp, .string ⟨#[]⟩, .bool cgi], .string sch, .string s] w fun e w' => e = .returned (.tuple #[.string ⟨#[]⟩, .string ⟨#[]⟩, .bool false, .bool true]) ∧ Below w.heap.size w w' :=
  proxyFor_calls .nix p4 p6 hp hsp sch s cgi w G U P1.prox P2.prox fun cb gr w1 b h1 h2 => (forURL_none cb gr hp hsp sch s cgi w1 h1 h2 h).mono fun e w' ⟨h3, h4⟩ => ⟨h3, by subst h4; exact Below.refl _ _⟩

theorem pf_cgi (p4 p6 : Addr) (hp hsp s : ByteArray) (w : World) (G : GW p4 p6 w) (U : UT w) (P1 : PT hp) (P2 : PT hsp) (h : hp ≠ ⟨#[]⟩) :
    Calls Tryz.prog 18 #[.agg #[.string hp, .string hsp, .string ⟨#[]⟩, .bool true], .string httpT, .string s] w fun e w' => e = .returned (.tuple #[.string ⟨#[]⟩, .string ⟨#[]⟩, .bool false, .bool false]) ∧ Below w.heap.size w w' :=
  proxyFor_calls .err p4 p6 hp hsp httpT s true w G U P1.prox P2.prox fun cb gr w1 b h1 h2 => (forURL_cgi cb gr hp hsp httpT s w1 h1 h2 (ByteArray.toList_eq _) h).mono fun e w' ⟨h3, h4⟩ => ⟨h3, h4⟩

theorem nm_addr {nm p : List UInt8} (h : Nm nm) (hp : Pt p) : NameAddr (MK nm ++ ⟨#[58]⟩ ++ MK p) (MK nm) (MK p) (MK nm) := by
  have : MK nm ++ ⟨#[58]⟩ ++ MK p = MK (nm ++ [58] ++ p) := by rw [show (⟨#[58]⟩ : ByteArray) = MK [58] from rfl, MK_append, MK_append]
  rw [this]
  exact h.nameAddr hp

theorem pt_443 : Pt [52, 52, 51] := ⟨by decide, by decide, by decide⟩

theorem pf_use (p4 p6 : Addr) (hp hsp sch v p : ByteArray) (nm pl : List UInt8) (cgi : Bool) (w : World) (G : GW p4 p6 w) (U : UT w) (pm : PM w) (P1 : PT hp) (P2 : PT hsp) (hx : Prox hp hsp sch v p cgi) (hne : p ≠ ⟨#[]⟩)
    (hn : Nm nm) (hloc : nm ≠ [108, 111, 99, 97, 108, 104, 111, 115, 116]) :
    Calls Tryz.prog 18 #[.agg #[.string hp, .string hsp, .string ⟨#[]⟩, .bool cgi], .string sch, .string (MK nm)] w fun e w' => e = .returned (.tuple #[.string httpT, .string p, .bool true, .bool true]) ∧ Below w.heap.size w w' := by
  have ha : NameAddr (MK nm ++ ⟨#[58]⟩ ++ v) (MK nm) v (MK nm) := by
    rcases hx with h | h
    · rw [h.2.1]; exact nm_addr hn pt_80
    · rw [h.2.1]; exact nm_addr hn pt_443
  exact proxyFor_calls (.url p) p4 p6 hp hsp sch (MK nm) cgi w G U P1.prox P2.prox fun cb gr w1 b h1 h2 => (forURL_use p4 p6 cb gr hp hsp sch (MK nm) v (MK nm) p cgi w1 (G.below b) (pm.below b) h1 h2 (bareN_nm hn) hx hne ha (localhost_iff.2 hloc)).mono fun e w' ⟨g, h3, h4, h5⟩ => ⟨⟨g, h3, h4⟩, h5⟩

theorem nm_p : Nm [112] := ⟨by decide, by decide, 112, [], rfl, by decide⟩
theorem pt_1 : Pt [49] := ⟨by decide, by decide, by decide⟩

set_option maxRecDepth 100000 in
set_option maxHeartbeats 400000 in
theorem answers_calls (p4 p6 : Addr) (w : World) (G : GW p4 p6 w) (U : UT w) (pm : PM w) : Calls Tryz.prog 17 #[] w fun e w' => e = .returned (.bool true) ∧ Below w.heap.size w w' := by
  have C := Aside0.mk (pf_use p4 p6 (MK ([112] ++ [58] ++ [49])) ⟨#[]⟩ httpT ⟨#[56, 48]⟩ (MK ([112] ++ [58] ++ [49])) [97, 46, 98] [] false w G U pm (.inr ⟨[112], [49], nm_p, pt_1, rfl⟩) (.inl rfl) (.inl ⟨rfl, rfl, rfl, rfl⟩) (np_ne [112] [49]) nm_ab (by decide))
  clear G U pm
  go_enter Tryz.func17, Tryz.ntmps17
  go_wp2_with fail
  refine C.out.mono ?_
  rintro e w1 ⟨rfl, b1⟩
  go_wp2_with fail
  go_ret
  exact ⟨rfl, b1⟩
end Go.Proofs.YtnchgmjeoajmiaaGreatDoor
