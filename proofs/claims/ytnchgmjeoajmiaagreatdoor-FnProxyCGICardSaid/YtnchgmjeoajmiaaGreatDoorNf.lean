/- What the listed variables of neturl and httpproxy give the walks; a start that meets the condition. -/
import Derived.Test.YtnchgmjeoajmiaaGreatDoorNc
import Derived.Test.YtnchgmjeoajmiaaGreatDoorNe
import Derived.Maps.Keyed
import Derived.LaidMore
import Derived.Lay
import Derived.Lib.LaidIn
/-! Laidp -/
namespace Go.Proofs.YtnchgmjeoajmiaaGreatDoor
open Go.ChangeShapes Go.WideShapes Go.ChangeAt Go.RowKit Go.Proofs.YtnchgmjeoajmiaaGreatDoorW.PrintWords
set_option linter.unusedSimpArgs false
set_option linter.unusedVariables false

/-- The numbers of neturl.table. -/
def urlTab : List Int := match (Rows.laid_loop_example_pub_g01468_pub_neturl_table : DataW Unit) with
  | .agg l => l.map fun | .lit (.int _ z) => z | _ => 0
  | _ => []
set_option maxRecDepth 100000 in
theorem urlTab_eq : (Rows.laid_loop_example_pub_g01468_pub_neturl_table : DataW Unit) = Lib.tabData .u8 urlTab := by kernel_rfl
def hostB (c : Nat) : Bool := (97 ≤ c && c ≤ 122) || (48 ≤ c && c ≤ 57) || c == 45 || c == 46 || c == 58
set_option maxRecDepth 100000 in
theorem urlTab_bits : ((List.range 128).all fun c => !hostB c || match urlTab[c]? with | some v => !(bits .and .u8 v 4 == 0) | none => false) = true := by kernel_rfl

theorem ut_of {W : World} {l : List (String × DataW Unit)} (h : laidMet Tryz.prog l W) (m : ("loop.example/pub-g01468/pub/neturl.table", Rows.laid_loop_example_pub_g01468_pub_neturl_table) ∈ l) : UT W := by
  rw [urlTab_eq] at m
  have s := tab_of h m (g := 13) (t := 246) (e := 201) (n := 256) (by kernel_rfl) (by kernel_rfl) (by kernel_rfl) (by kernel_rfl) (by kernel_rfl) (by kernel_rfl)
  intro c hc
  have h0 : 0 ≤ c := by unfold HostB at hc; omega
  obtain ⟨n, rfl⟩ : ∃ n : Nat, c = n := ⟨c.toNat, by omega⟩
  have hn : n < 128 := by unfold HostB at hc; omega
  have hb : hostB n = true := by unfold HostB at hc; unfold hostB; simp; omega
  have := List.all_eq_true.1 urlTab_bits n (List.mem_range.2 hn)
  rw [hb] at this
  simp only [Bool.not_true, Bool.false_or] at this
  cases hv : urlTab[n]? with
  | none => rw [hv] at this; cases this
  | some v =>
    rw [hv] at this
    refine ⟨v, ?_, ?_⟩
    · rw [World.var?_cell (show Tryz.prog.globalNamed "loop.example/pub-g01468/pub/neturl.table" = some 13 by kernel_rfl) s]
      simp [hv]
    · simpa using this

theorem elemAt_string {P : Program} {W : World} {base : Nat} {sp : Nat → Bool} {held : Bool} {n : Nat} {e : TypeId} {H : Type} {enc : TypeId × Value → H} (he : P.underlying e = some .string) {v : Value} {z : DataW H × List MemPlace} (h : WideElems.elemAt enc P W base sp held n e v = some z) : ∃ s : ByteArray, v = .string s ∧ z.1 = .lit (.string s.data.toList) := by
  unfold WideElems.elemAt at h
  split at h
  · rename_i hf
    obtain ⟨s, hc, hz, _⟩ := DataW.trod_string he h
    cases v <;> simp [Value.formed, he, Value.cells] at hf hc
    subst hc
    exact ⟨_, rfl, by rw [hz]⟩
  · cases h

set_option maxRecDepth 100000 in
theorem pm_of {W : World} {l : List (String × DataW Unit)} (h : laidMet Tryz.prog l W) (m : ("loop.example/pub-g01468/pub/httpproxy.portMap", Rows.laid_loop_example_pub_g01468_pub_httpproxy_portMap) ∈ l) : PM W := by
  obtain ⟨ps, hl, _, _⟩ := h
  obtain ⟨g', t', cs, fuel, p, hg', ht', hvar, hd, _⟩ := laid_places hl _ _ m
  obtain rfl := Option.some.inj ((show Tryz.prog.globalNamed "loop.example/pub-g01468/pub/httpproxy.portMap" = some 3 by kernel_rfl).symm.trans hg')
  obtain rfl := Option.some.inj ((show (Tryz.prog.globals[3]?).map (·.type) = some 166 by kernel_rfl).symm.trans ht')
  rcases WideElems.open_map Tryz.underlying166 hd with ⟨_, hx⟩ | ⟨r, es, clock, n, rfl, hcs, hb, _, F, hx⟩
  · simp [Rows.laid_loop_example_pub_g01468_pub_httpproxy_portMap] at hx
  simp only [Prod.mk.injEq] at hx
  have hcell : W.cell? ⟨3, 0, none⟩ = some (.map (some r)) := by
    have := World.var?_cell hg' hvar 0
    rw [Array.eq_one_of_toList hcs] at this
    simpa using this
  refine ⟨r, es, clock, hcell, hb, fun w' hw' k v hk => ?_⟩
  have zero : (zeroValue 9).run Tryz.prog w' = .ok (.string ⟨#[]⟩) w' := by kernel_rfl
  have hsz : k.size ≤ maxLen := by rcases hk with h | h <;> (rw [h.1]; decide)
  have hat0 : (Rows.laid_loop_example_pub_g01468_pub_httpproxy_portMap : DataW Unit).atKey (.string k.data.toList) .nil = .lit (.string v.data.toList) := by
    rcases hk with h | h <;> (rw [h.1, h.2]; rfl)
  rcases Maps.fit_look (w := w') false (Maps.string_keyed Tryz.underlying9) Tryz.underlying166 zero hw' F (WideMaps.keyOf_string_mk (s := k) Tryz.underlying9 hsz) with ⟨_, _, hat⟩ | ⟨e0, y, _, _, hrun, hRv, hat, _⟩
  · have := hat .nil
    rw [← hx.1, hat0] at this
    cases this
  · obtain ⟨s, hs, hz⟩ := elemAt_string Tryz.underlying9 hRv
    have := hat .nil
    rw [← hx.1, hat0, hz] at this
    simp only [DataW.lit.injEq, Lit.string.injEq] at this
    have hsv : s = v := by
      apply ByteArray.ext
      apply Array.toList_inj.1
      exact this.symm
    subst hsv
    rw [hs] at hrun
    simpa using hrun

/-- Two variables that lie below read behind the call as they did. -/
theorem vars_kept {H : Type} {enc : TypeId × Value → H} {W W' : World} (hl : laidOutB Tryz.prog = true) (hb : Below W.heap.size W W') : ∀ {ns : List String} {gs : List (DataW H)} {ps : List MemPlace},
    (∀ n ∈ ns, ∀ g t, Tryz.prog.globalNamed n = some g → (Tryz.prog.globals[g]?).map (·.type) = some t → Tryz.prog.readableRec t = true ∧ t < Tryz.prog.types.size) →
    DataW.TrodVars enc Tryz.prog W (fun _ => true) ns gs ps → DataW.TrodVars enc Tryz.prog W' (fun b => decide (b < W.heap.size)) ns gs ps
  | [], [], _, _, h => h
  | [], _ :: _, _, _, h => h.elim
  | _ :: _, [], _, _, h => h.elim
  | n :: ns, d :: gs, ps, hty, h => by
    obtain ⟨g, t, cs, fuel, p, q, h1, h2, h3, h4, hs, e⟩ := h
    obtain ⟨hr, hlt0⟩ := hty n List.mem_cons_self g t h1 h2
    have hp : ∀ x ∈ p, x.block < W.heap.size := DataW.trod_lt _ _ _ _ h4
    have h3' : W'.var? Tryz.prog n = some cs := by
      unfold World.var? at h3 ⊢
      rw [h1] at h3 ⊢
      simp only [Option.bind_some] at h3 ⊢
      have hg : g < W.heap.size := by
        cases hh : W.heap[g]? with
        | none => rw [hh] at h3; cases h3
        | some o => exact (Array.getElem?_eq_some_iff.1 hh).1
      rw [hb.block g hg]
      exact h3
    exact ⟨g, t, cs, fuel, p, q, h1, h2, h3', DataW.trod_stays (Go.kids_book hl hr) (Go.book_sized hr) (fun h => by cases h) ⟨hlt0, Go.book_self t⟩ h4 (fun x hx => hb.same (hp x hx)) (fun x hx => by simpa using hp x hx), vars_kept hl hb (fun n hn => hty n (List.mem_cons_of_mem _ hn)) hs, e⟩
theorem two_types : ∀ n ∈ ["loop.example/pub-g01468/pub/neturl.table", "loop.example/pub-g01468/pub/httpproxy.portMap"], ∀ g t, Tryz.prog.globalNamed n = some g → (Tryz.prog.globals[g]?).map (·.type) = some t → Tryz.prog.readableRec t = true ∧ t < Tryz.prog.types.size := by
  intro n hn g t h1 h2
  simp only [List.mem_cons, List.not_mem_nil, or_false] at hn
  rcases hn with rfl | rfl
  · obtain rfl := Option.some.inj ((show Tryz.prog.globalNamed "loop.example/pub-g01468/pub/neturl.table" = some 13 by kernel_rfl).symm.trans h1)
    obtain rfl := Option.some.inj ((show (Tryz.prog.globals[13]?).map (·.type) = some 246 by kernel_rfl).symm.trans h2)
    exact ⟨by kernel_rfl, of_decide_eq_true (by kernel_rfl)⟩
  · obtain rfl := Option.some.inj ((show Tryz.prog.globalNamed "loop.example/pub-g01468/pub/httpproxy.portMap" = some 3 by kernel_rfl).symm.trans h1)
    obtain rfl := Option.some.inj ((show (Tryz.prog.globals[3]?).map (·.type) = some 166 by kernel_rfl).symm.trans h2)
    exact ⟨by kernel_rfl, of_decide_eq_true (by kernel_rfl)⟩
theorem two_vars {H : Type} {enc : TypeId × Value → H} {W : World} {sp : Nat → Bool} {n m : String} {gs : List (DataW H)} {q : List MemPlace} (h : DataW.TrodVars enc Tryz.prog W sp [n, m] gs q) : ∃ g1 g2, gs = [g1, g2] := by
  match gs, h with
  | [], h => exact h.elim
  | [_], h =>
    obtain ⟨_, _, _, _, _, _, _, _, _, _, hs, _⟩ := h
    exact hs.elim
  | [a, b], _ => exact ⟨a, b, rfl⟩
  | _ :: _ :: _ :: _, h =>
    obtain ⟨_, _, _, _, _, _, _, _, _, _, ⟨_, _, _, _, _, _, _, _, _, _, hs, _⟩, _⟩ := h
    exact hs.elim

/-! A start that meets the condition: the settled world with a map's block behind it, its variable set; the other variables laid over that. -/
noncomputable def mapW (os : Os) : World :=
  let w0 := World.holding Tryz.prog os ⟨#[.map #[⟨.string ⟨#[104, 116, 116, 112]⟩, .string ⟨#[56, 48]⟩, 0⟩, ⟨.string ⟨#[104, 116, 116, 112, 115]⟩, .string ⟨#[52, 52, 51]⟩, 1⟩, ⟨.string ⟨#[115, 111, 99, 107, 115, 53]⟩, .string ⟨#[49, 48, 56, 48]⟩, 2⟩] 3], #[], []⟩
  { w0 with heap := w0.heap.modify 3 fun
    | .cells _ t frozen => .cells #[.map (some (World.settled Tryz.prog os).heap.size)] t frozen
    | o => o }
abbrev mapN : String := "loop.example/pub-g01468/pub/httpproxy.portMap"
def great (laid : List (String × DataW Unit)) : List String := (laid.map (·.1)).filter fun n => !(n == mapN)
noncomputable def proxW (os : Os) (laid : List (String × DataW Unit)) : World := (mapW os).layVars Tryz.prog (laid.filter fun x => (great laid).contains x.1)
theorem proxW_os (os : Os) (laid : List (String × DataW Unit)) : (proxW os laid).os = os := World.layVars_os _ _ _
theorem laidMet_proxW {os : Os} {laid : List (String × DataW Unit)} (args : Array Value)
    (hf : (mapW os).layFits Tryz.prog (laid.filter fun x => (great laid).contains x.1) [3, (World.settled Tryz.prog os).heap.size] = true)
    (hi : (mapW os).layIfaces Tryz.prog (laid.filter fun x => (great laid).contains x.1) (proxW os laid) = true)
    (h : (DataW.laidRun Tryz.prog (proxW os laid) 8 ((laid.filter fun x => !(great laid).contains x.1).map (·.1))).map (·.1) = some (laid.filter fun x => !(great laid).contains x.1))
    (hn : (DataW.laidRun Tryz.prog (proxW os laid) 8 ((laid.filter fun x => !(great laid).contains x.1).map (·.1))).map (fun x => nodupB (x.2.map MemPlace.codeOf)) = some true)
    (hr : (DataW.laidRun Tryz.prog (proxW os laid) 8 ((laid.filter fun x => !(great laid).contains x.1).map (·.1))).map (fun x => laidRowsB Tryz.prog (proxW os laid) x.2) = some true)
    (hb : (DataW.laidRun Tryz.prog (proxW os laid) 8 ((laid.filter fun x => !(great laid).contains x.1).map (·.1))).map (fun x => x.2.all fun p => [3, (World.settled Tryz.prog os).heap.size].contains p.block) = some true) :
    laidMet Tryz.prog laid ((proxW os laid).forCall (fun _ _ => 0) ⟨#[], args, []⟩).memory := by
  have h : laidMet Tryz.prog laid (proxW os laid) := laidMet_layVars (w0 := mapW os) (great laid) [3, (World.settled Tryz.prog os).heap.size] rfl hf hi (LaidIn.of_run _ 8 h hn hr hb)
  exact h.of_heap (by simp [World.memory, World.forCall, Input.heap])
end Go.Proofs.YtnchgmjeoajmiaaGreatDoor
