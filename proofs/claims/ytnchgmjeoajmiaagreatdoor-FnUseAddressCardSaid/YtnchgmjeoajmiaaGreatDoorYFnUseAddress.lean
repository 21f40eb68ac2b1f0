/- A request to an address goes through the proxy unless the address begins with 127 or a rule is for it: FnUseAddress returns true at every input, and what came in reads behind the call as before. Here: its walk. The condition: the listed package-level variables hold, when the call begins, what their own texts lay (the tied card). -/
import Derived.Test.YtnchgmjeoajmiaaGreatDoorMc
import Derived.Laws.BitsLemmas
/-! Lawa -/
namespace Go.Proofs.YtnchgmjeoajmiaaGreatDoor
open Go.RowKit Go.Proofs.YtnchgmjeoajmiaaGreatDoorW.PrintWords
set_option linter.unusedSimpArgs false
set_option linter.unusedVariables false

/-- What each law gives. -/
def SaysTrue (w : World) (e : Ending) (w' : World) : Prop := e = .returned (.bool true) ∧ Below w.heap.size w w'

theorem not_le_big {n : Nat} (h : ¬ (2147483647 : Int) < (n : Int)) : n ≤ 2147483647 := by omega

theorem rks_of {rs : List P.S42} (h : rs.length ≤ 30 ∧ ∀ r ∈ rs, Rk r) : Rks rs := ⟨by omega, h.2⟩

theorem addr_text (nm port : ByteArray) : ((nm ++ (⟨#[58]⟩ : ByteArray)) ++ port) = MK (BL nm ++ [58] ++ BL port) := by
  apply eq_of_BL
  rw [BL_append, BL_append]

theorem bel_drawn {w w1 w2 : World} (h : Below w.heap.size w w1) (k : Drawn0 w1 w2) : Below w.heap.size w w2 := by
  obtain ⟨n, rfl⟩ := k
  exact pw_below_drewN h n

theorem local_eq (nm : ByteArray) : (nm.toList == [108, 111, 99, 97, 108, 104, 111, 115, 116]) = (BL nm == [108, 111, 99, 97, 108, 104, 111, 115, 116]) := by rw [toList_BL]

set_option maxRecDepth 100000 in
set_option maxHeartbeats 1000000 in
theorem fnUseName_calls (p4 p6 : Addr) (A : Option Addr) (c : Nat) (rs : List P.S42) (nm port : ByteArray) (w : World) (G : GW p4 p6 w) (hc : rs.length ≤ c) (hA : Kd.C P.k42 w A rs.length rs) :
    Calls Tryz.prog 8 #[.slice A rs.length c, .string nm, .string port] w (SaysTrue w) := by
  obtain ⟨kf, bf, hf, ef⟩ := fits2_ev rs
  have HF := Aside0.mk (P.laws_zzFits2.calls kf A c rs bf w hA hc hf)
  clear hf
  cases bf with
  | false =>
    clear hA
    go_enter Tryz.func8, Tryz.ntmps8
    go_wp2_with fail
    refine HF.out.mono ?_
    rintro e w1 ⟨rfl, b1⟩
    go_wp2_with fail
    go_ret
    exact ⟨rfl, b1⟩
  | true =>
  obtain ⟨lenR, fitR⟩ := ef rfl
  by_cases c1 : 2147483647 < nm.size
  · have d1 : decide ((2147483647 : Int) < (nm.size : Int)) = true := decide_eq_true (by omega)
    clear hA ef fitR c1
    go_enter Tryz.func8, Tryz.ntmps8
    go_wp2_with fail
    refine HF.out.mono ?_
    rintro e w1 ⟨rfl, b1⟩
    go_wp2_with fail
    go_ret
    exact ⟨rfl, b1⟩
  have d1 : decide ((2147483647 : Int) < (nm.size : Int)) = false := decide_eq_false (by omega)
  by_cases c2 : 2147483647 < port.size
  · have d2 : decide ((2147483647 : Int) < (port.size : Int)) = true := decide_eq_true (by omega)
    clear hA ef fitR c1 c2
    go_enter Tryz.func8, Tryz.ntmps8
    go_wp2_with fail
    refine HF.out.mono ?_
    rintro e w1 ⟨rfl, b1⟩
    go_wp2_with fail
    go_ret
    exact ⟨rfl, b1⟩
  have d2 : decide ((2147483647 : Int) < (port.size : Int)) = false := decide_eq_false (by omega)
  obtain ⟨br, er, hr⟩ := areRules_ev rs fitR lenR
  obtain ⟨kr, er⟩ := er.at
  obtain ⟨bn, en, hn⟩ := isName_ev nm (by omega)
  obtain ⟨kn, en⟩ := en.at
  obtain ⟨bp, ep, hp⟩ := isPort_ev port (by omega)
  obtain ⟨kp, ep⟩ := ep.at
  have HR := fun w' hb => Aside0.mk (P.spec_AreRules.calls kr A c rs br w' (Kd.C_below hA hb) hc er)
  have HN := fun w' => Aside0.mk (P.spec_IsName.calls kn nm bn w' en)
  have HP := fun w' => Aside0.mk (P.spec_IsPort.calls kp port bp w' ep)
  have HA := Aside0.mk hA
  have ER := Aside0.mk hr
  have EN := Aside0.mk hn
  have EP := Aside0.mk hp
  clear hA ef fitR c1 c2 er en ep hr hn hp
  cases br with
  | false =>
    go_enter Tryz.func8, Tryz.ntmps8
    go_wp2_with fail
    refine HF.out.mono ?_
    rintro e w1 ⟨rfl, b1⟩
    go_wp2_with fail
    refine (HR w1 b1).out.mono ?_
    rintro e w2 ⟨rfl, b2⟩
    have b2 := bel_then b1 b2
    go_wp2_with fail
    refine (works_calls p4 p6 _ (G.below b2)).mono ?_
    rintro e w3 ⟨rfl, b3⟩
    have b3 := bel_then b2 b3
    go_wp2_with fail
    go_ret
    exact ⟨rfl, b3⟩
  | true =>
  go_enter Tryz.func8, Tryz.ntmps8
  go_wp2_with fail
  refine HF.out.mono ?_
  rintro e w1 ⟨rfl, b1⟩
  go_wp2_with fail
  refine (HR w1 b1).out.mono ?_
  rintro e w2 ⟨rfl, b2⟩
  have b2 := bel_then b1 b2
  go_wp2_with fail
  refine (HN _).out.mono ?_
  rintro e w3 ⟨rfl, hw3⟩
  have b3 := bel_drawn b2 hw3
  clear hw3 b1 b2
  cases bn with
  | false =>
    go_wp2_with fail
    refine (works_calls p4 p6 _ (G.below b3)).mono ?_
    rintro e wk ⟨rfl, bk⟩
    have bk := bel_then b3 bk
    go_wp2_with fail
    go_ret
    exact ⟨rfl, bk⟩
  | true =>
  go_wp2_with fail
  refine (HP _).out.mono ?_
  rintro e w4 ⟨rfl, hw4⟩
  have b4 := bel_drawn b3 hw4
  clear hw4 b3
  cases bp with
  | false =>
    go_wp2_with fail
    refine (works_calls p4 p6 _ (G.below b4)).mono ?_
    rintro e wk ⟨rfl, bk⟩
    have bk := bel_then b4 bk
    go_wp2_with fail
    go_ret
    exact ⟨rfl, bk⟩
  | true =>
  have hN := EN.out (by simp)
  have hP := EP.out (by simp)
  have hK := rks_of (ER.out (by simp))
  have US := fun w' G => Aside0.mk (by
    have := uses_rules p4 p6 w' (joinB ⟨#[44]⟩ (rs.map ruleText)) rs (BL nm) (BL port) G (listed_plain rs hK) hN hP
    rw [← addr_text, MK_BL, MK_BL] at this
    exact this)
  have LT := fun w' hb => Aside0.mk (listText_calls p4 p6 rs ⟨#[44]⟩ A c w' (G.below hb) (fun r hr => (hK.2 r hr).small) (by have := hK.1; omega) (by decide) hc (Kd.C_below HA.out hb))
  have hns : nm.size ≤ 100 := by have := hN.len; rw [BL_size] at this; exact this
  have hps : port.size ≤ 5 := by have := hP.five; rw [BL_size] at this; exact this
  have hz : (nm ++ (⟨#[58]⟩ : ByteArray)).size = nm.size + 1 := ByteArray.size_append
  have HKs := Aside0.mk hK
  clear hN hP hK
  cases hloc : (nm.toList == [108, 111, 99, 97, 108, 104, 111, 115, 116]) with
  | true =>
    go_wp2_with fail
    refine (works_calls p4 p6 _ (G.below b4)).mono ?_
    rintro e w5 ⟨rfl, b5⟩
    have b5 := bel_then b4 b5
    go_wp2_with fail
    refine (LT _ b5).out.mono ?_
    rintro e w6 ⟨rfl, b6⟩
    have b6 := bel_then b5 b6
    go_wp2_with fail
    have U6 := (US w6 (G.below b6)).out
    rw [← local_eq, hloc] at U6
    refine U6.mono ?_
    rintro e w7 ⟨rfl, b7⟩
    have b7 := bel_then b6 b7
    go_wp2_with fail
    go_ret
    exact ⟨ret_bool (by simp), b7⟩
  | false =>
    obtain ⟨ka, hany⟩ := anyName_eq rs HKs.out nm port (by omega)
    rw [show mok nm port none = mok (MK (BL nm)) (MK (BL port)) none by rw [MK_BL, MK_BL]] at hany
    generalize hval : ((lists (effsOf rs) [] []).2.any (mok (MK (BL nm)) (MK (BL port)) none)) = val at hany
    have HAN := fun w' hb => Aside0.mk (P.spec_AnyName.calls ka A c rs nm port val w' (Kd.C_below HA.out hb) hc hany)
    have HVAL := Aside0.mk hval
    clear hany hval
    go_wp2_with fail
    refine (HAN _ b4).out.mono ?_
    rintro e w4' ⟨rfl, b4'⟩
    have b4' := bel_then b4 b4'
    go_wp2_with fail
    refine (works_calls p4 p6 _ (G.below b4')).mono ?_
    rintro e w5 ⟨rfl, b5⟩
    have b5 := bel_then b4' b5
    go_wp2_with fail
    refine (LT _ b5).out.mono ?_
    rintro e w6 ⟨rfl, b6⟩
    have b6 := bel_then b5 b6
    go_wp2_with fail
    have U6 := (US w6 (G.below b6)).out
    rw [← local_eq, hloc, ← MK_BL nm, ← MK_BL port, HVAL.out] at U6
    refine U6.mono ?_
    rintro e w7 ⟨rfl, b7⟩
    have b7 := bel_then b6 b7
    go_wp2_with fail
    go_ret
    exact ⟨ret_bool (by simp), b7⟩
end Go.Proofs.YtnchgmjeoajmiaaGreatDoor

/-! Textj -/
namespace Go.Proofs.YtnchgmjeoajmiaaGreatDoor
open Go.RowKit Go.Proofs.YtnchgmjeoajmiaaGreatDoorW.PrintWords
set_option linter.unusedSimpArgs false
set_option linter.unusedVariables false

theorem joinL_append (sep : List UInt8) (xs ys : List (List UInt8)) (hx : xs ≠ []) (hy : ys ≠ []) : joinL sep (xs ++ ys) = joinL sep xs ++ sep ++ joinL sep ys := by
  cases xs with
  | nil => exact absurd rfl hx
  | cons x xs =>
    cases ys with
    | nil => exact absurd rfl hy
    | cons y ys => simp [joinL]

theorem joinB_append (sep : ByteArray) (xs ys : List ByteArray) (hx : xs ≠ []) (hy : ys ≠ []) : joinB sep (xs ++ ys) = (joinB sep xs ++ sep) ++ joinB sep ys := by
  apply eq_of_BL
  rw [BL_append, BL_append]
  unfold joinB
  simp only [BL_MK]
  rw [List.map_append, joinL_append _ _ _ (by simpa using hx) (by simpa using hy)]

theorem joinB_len (sep : ByteArray) (rs : List P.S42) (h : ∀ r ∈ rs, Rk r) (hs : sep.size ≤ 100) : (joinB sep (rs.map ruleText)).size ≤ rs.length * 2110 := by
  have := joinL_len (BL sep) ((rs.map ruleText).map BL) 2010 (fun x hx => by
    rw [List.map_map] at hx
    obtain ⟨r, hr, rfl⟩ := List.mem_map.1 hx
    exact ruleText_len (h r hr))
  unfold joinB
  rw [MK_size]
  have e : (BL sep).length = sep.size := BL_size sep
  rw [e, List.length_map, List.length_map] at this
  exact Nat.le_trans this (Nat.mul_le_mul_left _ (by omega))

theorem Rks.append {a b : List P.S42} (ha : a.length ≤ 30 ∧ ∀ r ∈ a, Rk r) (hb : b.length ≤ 30 ∧ ∀ r ∈ b, Rk r) : Rks (a ++ b) := by
  refine ⟨by rw [List.length_append]; omega, fun r hr => ?_⟩
  rcases List.mem_append.1 hr with h | h
  · exact ha.2 r h
  · exact hb.2 r h

/-- What the lists say of a name, rule by rule. -/
theorem anyN_eq (rs : List P.S42) (h p : ByteArray) : (lists (effsOf rs) [] []).2.any (mok h p none) = rs.any (fun r => sayN h p (eff r)) := by
  rw [any_names]
  unfold effsOf
  split
  · rename_i e; subst e; rfl
  · rw [List.any_map]; rfl
theorem anyN_append (a b : List P.S42) (h p : ByteArray) : (lists (effsOf (a ++ b)) [] []).2.any (mok h p none) = ((lists (effsOf a) [] []).2.any (mok h p none) || (lists (effsOf b) [] []).2.any (mok h p none)) := by
  rw [anyN_eq, anyN_eq, anyN_eq, List.any_append]
theorem anyN_reverse (a : List P.S42) (h p : ByteArray) : (lists (effsOf a.reverse) [] []).2.any (mok h p none) = (lists (effsOf a) [] []).2.any (mok h p none) := by
  rw [anyN_eq, anyN_eq, List.any_reverse]

/-- Two lists with a comma between them. -/
theorem listed_two (a b : List P.S42) (ha : a.length ≤ 30 ∧ ∀ r ∈ a, Rk r) (hb : b.length ≤ 30 ∧ ∀ r ∈ b, Rk r) (na : a ≠ []) (nb : b ≠ []) :
    Listed ((joinB ⟨#[44]⟩ (a.map ruleText) ++ (⟨#[44]⟩ : ByteArray)) ++ joinB ⟨#[44]⟩ (b.map ruleText)) (effsOf (a ++ b)) := by
  have := listed_plain (a ++ b) (Rks.append ha hb)
  rw [List.map_append, joinB_append _ _ _ (by simpa using na) (by simpa using nb)] at this
  exact this

/-- Spaces beside commas, and about the list. -/
theorem joinL_spaced (a b s : List UInt8) : ∀ (xs : List (List UInt8)), xs ≠ [] → a ++ joinL (b ++ s ++ a) xs ++ b = joinL s (xs.map fun x => a ++ x ++ b)
  | [], h => absurd rfl h
  | [x], _ => by simp [joinL]
  | x :: y :: t, _ => by
    have ih := joinL_spaced a b s (y :: t) (by simp)
    have e1 : joinL (b ++ s ++ a) (x :: y :: t) = x ++ (b ++ s ++ a) ++ joinL (b ++ s ++ a) (y :: t) := by simp [joinL]
    have e2 : joinL s ((x :: y :: t).map fun x => a ++ x ++ b) = (a ++ x ++ b) ++ s ++ joinL s ((y :: t).map fun x => a ++ x ++ b) := by simp [joinL]
    rw [e1, e2, ← ih]
    simp

theorem sps1 : Sps [32] := fun x hx => by simpa using hx
theorem listed_spaced (rs : List P.S42) (hr : Rks rs) : Listed (((⟨#[32]⟩ : ByteArray) ++ joinB ⟨#[32, 44, 32]⟩ (rs.map ruleText)) ++ (⟨#[32]⟩ : ByteArray)) (effsOf rs) := by
  have := listed_rules rs hr [32] [32] id sps1 sps1 (by simp) (by simp) (fun x hx => ⟨hx.1, hx.2.1, hx.2.2.1, by
    have := lower_map (q := [x]) (fun b hb => by simp at hb; subst hb; exact hx.2.2.2)
    simpa using this⟩)
  have e : ((⟨#[32]⟩ : ByteArray) ++ joinB ⟨#[32, 44, 32]⟩ (rs.map ruleText)) ++ (⟨#[32]⟩ : ByteArray) = MK (if rs = [] then [32] ++ [32] else joinL [44] (rs.map fun r => [32] ++ (BL (ruleText r)).map id ++ [32])) := by
    apply eq_of_BL
    rw [BL_append, BL_append, BL_MK]
    unfold joinB
    simp only [BL_MK]
    split
    · rename_i h; subst h; rfl
    · rename_i h
      have := joinL_spaced [32] [32] [44] ((rs.map ruleText).map BL) (by simpa using h)
      rw [List.map_map, List.map_map] at this
      rw [List.map_map]
      simp only [List.map_id]
      exact this
  rw [e]
  exact this

/-! ### Capitals -/
def upperB (b : UInt8) : UInt8 := if 97 ≤ b.toNat ∧ b.toNat ≤ 122 then b - 97 + 65 else b
def upperT (s : ByteArray) : ByteArray := MK ((BL s).map upperB)
theorem upper_all : ∀ i : Fin 256, ¬ (65 ≤ i.val ∧ i.val ≤ 90) → 32 < i.val → i.val < 128 → i.val ≠ 44 →
    32 < (upperB (UInt8.ofNat i.val)).toNat ∧ (upperB (UInt8.ofNat i.val)).toNat < 128 ∧ (upperB (UInt8.ofNat i.val)).toNat ≠ 44 ∧ Lib.lowerB (upperB (UInt8.ofNat i.val)) = UInt8.ofNat i.val := by decide +kernel
theorem upper_ok (x : UInt8) (hx : RuleB x) : 32 < (upperB x).toNat ∧ (upperB x).toNat < 128 ∧ (upperB x).toNat ≠ 44 ∧ Lib.lowerB (upperB x) = x := by
  have := upper_all ⟨x.toNat, x.toNat_lt⟩ hx.2.2.2 hx.1 hx.2.1 hx.2.2.1
  simpa using this
theorem upper_host : ∀ i : Fin 256, (97 ≤ i.val ∧ i.val ≤ 122) ∨ (48 ≤ i.val ∧ i.val ≤ 57) ∨ i.val = 45 ∨ i.val = 46 →
    (32 < (upperB (UInt8.ofNat i.val)).toNat ∧ (upperB (UInt8.ofNat i.val)).toNat < 128 ∧ (upperB (UInt8.ofNat i.val)).toNat ≠ 58 ∧ (upperB (UInt8.ofNat i.val)).toNat ≠ 91 ∧ (upperB (UInt8.ofNat i.val)).toNat ≠ 93 ∧ (upperB (UInt8.ofNat i.val)).toNat ≠ 37) ∧ (upperB (UInt8.ofNat i.val)).toNat ≠ 108 ∧ Lib.lowerB (upperB (UInt8.ofNat i.val)) = UInt8.ofNat i.val ∧ (97 ≤ i.val → ¬ (48 ≤ (upperB (UInt8.ofNat i.val)).toNat ∧ (upperB (UInt8.ofNat i.val)).toNat ≤ 57)) := by decide +kernel

theorem joinL_map (g : UInt8 → UInt8) (sep : List UInt8) (xs : List (List UInt8)) : (joinL sep xs).map g = joinL (sep.map g) (xs.map (·.map g)) := by
  cases xs with
  | nil => rfl
  | cons x t =>
    simp only [joinL, List.map_append, List.map_cons, List.map_flatten, List.map_map]
    congr 2
    exact List.map_congr_left fun y _ => by simp

theorem listed_upper (rs : List P.S42) (hr : Rks rs) : Listed (upperT (joinB ⟨#[44]⟩ (rs.map ruleText))) (effsOf rs) := by
  have := listed_rules rs hr [] [] upperB (fun x hx => by cases hx) (fun x hx => by cases hx) (by simp) (by simp) upper_ok
  have e : upperT (joinB ⟨#[44]⟩ (rs.map ruleText)) = MK (if rs = [] then [] ++ [] else joinL [44] (rs.map fun r => [] ++ (BL (ruleText r)).map upperB ++ [])) := by
    unfold upperT joinB
    simp only [BL_MK]
    split
    · rename_i h; subst h; rfl
    · rw [joinL_map, List.map_map, List.map_map]
      simp only [List.nil_append, List.append_nil]
      rfl
  rw [e]
  exact this

theorem Nm.upper_addr {nm p : List UInt8} (h : Nm nm) (hp : Pt p) : NameAddr (MK (nm.map upperB ++ [58] ++ p)) (MK (nm.map upperB)) (MK p) (MK nm) := by
  have hall : ∀ b ∈ nm, _ := fun b hb => upper_host ⟨b.toNat, b.toNat_lt⟩ (h.all b hb)
  simp only [UInt8.ofNat_toNat] at hall
  refine nameAddr_of (by simpa using h.ne) (by have := h.len; rw [List.length_map]; omega) (fun b hb => ?_) ?_ ?_ hp
  · obtain ⟨x, hx, rfl⟩ := List.mem_map.1 hb
    exact (hall x hx).1
  · obtain ⟨x, t, e, h1, h2⟩ := h.head
    have hx := hall x (by rw [e]; exact List.mem_cons_self)
    rw [e, List.map_cons, MK_first rfl]
    have := hx.2.2.2 h1
    omega
  · rw [List.map_map]
    conv => rhs; rw [← List.map_id nm]
    exact List.map_congr_left fun y hy => (hall y hy).2.2.1

theorem Nm.upper_local {nm : List UInt8} (h : Nm nm) : (MK (nm.map upperB)).toList ≠ [108, 111, 99, 97, 108, 104, 111, 115, 116] := by
  rw [toList_MK]
  obtain ⟨x, t, e, h1, h2⟩ := h.head
  have hx := upper_host ⟨x.toNat, x.toNat_lt⟩ (h.all x (by rw [e]; exact List.mem_cons_self))
  simp only [UInt8.ofNat_toNat] at hx
  rw [e, List.map_cons]
  intro k
  injection k with k _
  exact hx.2.1 (by rw [k]; rfl)

/-- A request to a name in capitals. -/
theorem uses_upper (p4 p6 : Addr) (w : World) (no : ByteArray) (rs : List P.S42) (nm p : List UInt8) (G : GW p4 p6 w) (hl : Listed no (effsOf rs)) (hn : Nm nm) (hp : Pt p) :
    Calls Tryz.prog 24 #[.string no, .string (MK (nm.map upperB ++ [58] ++ p))] w fun e w' => e = .returned (.bool (!((lists (effsOf rs) [] []).2.any (mok (MK nm) (MK p) none)))) ∧ Below w.heap.size w w' :=
  uses_name p4 p6 no (effsOf rs) w _ (MK (nm.map upperB)) (MK p) (MK nm) G hl (hn.upper_addr hp) hn.upper_local
end Go.Proofs.YtnchgmjeoajmiaaGreatDoor

/-! Says -/
namespace Go.Proofs.YtnchgmjeoajmiaaGreatDoor
open Go.RowKit Go.Proofs.YtnchgmjeoajmiaaGreatDoorW.PrintWords
set_option linter.unusedSimpArgs false
set_option linter.unusedVariables false

/-- Whether a request to a name and a port goes through the proxy, by rules. -/
def says (rs : List P.S42) (nm port : ByteArray) : Bool := !(nm.toList == [108, 111, 99, 97, 108, 104, 111, 115, 116]) && !((lists (effsOf rs) [] []).2.any (mok nm port none))
theorem says_append (a b : List P.S42) (nm port : ByteArray) : says (a ++ b) nm port = (says a nm port && says b nm port) := by
  unfold says
  rw [anyN_append]
  generalize (lists (effsOf a) [] []).2.any (mok nm port none) = x
  generalize (lists (effsOf b) [] []).2.any (mok nm port none) = y
  generalize (nm.toList == [108, 111, 99, 97, 108, 104, 111, 115, 116]) = z
  cases x <;> cases y <;> cases z <;> rfl
theorem says_reverse (a : List P.S42) (nm port : ByteArray) : says a.reverse nm port = says a nm port := by
  unfold says
  rw [anyN_reverse]

theorem uses_text (p4 p6 : Addr) (w : World) (no : ByteArray) (rs : List P.S42) (nm port : ByteArray) (G : GW p4 p6 w) (hl : Listed no (effsOf rs)) (hn : Nm (BL nm)) (hp : Pt (BL port)) :
    Calls Tryz.prog 24 #[.string no, .string ((nm ++ (⟨#[58]⟩ : ByteArray)) ++ port)] w fun e w' => e = .returned (.bool (says rs nm port)) ∧ Below w.heap.size w w' := by
  have := uses_rules p4 p6 w no rs (BL nm) (BL port) G hl hn hp
  rw [← addr_text, MK_BL, MK_BL, ← local_eq] at this
  exact this

theorem uses_text_upper (p4 p6 : Addr) (w : World) (no : ByteArray) (rs : List P.S42) (nm port : ByteArray) (G : GW p4 p6 w) (hl : Listed no (effsOf rs)) (hn : Nm (BL nm)) (hp : Pt (BL port)) (hloc : (nm.toList == [108, 111, 99, 97, 108, 104, 111, 115, 116]) = false) :
    Calls Tryz.prog 24 #[.string no, .string ((upperT nm ++ (⟨#[58]⟩ : ByteArray)) ++ port)] w fun e w' => e = .returned (.bool (says rs nm port)) ∧ Below w.heap.size w w' := by
  have := uses_upper p4 p6 w no rs (BL nm) (BL port) G hl hn hp
  rw [show says rs nm port = !((lists (effsOf rs) [] []).2.any (mok nm port none)) by unfold says; rw [hloc]; rfl]
  rw [MK_BL, MK_BL] at this
  rw [addr_text, show BL (upperT nm) = (BL nm).map upperB from rfl]
  exact this

theorem upperT_size (s : ByteArray) : (upperT s).size = s.size := by
  unfold upperT
  rw [MK_size, List.length_map, BL_size]
end Go.Proofs.YtnchgmjeoajmiaaGreatDoor

/-! Textk -/
namespace Go.Proofs.YtnchgmjeoajmiaaGreatDoor
open Go.RowKit Go.Proofs.YtnchgmjeoajmiaaGreatDoorW.PrintWords
set_option linter.unusedSimpArgs false
set_option linter.unusedVariables false

theorem byte_fin {a : Int} (h : Byte a) : ∃ i : Fin 256, a = (i.val : Int) := by
  unfold Byte at h
  exact ⟨⟨a.toNat, by omega⟩, by simp; omega⟩
theorem and_f0 : ∀ i : Fin 256, bits .and .u8 (i.val : Int) 255 = (i.val : Int) / 1 * 1 := by decide +kernel
theorem top_255 {a x : Int} (ha : Byte a) (hx : Byte x) : (bits .and .u8 (bits .and .u8 a 255) 255 == bits .and .u8 x 255) = decide (a / 1 = x / 1) := by
  obtain ⟨i, rfl⟩ := byte_fin ha
  obtain ⟨j, rfl⟩ := byte_fin hx
  have hi := i.isLt
  rw [and_f0 i, and_f0 j]
  have e : (i.val : Int) / 1 * 1 = (((i.val / 1 * 1 : Nat)) : Int) := by omega
  rw [e, and_f0 ⟨i.val / 1 * 1, by omega⟩, Bool.eq_iff_iff, beq_iff_eq, decide_eq_true_eq]
  simp only []
  omega
theorem and_f1 : ∀ i : Fin 256, bits .and .u8 (i.val : Int) 254 = (i.val : Int) / 2 * 2 := by decide +kernel
theorem top_254 {a x : Int} (ha : Byte a) (hx : Byte x) : (bits .and .u8 (bits .and .u8 a 254) 254 == bits .and .u8 x 254) = decide (a / 2 = x / 2) := by
  obtain ⟨i, rfl⟩ := byte_fin ha
  obtain ⟨j, rfl⟩ := byte_fin hx
  have hi := i.isLt
  rw [and_f1 i, and_f1 j]
  have e : (i.val : Int) / 2 * 2 = (((i.val / 2 * 2 : Nat)) : Int) := by omega
  rw [e, and_f1 ⟨i.val / 2 * 2, by omega⟩, Bool.eq_iff_iff, beq_iff_eq, decide_eq_true_eq]
  simp only []
  omega
theorem and_f2 : ∀ i : Fin 256, bits .and .u8 (i.val : Int) 252 = (i.val : Int) / 4 * 4 := by decide +kernel
theorem top_252 {a x : Int} (ha : Byte a) (hx : Byte x) : (bits .and .u8 (bits .and .u8 a 252) 252 == bits .and .u8 x 252) = decide (a / 4 = x / 4) := by
  obtain ⟨i, rfl⟩ := byte_fin ha
  obtain ⟨j, rfl⟩ := byte_fin hx
  have hi := i.isLt
  rw [and_f2 i, and_f2 j]
  have e : (i.val : Int) / 4 * 4 = (((i.val / 4 * 4 : Nat)) : Int) := by omega
  rw [e, and_f2 ⟨i.val / 4 * 4, by omega⟩, Bool.eq_iff_iff, beq_iff_eq, decide_eq_true_eq]
  simp only []
  omega
theorem and_f3 : ∀ i : Fin 256, bits .and .u8 (i.val : Int) 248 = (i.val : Int) / 8 * 8 := by decide +kernel
theorem top_248 {a x : Int} (ha : Byte a) (hx : Byte x) : (bits .and .u8 (bits .and .u8 a 248) 248 == bits .and .u8 x 248) = decide (a / 8 = x / 8) := by
  obtain ⟨i, rfl⟩ := byte_fin ha
  obtain ⟨j, rfl⟩ := byte_fin hx
  have hi := i.isLt
  rw [and_f3 i, and_f3 j]
  have e : (i.val : Int) / 8 * 8 = (((i.val / 8 * 8 : Nat)) : Int) := by omega
  rw [e, and_f3 ⟨i.val / 8 * 8, by omega⟩, Bool.eq_iff_iff, beq_iff_eq, decide_eq_true_eq]
  simp only []
  omega
theorem and_f4 : ∀ i : Fin 256, bits .and .u8 (i.val : Int) 240 = (i.val : Int) / 16 * 16 := by decide +kernel
theorem top_240 {a x : Int} (ha : Byte a) (hx : Byte x) : (bits .and .u8 (bits .and .u8 a 240) 240 == bits .and .u8 x 240) = decide (a / 16 = x / 16) := by
  obtain ⟨i, rfl⟩ := byte_fin ha
  obtain ⟨j, rfl⟩ := byte_fin hx
  have hi := i.isLt
  rw [and_f4 i, and_f4 j]
  have e : (i.val : Int) / 16 * 16 = (((i.val / 16 * 16 : Nat)) : Int) := by omega
  rw [e, and_f4 ⟨i.val / 16 * 16, by omega⟩, Bool.eq_iff_iff, beq_iff_eq, decide_eq_true_eq]
  simp only []
  omega
theorem and_f5 : ∀ i : Fin 256, bits .and .u8 (i.val : Int) 224 = (i.val : Int) / 32 * 32 := by decide +kernel
theorem top_224 {a x : Int} (ha : Byte a) (hx : Byte x) : (bits .and .u8 (bits .and .u8 a 224) 224 == bits .and .u8 x 224) = decide (a / 32 = x / 32) := by
  obtain ⟨i, rfl⟩ := byte_fin ha
  obtain ⟨j, rfl⟩ := byte_fin hx
  have hi := i.isLt
  rw [and_f5 i, and_f5 j]
  have e : (i.val : Int) / 32 * 32 = (((i.val / 32 * 32 : Nat)) : Int) := by omega
  rw [e, and_f5 ⟨i.val / 32 * 32, by omega⟩, Bool.eq_iff_iff, beq_iff_eq, decide_eq_true_eq]
  simp only []
  omega
theorem and_f6 : ∀ i : Fin 256, bits .and .u8 (i.val : Int) 192 = (i.val : Int) / 64 * 64 := by decide +kernel
theorem top_192 {a x : Int} (ha : Byte a) (hx : Byte x) : (bits .and .u8 (bits .and .u8 a 192) 192 == bits .and .u8 x 192) = decide (a / 64 = x / 64) := by
  obtain ⟨i, rfl⟩ := byte_fin ha
  obtain ⟨j, rfl⟩ := byte_fin hx
  have hi := i.isLt
  rw [and_f6 i, and_f6 j]
  have e : (i.val : Int) / 64 * 64 = (((i.val / 64 * 64 : Nat)) : Int) := by omega
  rw [e, and_f6 ⟨i.val / 64 * 64, by omega⟩, Bool.eq_iff_iff, beq_iff_eq, decide_eq_true_eq]
  simp only []
  omega
theorem and_f7 : ∀ i : Fin 256, bits .and .u8 (i.val : Int) 128 = (i.val : Int) / 128 * 128 := by decide +kernel
theorem top_128 {a x : Int} (ha : Byte a) (hx : Byte x) : (bits .and .u8 (bits .and .u8 a 128) 128 == bits .and .u8 x 128) = decide (a / 128 = x / 128) := by
  obtain ⟨i, rfl⟩ := byte_fin ha
  obtain ⟨j, rfl⟩ := byte_fin hx
  have hi := i.isLt
  rw [and_f7 i, and_f7 j]
  have e : (i.val : Int) / 128 * 128 = (((i.val / 128 * 128 : Nat)) : Int) := by omega
  rw [e, and_f7 ⟨i.val / 128 * 128, by omega⟩, Bool.eq_iff_iff, beq_iff_eq, decide_eq_true_eq]
  simp only []
  omega
theorem and_f8 : ∀ i : Fin 256, bits .and .u8 (i.val : Int) 0 = (i.val : Int) / 256 * 256 := by decide +kernel
theorem top_0 {a x : Int} (ha : Byte a) (hx : Byte x) : (bits .and .u8 (bits .and .u8 a 0) 0 == bits .and .u8 x 0) = decide (a / 256 = x / 256) := by
  obtain ⟨i, rfl⟩ := byte_fin ha
  obtain ⟨j, rfl⟩ := byte_fin hx
  have hi := i.isLt
  rw [and_f8 i, and_f8 j]
  have e : (i.val : Int) / 256 * 256 = (((i.val / 256 * 256 : Nat)) : Int) := by omega
  rw [e, and_f8 ⟨i.val / 256 * 256, by omega⟩, Bool.eq_iff_iff, beq_iff_eq, decide_eq_true_eq]
  simp only []
  omega
def num4 (a b c d : Int) : Int := a * 16777216 + b * 65536 + c * 256 + d
theorem under_four (n0 n1 n2 n3 m0 m1 m2 m3 x0 x1 x2 x3 : Int) : under [n0, n1, n2, n3] [m0, m1, m2, m3] [x0, x1, x2, x3] = ((bits .and .u8 n0 m0 == bits .and .u8 x0 m0) && ((bits .and .u8 n1 m1 == bits .and .u8 x1 m1) && ((bits .and .u8 n2 m2 == bits .and .u8 x2 m2) && (bits .and .u8 n3 m3 == bits .and .u8 x3 m3)))) := by
  simp [under, List.zip, List.zipWith]

theorem net_0 {a b c d x0 x1 x2 x3 : Int} (ha : Byte a) (hb : Byte b) (hc : Byte c) (hd : Byte d) (h0 : Byte x0) (h1 : Byte x1) (h2 : Byte x2) (h3 : Byte x3) :
    mask4 0 = [0, 0, 0, 0] ∧ under [bits .and .u8 a 0, bits .and .u8 b 0, bits .and .u8 c 0, bits .and .u8 d 0] [0, 0, 0, 0] [x0, x1, x2, x3] = (num4 x0 x1 x2 x3 / 4294967296 == num4 a b c d / 4294967296) := by
  refine ⟨by decide +kernel, ?_⟩
  rw [under_four, top_0 ha h0, top_0 hb h1, top_0 hc h2, top_0 hd h3, Bool.eq_iff_iff]
  simp only [Bool.and_eq_true, decide_eq_true_eq, beq_iff_eq]
  unfold Byte at *
  unfold num4
  omega
theorem net_1 {a b c d x0 x1 x2 x3 : Int} (ha : Byte a) (hb : Byte b) (hc : Byte c) (hd : Byte d) (h0 : Byte x0) (h1 : Byte x1) (h2 : Byte x2) (h3 : Byte x3) :
    mask4 1 = [128, 0, 0, 0] ∧ under [bits .and .u8 a 128, bits .and .u8 b 0, bits .and .u8 c 0, bits .and .u8 d 0] [128, 0, 0, 0] [x0, x1, x2, x3] = (num4 x0 x1 x2 x3 / 2147483648 == num4 a b c d / 2147483648) := by
  refine ⟨by decide +kernel, ?_⟩
  rw [under_four, top_128 ha h0, top_0 hb h1, top_0 hc h2, top_0 hd h3, Bool.eq_iff_iff]
  simp only [Bool.and_eq_true, decide_eq_true_eq, beq_iff_eq]
  unfold Byte at *
  unfold num4
  omega
theorem net_2 {a b c d x0 x1 x2 x3 : Int} (ha : Byte a) (hb : Byte b) (hc : Byte c) (hd : Byte d) (h0 : Byte x0) (h1 : Byte x1) (h2 : Byte x2) (h3 : Byte x3) :
    mask4 2 = [192, 0, 0, 0] ∧ under [bits .and .u8 a 192, bits .and .u8 b 0, bits .and .u8 c 0, bits .and .u8 d 0] [192, 0, 0, 0] [x0, x1, x2, x3] = (num4 x0 x1 x2 x3 / 1073741824 == num4 a b c d / 1073741824) := by
  refine ⟨by decide +kernel, ?_⟩
  rw [under_four, top_192 ha h0, top_0 hb h1, top_0 hc h2, top_0 hd h3, Bool.eq_iff_iff]
  simp only [Bool.and_eq_true, decide_eq_true_eq, beq_iff_eq]
  unfold Byte at *
  unfold num4
  omega
theorem net_3 {a b c d x0 x1 x2 x3 : Int} (ha : Byte a) (hb : Byte b) (hc : Byte c) (hd : Byte d) (h0 : Byte x0) (h1 : Byte x1) (h2 : Byte x2) (h3 : Byte x3) :
    mask4 3 = [224, 0, 0, 0] ∧ under [bits .and .u8 a 224, bits .and .u8 b 0, bits .and .u8 c 0, bits .and .u8 d 0] [224, 0, 0, 0] [x0, x1, x2, x3] = (num4 x0 x1 x2 x3 / 536870912 == num4 a b c d / 536870912) := by
  refine ⟨by decide +kernel, ?_⟩
  rw [under_four, top_224 ha h0, top_0 hb h1, top_0 hc h2, top_0 hd h3, Bool.eq_iff_iff]
  simp only [Bool.and_eq_true, decide_eq_true_eq, beq_iff_eq]
  unfold Byte at *
  unfold num4
  omega
theorem net_4 {a b c d x0 x1 x2 x3 : Int} (ha : Byte a) (hb : Byte b) (hc : Byte c) (hd : Byte d) (h0 : Byte x0) (h1 : Byte x1) (h2 : Byte x2) (h3 : Byte x3) :
    mask4 4 = [240, 0, 0, 0] ∧ under [bits .and .u8 a 240, bits .and .u8 b 0, bits .and .u8 c 0, bits .and .u8 d 0] [240, 0, 0, 0] [x0, x1, x2, x3] = (num4 x0 x1 x2 x3 / 268435456 == num4 a b c d / 268435456) := by
  refine ⟨by decide +kernel, ?_⟩
  rw [under_four, top_240 ha h0, top_0 hb h1, top_0 hc h2, top_0 hd h3, Bool.eq_iff_iff]
  simp only [Bool.and_eq_true, decide_eq_true_eq, beq_iff_eq]
  unfold Byte at *
  unfold num4
  omega
theorem net_5 {a b c d x0 x1 x2 x3 : Int} (ha : Byte a) (hb : Byte b) (hc : Byte c) (hd : Byte d) (h0 : Byte x0) (h1 : Byte x1) (h2 : Byte x2) (h3 : Byte x3) :
    mask4 5 = [248, 0, 0, 0] ∧ under [bits .and .u8 a 248, bits .and .u8 b 0, bits .and .u8 c 0, bits .and .u8 d 0] [248, 0, 0, 0] [x0, x1, x2, x3] = (num4 x0 x1 x2 x3 / 134217728 == num4 a b c d / 134217728) := by
  refine ⟨by decide +kernel, ?_⟩
  rw [under_four, top_248 ha h0, top_0 hb h1, top_0 hc h2, top_0 hd h3, Bool.eq_iff_iff]
  simp only [Bool.and_eq_true, decide_eq_true_eq, beq_iff_eq]
  unfold Byte at *
  unfold num4
  omega
theorem net_6 {a b c d x0 x1 x2 x3 : Int} (ha : Byte a) (hb : Byte b) (hc : Byte c) (hd : Byte d) (h0 : Byte x0) (h1 : Byte x1) (h2 : Byte x2) (h3 : Byte x3) :
    mask4 6 = [252, 0, 0, 0] ∧ under [bits .and .u8 a 252, bits .and .u8 b 0, bits .and .u8 c 0, bits .and .u8 d 0] [252, 0, 0, 0] [x0, x1, x2, x3] = (num4 x0 x1 x2 x3 / 67108864 == num4 a b c d / 67108864) := by
  refine ⟨by decide +kernel, ?_⟩
  rw [under_four, top_252 ha h0, top_0 hb h1, top_0 hc h2, top_0 hd h3, Bool.eq_iff_iff]
  simp only [Bool.and_eq_true, decide_eq_true_eq, beq_iff_eq]
  unfold Byte at *
  unfold num4
  omega
theorem net_7 {a b c d x0 x1 x2 x3 : Int} (ha : Byte a) (hb : Byte b) (hc : Byte c) (hd : Byte d) (h0 : Byte x0) (h1 : Byte x1) (h2 : Byte x2) (h3 : Byte x3) :
    mask4 7 = [254, 0, 0, 0] ∧ under [bits .and .u8 a 254, bits .and .u8 b 0, bits .and .u8 c 0, bits .and .u8 d 0] [254, 0, 0, 0] [x0, x1, x2, x3] = (num4 x0 x1 x2 x3 / 33554432 == num4 a b c d / 33554432) := by
  refine ⟨by decide +kernel, ?_⟩
  rw [under_four, top_254 ha h0, top_0 hb h1, top_0 hc h2, top_0 hd h3, Bool.eq_iff_iff]
  simp only [Bool.and_eq_true, decide_eq_true_eq, beq_iff_eq]
  unfold Byte at *
  unfold num4
  omega
theorem net_8 {a b c d x0 x1 x2 x3 : Int} (ha : Byte a) (hb : Byte b) (hc : Byte c) (hd : Byte d) (h0 : Byte x0) (h1 : Byte x1) (h2 : Byte x2) (h3 : Byte x3) :
    mask4 8 = [255, 0, 0, 0] ∧ under [bits .and .u8 a 255, bits .and .u8 b 0, bits .and .u8 c 0, bits .and .u8 d 0] [255, 0, 0, 0] [x0, x1, x2, x3] = (num4 x0 x1 x2 x3 / 16777216 == num4 a b c d / 16777216) := by
  refine ⟨by decide +kernel, ?_⟩
  rw [under_four, top_255 ha h0, top_0 hb h1, top_0 hc h2, top_0 hd h3, Bool.eq_iff_iff]
  simp only [Bool.and_eq_true, decide_eq_true_eq, beq_iff_eq]
  unfold Byte at *
  unfold num4
  omega
theorem net_9 {a b c d x0 x1 x2 x3 : Int} (ha : Byte a) (hb : Byte b) (hc : Byte c) (hd : Byte d) (h0 : Byte x0) (h1 : Byte x1) (h2 : Byte x2) (h3 : Byte x3) :
    mask4 9 = [255, 128, 0, 0] ∧ under [bits .and .u8 a 255, bits .and .u8 b 128, bits .and .u8 c 0, bits .and .u8 d 0] [255, 128, 0, 0] [x0, x1, x2, x3] = (num4 x0 x1 x2 x3 / 8388608 == num4 a b c d / 8388608) := by
  refine ⟨by decide +kernel, ?_⟩
  rw [under_four, top_255 ha h0, top_128 hb h1, top_0 hc h2, top_0 hd h3, Bool.eq_iff_iff]
  simp only [Bool.and_eq_true, decide_eq_true_eq, beq_iff_eq]
  unfold Byte at *
  unfold num4
  omega
theorem net_10 {a b c d x0 x1 x2 x3 : Int} (ha : Byte a) (hb : Byte b) (hc : Byte c) (hd : Byte d) (h0 : Byte x0) (h1 : Byte x1) (h2 : Byte x2) (h3 : Byte x3) :
    mask4 10 = [255, 192, 0, 0] ∧ under [bits .and .u8 a 255, bits .and .u8 b 192, bits .and .u8 c 0, bits .and .u8 d 0] [255, 192, 0, 0] [x0, x1, x2, x3] = (num4 x0 x1 x2 x3 / 4194304 == num4 a b c d / 4194304) := by
  refine ⟨by decide +kernel, ?_⟩
  rw [under_four, top_255 ha h0, top_192 hb h1, top_0 hc h2, top_0 hd h3, Bool.eq_iff_iff]
  simp only [Bool.and_eq_true, decide_eq_true_eq, beq_iff_eq]
  unfold Byte at *
  unfold num4
  omega
theorem net_11 {a b c d x0 x1 x2 x3 : Int} (ha : Byte a) (hb : Byte b) (hc : Byte c) (hd : Byte d) (h0 : Byte x0) (h1 : Byte x1) (h2 : Byte x2) (h3 : Byte x3) :
    mask4 11 = [255, 224, 0, 0] ∧ under [bits .and .u8 a 255, bits .and .u8 b 224, bits .and .u8 c 0, bits .and .u8 d 0] [255, 224, 0, 0] [x0, x1, x2, x3] = (num4 x0 x1 x2 x3 / 2097152 == num4 a b c d / 2097152) := by
  refine ⟨by decide +kernel, ?_⟩
  rw [under_four, top_255 ha h0, top_224 hb h1, top_0 hc h2, top_0 hd h3, Bool.eq_iff_iff]
  simp only [Bool.and_eq_true, decide_eq_true_eq, beq_iff_eq]
  unfold Byte at *
  unfold num4
  omega
theorem net_12 {a b c d x0 x1 x2 x3 : Int} (ha : Byte a) (hb : Byte b) (hc : Byte c) (hd : Byte d) (h0 : Byte x0) (h1 : Byte x1) (h2 : Byte x2) (h3 : Byte x3) :
    mask4 12 = [255, 240, 0, 0] ∧ under [bits .and .u8 a 255, bits .and .u8 b 240, bits .and .u8 c 0, bits .and .u8 d 0] [255, 240, 0, 0] [x0, x1, x2, x3] = (num4 x0 x1 x2 x3 / 1048576 == num4 a b c d / 1048576) := by
  refine ⟨by decide +kernel, ?_⟩
  rw [under_four, top_255 ha h0, top_240 hb h1, top_0 hc h2, top_0 hd h3, Bool.eq_iff_iff]
  simp only [Bool.and_eq_true, decide_eq_true_eq, beq_iff_eq]
  unfold Byte at *
  unfold num4
  omega
theorem net_13 {a b c d x0 x1 x2 x3 : Int} (ha : Byte a) (hb : Byte b) (hc : Byte c) (hd : Byte d) (h0 : Byte x0) (h1 : Byte x1) (h2 : Byte x2) (h3 : Byte x3) :
    mask4 13 = [255, 248, 0, 0] ∧ under [bits .and .u8 a 255, bits .and .u8 b 248, bits .and .u8 c 0, bits .and .u8 d 0] [255, 248, 0, 0] [x0, x1, x2, x3] = (num4 x0 x1 x2 x3 / 524288 == num4 a b c d / 524288) := by
  refine ⟨by decide +kernel, ?_⟩
  rw [under_four, top_255 ha h0, top_248 hb h1, top_0 hc h2, top_0 hd h3, Bool.eq_iff_iff]
  simp only [Bool.and_eq_true, decide_eq_true_eq, beq_iff_eq]
  unfold Byte at *
  unfold num4
  omega
theorem net_14 {a b c d x0 x1 x2 x3 : Int} (ha : Byte a) (hb : Byte b) (hc : Byte c) (hd : Byte d) (h0 : Byte x0) (h1 : Byte x1) (h2 : Byte x2) (h3 : Byte x3) :
    mask4 14 = [255, 252, 0, 0] ∧ under [bits .and .u8 a 255, bits .and .u8 b 252, bits .and .u8 c 0, bits .and .u8 d 0] [255, 252, 0, 0] [x0, x1, x2, x3] = (num4 x0 x1 x2 x3 / 262144 == num4 a b c d / 262144) := by
  refine ⟨by decide +kernel, ?_⟩
  rw [under_four, top_255 ha h0, top_252 hb h1, top_0 hc h2, top_0 hd h3, Bool.eq_iff_iff]
  simp only [Bool.and_eq_true, decide_eq_true_eq, beq_iff_eq]
  unfold Byte at *
  unfold num4
  omega
theorem net_15 {a b c d x0 x1 x2 x3 : Int} (ha : Byte a) (hb : Byte b) (hc : Byte c) (hd : Byte d) (h0 : Byte x0) (h1 : Byte x1) (h2 : Byte x2) (h3 : Byte x3) :
    mask4 15 = [255, 254, 0, 0] ∧ under [bits .and .u8 a 255, bits .and .u8 b 254, bits .and .u8 c 0, bits .and .u8 d 0] [255, 254, 0, 0] [x0, x1, x2, x3] = (num4 x0 x1 x2 x3 / 131072 == num4 a b c d / 131072) := by
  refine ⟨by decide +kernel, ?_⟩
  rw [under_four, top_255 ha h0, top_254 hb h1, top_0 hc h2, top_0 hd h3, Bool.eq_iff_iff]
  simp only [Bool.and_eq_true, decide_eq_true_eq, beq_iff_eq]
  unfold Byte at *
  unfold num4
  omega
theorem net_16 {a b c d x0 x1 x2 x3 : Int} (ha : Byte a) (hb : Byte b) (hc : Byte c) (hd : Byte d) (h0 : Byte x0) (h1 : Byte x1) (h2 : Byte x2) (h3 : Byte x3) :
    mask4 16 = [255, 255, 0, 0] ∧ under [bits .and .u8 a 255, bits .and .u8 b 255, bits .and .u8 c 0, bits .and .u8 d 0] [255, 255, 0, 0] [x0, x1, x2, x3] = (num4 x0 x1 x2 x3 / 65536 == num4 a b c d / 65536) := by
  refine ⟨by decide +kernel, ?_⟩
  rw [under_four, top_255 ha h0, top_255 hb h1, top_0 hc h2, top_0 hd h3, Bool.eq_iff_iff]
  simp only [Bool.and_eq_true, decide_eq_true_eq, beq_iff_eq]
  unfold Byte at *
  unfold num4
  omega
theorem net_17 {a b c d x0 x1 x2 x3 : Int} (ha : Byte a) (hb : Byte b) (hc : Byte c) (hd : Byte d) (h0 : Byte x0) (h1 : Byte x1) (h2 : Byte x2) (h3 : Byte x3) :
    mask4 17 = [255, 255, 128, 0] ∧ under [bits .and .u8 a 255, bits .and .u8 b 255, bits .and .u8 c 128, bits .and .u8 d 0] [255, 255, 128, 0] [x0, x1, x2, x3] = (num4 x0 x1 x2 x3 / 32768 == num4 a b c d / 32768) := by
  refine ⟨by decide +kernel, ?_⟩
  rw [under_four, top_255 ha h0, top_255 hb h1, top_128 hc h2, top_0 hd h3, Bool.eq_iff_iff]
  simp only [Bool.and_eq_true, decide_eq_true_eq, beq_iff_eq]
  unfold Byte at *
  unfold num4
  omega
theorem net_18 {a b c d x0 x1 x2 x3 : Int} (ha : Byte a) (hb : Byte b) (hc : Byte c) (hd : Byte d) (h0 : Byte x0) (h1 : Byte x1) (h2 : Byte x2) (h3 : Byte x3) :
    mask4 18 = [255, 255, 192, 0] ∧ under [bits .and .u8 a 255, bits .and .u8 b 255, bits .and .u8 c 192, bits .and .u8 d 0] [255, 255, 192, 0] [x0, x1, x2, x3] = (num4 x0 x1 x2 x3 / 16384 == num4 a b c d / 16384) := by
  refine ⟨by decide +kernel, ?_⟩
  rw [under_four, top_255 ha h0, top_255 hb h1, top_192 hc h2, top_0 hd h3, Bool.eq_iff_iff]
  simp only [Bool.and_eq_true, decide_eq_true_eq, beq_iff_eq]
  unfold Byte at *
  unfold num4
  omega
theorem net_19 {a b c d x0 x1 x2 x3 : Int} (ha : Byte a) (hb : Byte b) (hc : Byte c) (hd : Byte d) (h0 : Byte x0) (h1 : Byte x1) (h2 : Byte x2) (h3 : Byte x3) :
    mask4 19 = [255, 255, 224, 0] ∧ under [bits .and .u8 a 255, bits .and .u8 b 255, bits .and .u8 c 224, bits .and .u8 d 0] [255, 255, 224, 0] [x0, x1, x2, x3] = (num4 x0 x1 x2 x3 / 8192 == num4 a b c d / 8192) := by
  refine ⟨by decide +kernel, ?_⟩
  rw [under_four, top_255 ha h0, top_255 hb h1, top_224 hc h2, top_0 hd h3, Bool.eq_iff_iff]
  simp only [Bool.and_eq_true, decide_eq_true_eq, beq_iff_eq]
  unfold Byte at *
  unfold num4
  omega
theorem net_20 {a b c d x0 x1 x2 x3 : Int} (ha : Byte a) (hb : Byte b) (hc : Byte c) (hd : Byte d) (h0 : Byte x0) (h1 : Byte x1) (h2 : Byte x2) (h3 : Byte x3) :
    mask4 20 = [255, 255, 240, 0] ∧ under [bits .and .u8 a 255, bits .and .u8 b 255, bits .and .u8 c 240, bits .and .u8 d 0] [255, 255, 240, 0] [x0, x1, x2, x3] = (num4 x0 x1 x2 x3 / 4096 == num4 a b c d / 4096) := by
  refine ⟨by decide +kernel, ?_⟩
  rw [under_four, top_255 ha h0, top_255 hb h1, top_240 hc h2, top_0 hd h3, Bool.eq_iff_iff]
  simp only [Bool.and_eq_true, decide_eq_true_eq, beq_iff_eq]
  unfold Byte at *
  unfold num4
  omega
theorem net_21 {a b c d x0 x1 x2 x3 : Int} (ha : Byte a) (hb : Byte b) (hc : Byte c) (hd : Byte d) (h0 : Byte x0) (h1 : Byte x1) (h2 : Byte x2) (h3 : Byte x3) :
    mask4 21 = [255, 255, 248, 0] ∧ under [bits .and .u8 a 255, bits .and .u8 b 255, bits .and .u8 c 248, bits .and .u8 d 0] [255, 255, 248, 0] [x0, x1, x2, x3] = (num4 x0 x1 x2 x3 / 2048 == num4 a b c d / 2048) := by
  refine ⟨by decide +kernel, ?_⟩
  rw [under_four, top_255 ha h0, top_255 hb h1, top_248 hc h2, top_0 hd h3, Bool.eq_iff_iff]
  simp only [Bool.and_eq_true, decide_eq_true_eq, beq_iff_eq]
  unfold Byte at *
  unfold num4
  omega
theorem net_22 {a b c d x0 x1 x2 x3 : Int} (ha : Byte a) (hb : Byte b) (hc : Byte c) (hd : Byte d) (h0 : Byte x0) (h1 : Byte x1) (h2 : Byte x2) (h3 : Byte x3) :
    mask4 22 = [255, 255, 252, 0] ∧ under [bits .and .u8 a 255, bits .and .u8 b 255, bits .and .u8 c 252, bits .and .u8 d 0] [255, 255, 252, 0] [x0, x1, x2, x3] = (num4 x0 x1 x2 x3 / 1024 == num4 a b c d / 1024) := by
  refine ⟨by decide +kernel, ?_⟩
  rw [under_four, top_255 ha h0, top_255 hb h1, top_252 hc h2, top_0 hd h3, Bool.eq_iff_iff]
  simp only [Bool.and_eq_true, decide_eq_true_eq, beq_iff_eq]
  unfold Byte at *
  unfold num4
  omega
theorem net_23 {a b c d x0 x1 x2 x3 : Int} (ha : Byte a) (hb : Byte b) (hc : Byte c) (hd : Byte d) (h0 : Byte x0) (h1 : Byte x1) (h2 : Byte x2) (h3 : Byte x3) :
    mask4 23 = [255, 255, 254, 0] ∧ under [bits .and .u8 a 255, bits .and .u8 b 255, bits .and .u8 c 254, bits .and .u8 d 0] [255, 255, 254, 0] [x0, x1, x2, x3] = (num4 x0 x1 x2 x3 / 512 == num4 a b c d / 512) := by
  refine ⟨by decide +kernel, ?_⟩
  rw [under_four, top_255 ha h0, top_255 hb h1, top_254 hc h2, top_0 hd h3, Bool.eq_iff_iff]
  simp only [Bool.and_eq_true, decide_eq_true_eq, beq_iff_eq]
  unfold Byte at *
  unfold num4
  omega
theorem net_24 {a b c d x0 x1 x2 x3 : Int} (ha : Byte a) (hb : Byte b) (hc : Byte c) (hd : Byte d) (h0 : Byte x0) (h1 : Byte x1) (h2 : Byte x2) (h3 : Byte x3) :
    mask4 24 = [255, 255, 255, 0] ∧ under [bits .and .u8 a 255, bits .and .u8 b 255, bits .and .u8 c 255, bits .and .u8 d 0] [255, 255, 255, 0] [x0, x1, x2, x3] = (num4 x0 x1 x2 x3 / 256 == num4 a b c d / 256) := by
  refine ⟨by decide +kernel, ?_⟩
  rw [under_four, top_255 ha h0, top_255 hb h1, top_255 hc h2, top_0 hd h3, Bool.eq_iff_iff]
  simp only [Bool.and_eq_true, decide_eq_true_eq, beq_iff_eq]
  unfold Byte at *
  unfold num4
  omega
theorem net_25 {a b c d x0 x1 x2 x3 : Int} (ha : Byte a) (hb : Byte b) (hc : Byte c) (hd : Byte d) (h0 : Byte x0) (h1 : Byte x1) (h2 : Byte x2) (h3 : Byte x3) :
    mask4 25 = [255, 255, 255, 128] ∧ under [bits .and .u8 a 255, bits .and .u8 b 255, bits .and .u8 c 255, bits .and .u8 d 128] [255, 255, 255, 128] [x0, x1, x2, x3] = (num4 x0 x1 x2 x3 / 128 == num4 a b c d / 128) := by
  refine ⟨by decide +kernel, ?_⟩
  rw [under_four, top_255 ha h0, top_255 hb h1, top_255 hc h2, top_128 hd h3, Bool.eq_iff_iff]
  simp only [Bool.and_eq_true, decide_eq_true_eq, beq_iff_eq]
  unfold Byte at *
  unfold num4
  omega
theorem net_26 {a b c d x0 x1 x2 x3 : Int} (ha : Byte a) (hb : Byte b) (hc : Byte c) (hd : Byte d) (h0 : Byte x0) (h1 : Byte x1) (h2 : Byte x2) (h3 : Byte x3) :
    mask4 26 = [255, 255, 255, 192] ∧ under [bits .and .u8 a 255, bits .and .u8 b 255, bits .and .u8 c 255, bits .and .u8 d 192] [255, 255, 255, 192] [x0, x1, x2, x3] = (num4 x0 x1 x2 x3 / 64 == num4 a b c d / 64) := by
  refine ⟨by decide +kernel, ?_⟩
  rw [under_four, top_255 ha h0, top_255 hb h1, top_255 hc h2, top_192 hd h3, Bool.eq_iff_iff]
  simp only [Bool.and_eq_true, decide_eq_true_eq, beq_iff_eq]
  unfold Byte at *
  unfold num4
  omega
theorem net_27 {a b c d x0 x1 x2 x3 : Int} (ha : Byte a) (hb : Byte b) (hc : Byte c) (hd : Byte d) (h0 : Byte x0) (h1 : Byte x1) (h2 : Byte x2) (h3 : Byte x3) :
    mask4 27 = [255, 255, 255, 224] ∧ under [bits .and .u8 a 255, bits .and .u8 b 255, bits .and .u8 c 255, bits .and .u8 d 224] [255, 255, 255, 224] [x0, x1, x2, x3] = (num4 x0 x1 x2 x3 / 32 == num4 a b c d / 32) := by
  refine ⟨by decide +kernel, ?_⟩
  rw [under_four, top_255 ha h0, top_255 hb h1, top_255 hc h2, top_224 hd h3, Bool.eq_iff_iff]
  simp only [Bool.and_eq_true, decide_eq_true_eq, beq_iff_eq]
  unfold Byte at *
  unfold num4
  omega
theorem net_28 {a b c d x0 x1 x2 x3 : Int} (ha : Byte a) (hb : Byte b) (hc : Byte c) (hd : Byte d) (h0 : Byte x0) (h1 : Byte x1) (h2 : Byte x2) (h3 : Byte x3) :
    mask4 28 = [255, 255, 255, 240] ∧ under [bits .and .u8 a 255, bits .and .u8 b 255, bits .and .u8 c 255, bits .and .u8 d 240] [255, 255, 255, 240] [x0, x1, x2, x3] = (num4 x0 x1 x2 x3 / 16 == num4 a b c d / 16) := by
  refine ⟨by decide +kernel, ?_⟩
  rw [under_four, top_255 ha h0, top_255 hb h1, top_255 hc h2, top_240 hd h3, Bool.eq_iff_iff]
  simp only [Bool.and_eq_true, decide_eq_true_eq, beq_iff_eq]
  unfold Byte at *
  unfold num4
  omega
theorem net_29 {a b c d x0 x1 x2 x3 : Int} (ha : Byte a) (hb : Byte b) (hc : Byte c) (hd : Byte d) (h0 : Byte x0) (h1 : Byte x1) (h2 : Byte x2) (h3 : Byte x3) :
    mask4 29 = [255, 255, 255, 248] ∧ under [bits .and .u8 a 255, bits .and .u8 b 255, bits .and .u8 c 255, bits .and .u8 d 248] [255, 255, 255, 248] [x0, x1, x2, x3] = (num4 x0 x1 x2 x3 / 8 == num4 a b c d / 8) := by
  refine ⟨by decide +kernel, ?_⟩
  rw [under_four, top_255 ha h0, top_255 hb h1, top_255 hc h2, top_248 hd h3, Bool.eq_iff_iff]
  simp only [Bool.and_eq_true, decide_eq_true_eq, beq_iff_eq]
  unfold Byte at *
  unfold num4
  omega
theorem net_30 {a b c d x0 x1 x2 x3 : Int} (ha : Byte a) (hb : Byte b) (hc : Byte c) (hd : Byte d) (h0 : Byte x0) (h1 : Byte x1) (h2 : Byte x2) (h3 : Byte x3) :
    mask4 30 = [255, 255, 255, 252] ∧ under [bits .and .u8 a 255, bits .and .u8 b 255, bits .and .u8 c 255, bits .and .u8 d 252] [255, 255, 255, 252] [x0, x1, x2, x3] = (num4 x0 x1 x2 x3 / 4 == num4 a b c d / 4) := by
  refine ⟨by decide +kernel, ?_⟩
  rw [under_four, top_255 ha h0, top_255 hb h1, top_255 hc h2, top_252 hd h3, Bool.eq_iff_iff]
  simp only [Bool.and_eq_true, decide_eq_true_eq, beq_iff_eq]
  unfold Byte at *
  unfold num4
  omega
theorem net_31 {a b c d x0 x1 x2 x3 : Int} (ha : Byte a) (hb : Byte b) (hc : Byte c) (hd : Byte d) (h0 : Byte x0) (h1 : Byte x1) (h2 : Byte x2) (h3 : Byte x3) :
    mask4 31 = [255, 255, 255, 254] ∧ under [bits .and .u8 a 255, bits .and .u8 b 255, bits .and .u8 c 255, bits .and .u8 d 254] [255, 255, 255, 254] [x0, x1, x2, x3] = (num4 x0 x1 x2 x3 / 2 == num4 a b c d / 2) := by
  refine ⟨by decide +kernel, ?_⟩
  rw [under_four, top_255 ha h0, top_255 hb h1, top_255 hc h2, top_254 hd h3, Bool.eq_iff_iff]
  simp only [Bool.and_eq_true, decide_eq_true_eq, beq_iff_eq]
  unfold Byte at *
  unfold num4
  omega
theorem net_32 {a b c d x0 x1 x2 x3 : Int} (ha : Byte a) (hb : Byte b) (hc : Byte c) (hd : Byte d) (h0 : Byte x0) (h1 : Byte x1) (h2 : Byte x2) (h3 : Byte x3) :
    mask4 32 = [255, 255, 255, 255] ∧ under [bits .and .u8 a 255, bits .and .u8 b 255, bits .and .u8 c 255, bits .and .u8 d 255] [255, 255, 255, 255] [x0, x1, x2, x3] = (num4 x0 x1 x2 x3 / 1 == num4 a b c d / 1) := by
  refine ⟨by decide +kernel, ?_⟩
  rw [under_four, top_255 ha h0, top_255 hb h1, top_255 hc h2, top_255 hd h3, Bool.eq_iff_iff]
  simp only [Bool.and_eq_true, decide_eq_true_eq, beq_iff_eq]
  unfold Byte at *
  unfold num4
  omega
theorem shr_0 (X : Int) : shr .i64 X (wrap64 (32 - 0)) = X / 4294967296 := by
  unfold shr
  rw [show (2 : Int) ^ min (wrap64 (32 - 0)).toNat IntKind.i64.bits = 4294967296 from by decide +kernel]
theorem shr_1 (X : Int) : shr .i64 X (wrap64 (32 - 1)) = X / 2147483648 := by
  unfold shr
  rw [show (2 : Int) ^ min (wrap64 (32 - 1)).toNat IntKind.i64.bits = 2147483648 from by decide +kernel]
theorem shr_2 (X : Int) : shr .i64 X (wrap64 (32 - 2)) = X / 1073741824 := by
  unfold shr
  rw [show (2 : Int) ^ min (wrap64 (32 - 2)).toNat IntKind.i64.bits = 1073741824 from by decide +kernel]
theorem shr_3 (X : Int) : shr .i64 X (wrap64 (32 - 3)) = X / 536870912 := by
  unfold shr
  rw [show (2 : Int) ^ min (wrap64 (32 - 3)).toNat IntKind.i64.bits = 536870912 from by decide +kernel]
theorem shr_4 (X : Int) : shr .i64 X (wrap64 (32 - 4)) = X / 268435456 := by
  unfold shr
  rw [show (2 : Int) ^ min (wrap64 (32 - 4)).toNat IntKind.i64.bits = 268435456 from by decide +kernel]
theorem shr_5 (X : Int) : shr .i64 X (wrap64 (32 - 5)) = X / 134217728 := by
  unfold shr
  rw [show (2 : Int) ^ min (wrap64 (32 - 5)).toNat IntKind.i64.bits = 134217728 from by decide +kernel]
theorem shr_6 (X : Int) : shr .i64 X (wrap64 (32 - 6)) = X / 67108864 := by
  unfold shr
  rw [show (2 : Int) ^ min (wrap64 (32 - 6)).toNat IntKind.i64.bits = 67108864 from by decide +kernel]
theorem shr_7 (X : Int) : shr .i64 X (wrap64 (32 - 7)) = X / 33554432 := by
  unfold shr
  rw [show (2 : Int) ^ min (wrap64 (32 - 7)).toNat IntKind.i64.bits = 33554432 from by decide +kernel]
theorem shr_8 (X : Int) : shr .i64 X (wrap64 (32 - 8)) = X / 16777216 := by
  unfold shr
  rw [show (2 : Int) ^ min (wrap64 (32 - 8)).toNat IntKind.i64.bits = 16777216 from by decide +kernel]
theorem shr_9 (X : Int) : shr .i64 X (wrap64 (32 - 9)) = X / 8388608 := by
  unfold shr
  rw [show (2 : Int) ^ min (wrap64 (32 - 9)).toNat IntKind.i64.bits = 8388608 from by decide +kernel]
theorem shr_10 (X : Int) : shr .i64 X (wrap64 (32 - 10)) = X / 4194304 := by
  unfold shr
  rw [show (2 : Int) ^ min (wrap64 (32 - 10)).toNat IntKind.i64.bits = 4194304 from by decide +kernel]
theorem shr_11 (X : Int) : shr .i64 X (wrap64 (32 - 11)) = X / 2097152 := by
  unfold shr
  rw [show (2 : Int) ^ min (wrap64 (32 - 11)).toNat IntKind.i64.bits = 2097152 from by decide +kernel]
theorem shr_12 (X : Int) : shr .i64 X (wrap64 (32 - 12)) = X / 1048576 := by
  unfold shr
  rw [show (2 : Int) ^ min (wrap64 (32 - 12)).toNat IntKind.i64.bits = 1048576 from by decide +kernel]
theorem shr_13 (X : Int) : shr .i64 X (wrap64 (32 - 13)) = X / 524288 := by
  unfold shr
  rw [show (2 : Int) ^ min (wrap64 (32 - 13)).toNat IntKind.i64.bits = 524288 from by decide +kernel]
theorem shr_14 (X : Int) : shr .i64 X (wrap64 (32 - 14)) = X / 262144 := by
  unfold shr
  rw [show (2 : Int) ^ min (wrap64 (32 - 14)).toNat IntKind.i64.bits = 262144 from by decide +kernel]
theorem shr_15 (X : Int) : shr .i64 X (wrap64 (32 - 15)) = X / 131072 := by
  unfold shr
  rw [show (2 : Int) ^ min (wrap64 (32 - 15)).toNat IntKind.i64.bits = 131072 from by decide +kernel]
theorem shr_16 (X : Int) : shr .i64 X (wrap64 (32 - 16)) = X / 65536 := by
  unfold shr
  rw [show (2 : Int) ^ min (wrap64 (32 - 16)).toNat IntKind.i64.bits = 65536 from by decide +kernel]
theorem shr_17 (X : Int) : shr .i64 X (wrap64 (32 - 17)) = X / 32768 := by
  unfold shr
  rw [show (2 : Int) ^ min (wrap64 (32 - 17)).toNat IntKind.i64.bits = 32768 from by decide +kernel]
theorem shr_18 (X : Int) : shr .i64 X (wrap64 (32 - 18)) = X / 16384 := by
  unfold shr
  rw [show (2 : Int) ^ min (wrap64 (32 - 18)).toNat IntKind.i64.bits = 16384 from by decide +kernel]
theorem shr_19 (X : Int) : shr .i64 X (wrap64 (32 - 19)) = X / 8192 := by
  unfold shr
  rw [show (2 : Int) ^ min (wrap64 (32 - 19)).toNat IntKind.i64.bits = 8192 from by decide +kernel]
theorem shr_20 (X : Int) : shr .i64 X (wrap64 (32 - 20)) = X / 4096 := by
  unfold shr
  rw [show (2 : Int) ^ min (wrap64 (32 - 20)).toNat IntKind.i64.bits = 4096 from by decide +kernel]
theorem shr_21 (X : Int) : shr .i64 X (wrap64 (32 - 21)) = X / 2048 := by
  unfold shr
  rw [show (2 : Int) ^ min (wrap64 (32 - 21)).toNat IntKind.i64.bits = 2048 from by decide +kernel]
theorem shr_22 (X : Int) : shr .i64 X (wrap64 (32 - 22)) = X / 1024 := by
  unfold shr
  rw [show (2 : Int) ^ min (wrap64 (32 - 22)).toNat IntKind.i64.bits = 1024 from by decide +kernel]
theorem shr_23 (X : Int) : shr .i64 X (wrap64 (32 - 23)) = X / 512 := by
  unfold shr
  rw [show (2 : Int) ^ min (wrap64 (32 - 23)).toNat IntKind.i64.bits = 512 from by decide +kernel]
theorem shr_24 (X : Int) : shr .i64 X (wrap64 (32 - 24)) = X / 256 := by
  unfold shr
  rw [show (2 : Int) ^ min (wrap64 (32 - 24)).toNat IntKind.i64.bits = 256 from by decide +kernel]
theorem shr_25 (X : Int) : shr .i64 X (wrap64 (32 - 25)) = X / 128 := by
  unfold shr
  rw [show (2 : Int) ^ min (wrap64 (32 - 25)).toNat IntKind.i64.bits = 128 from by decide +kernel]
theorem shr_26 (X : Int) : shr .i64 X (wrap64 (32 - 26)) = X / 64 := by
  unfold shr
  rw [show (2 : Int) ^ min (wrap64 (32 - 26)).toNat IntKind.i64.bits = 64 from by decide +kernel]
theorem shr_27 (X : Int) : shr .i64 X (wrap64 (32 - 27)) = X / 32 := by
  unfold shr
  rw [show (2 : Int) ^ min (wrap64 (32 - 27)).toNat IntKind.i64.bits = 32 from by decide +kernel]
theorem shr_28 (X : Int) : shr .i64 X (wrap64 (32 - 28)) = X / 16 := by
  unfold shr
  rw [show (2 : Int) ^ min (wrap64 (32 - 28)).toNat IntKind.i64.bits = 16 from by decide +kernel]
theorem shr_29 (X : Int) : shr .i64 X (wrap64 (32 - 29)) = X / 8 := by
  unfold shr
  rw [show (2 : Int) ^ min (wrap64 (32 - 29)).toNat IntKind.i64.bits = 8 from by decide +kernel]
theorem shr_30 (X : Int) : shr .i64 X (wrap64 (32 - 30)) = X / 4 := by
  unfold shr
  rw [show (2 : Int) ^ min (wrap64 (32 - 30)).toNat IntKind.i64.bits = 4 from by decide +kernel]
theorem shr_31 (X : Int) : shr .i64 X (wrap64 (32 - 31)) = X / 2 := by
  unfold shr
  rw [show (2 : Int) ^ min (wrap64 (32 - 31)).toNat IntKind.i64.bits = 2 from by decide +kernel]
theorem shr_32 (X : Int) : shr .i64 X (wrap64 (32 - 32)) = X / 1 := by
  unfold shr
  rw [show (2 : Int) ^ min (wrap64 (32 - 32)).toNat IntKind.i64.bits = 1 from by decide +kernel]

theorem net_all {n : Int} (k0 : 0 ≤ n) (k1 : n ≤ 32) {a b c d x0 x1 x2 x3 : Int} (ha : Byte a) (hb : Byte b) (hc : Byte c) (hd : Byte d) (h0 : Byte x0) (h1 : Byte x1) (h2 : Byte x2) (h3 : Byte x3) :
    ∃ m0 m1 m2 m3, mask4 n = [m0, m1, m2, m3] ∧ under [bits .and .u8 a m0, bits .and .u8 b m1, bits .and .u8 c m2, bits .and .u8 d m3] [m0, m1, m2, m3] [x0, x1, x2, x3] = (shr .i64 (num4 x0 x1 x2 x3) (wrap64 (32 - n)) == shr .i64 (num4 a b c d) (wrap64 (32 - n))) := by
  rcases (by omega : n = 0 ∨ n = 1 ∨ n = 2 ∨ n = 3 ∨ n = 4 ∨ n = 5 ∨ n = 6 ∨ n = 7 ∨ n = 8 ∨ n = 9 ∨ n = 10 ∨ n = 11 ∨ n = 12 ∨ n = 13 ∨ n = 14 ∨ n = 15 ∨ n = 16 ∨ n = 17 ∨ n = 18 ∨ n = 19 ∨ n = 20 ∨ n = 21 ∨ n = 22 ∨ n = 23 ∨ n = 24 ∨ n = 25 ∨ n = 26 ∨ n = 27 ∨ n = 28 ∨ n = 29 ∨ n = 30 ∨ n = 31 ∨ n = 32) with rfl | rfl | rfl | rfl | rfl | rfl | rfl | rfl | rfl | rfl | rfl | rfl | rfl | rfl | rfl | rfl | rfl | rfl | rfl | rfl | rfl | rfl | rfl | rfl | rfl | rfl | rfl | rfl | rfl | rfl | rfl | rfl | rfl
  · exact ⟨_, _, _, _, (net_0 ha hb hc hd h0 h1 h2 h3).1, by rw [shr_0, shr_0]; exact (net_0 ha hb hc hd h0 h1 h2 h3).2⟩
  · exact ⟨_, _, _, _, (net_1 ha hb hc hd h0 h1 h2 h3).1, by rw [shr_1, shr_1]; exact (net_1 ha hb hc hd h0 h1 h2 h3).2⟩
  · exact ⟨_, _, _, _, (net_2 ha hb hc hd h0 h1 h2 h3).1, by rw [shr_2, shr_2]; exact (net_2 ha hb hc hd h0 h1 h2 h3).2⟩
  · exact ⟨_, _, _, _, (net_3 ha hb hc hd h0 h1 h2 h3).1, by rw [shr_3, shr_3]; exact (net_3 ha hb hc hd h0 h1 h2 h3).2⟩
  · exact ⟨_, _, _, _, (net_4 ha hb hc hd h0 h1 h2 h3).1, by rw [shr_4, shr_4]; exact (net_4 ha hb hc hd h0 h1 h2 h3).2⟩
  · exact ⟨_, _, _, _, (net_5 ha hb hc hd h0 h1 h2 h3).1, by rw [shr_5, shr_5]; exact (net_5 ha hb hc hd h0 h1 h2 h3).2⟩
  · exact ⟨_, _, _, _, (net_6 ha hb hc hd h0 h1 h2 h3).1, by rw [shr_6, shr_6]; exact (net_6 ha hb hc hd h0 h1 h2 h3).2⟩
  · exact ⟨_, _, _, _, (net_7 ha hb hc hd h0 h1 h2 h3).1, by rw [shr_7, shr_7]; exact (net_7 ha hb hc hd h0 h1 h2 h3).2⟩
  · exact ⟨_, _, _, _, (net_8 ha hb hc hd h0 h1 h2 h3).1, by rw [shr_8, shr_8]; exact (net_8 ha hb hc hd h0 h1 h2 h3).2⟩
  · exact ⟨_, _, _, _, (net_9 ha hb hc hd h0 h1 h2 h3).1, by rw [shr_9, shr_9]; exact (net_9 ha hb hc hd h0 h1 h2 h3).2⟩
  · exact ⟨_, _, _, _, (net_10 ha hb hc hd h0 h1 h2 h3).1, by rw [shr_10, shr_10]; exact (net_10 ha hb hc hd h0 h1 h2 h3).2⟩
  · exact ⟨_, _, _, _, (net_11 ha hb hc hd h0 h1 h2 h3).1, by rw [shr_11, shr_11]; exact (net_11 ha hb hc hd h0 h1 h2 h3).2⟩
  · exact ⟨_, _, _, _, (net_12 ha hb hc hd h0 h1 h2 h3).1, by rw [shr_12, shr_12]; exact (net_12 ha hb hc hd h0 h1 h2 h3).2⟩
  · exact ⟨_, _, _, _, (net_13 ha hb hc hd h0 h1 h2 h3).1, by rw [shr_13, shr_13]; exact (net_13 ha hb hc hd h0 h1 h2 h3).2⟩
  · exact ⟨_, _, _, _, (net_14 ha hb hc hd h0 h1 h2 h3).1, by rw [shr_14, shr_14]; exact (net_14 ha hb hc hd h0 h1 h2 h3).2⟩
  · exact ⟨_, _, _, _, (net_15 ha hb hc hd h0 h1 h2 h3).1, by rw [shr_15, shr_15]; exact (net_15 ha hb hc hd h0 h1 h2 h3).2⟩
  · exact ⟨_, _, _, _, (net_16 ha hb hc hd h0 h1 h2 h3).1, by rw [shr_16, shr_16]; exact (net_16 ha hb hc hd h0 h1 h2 h3).2⟩
  · exact ⟨_, _, _, _, (net_17 ha hb hc hd h0 h1 h2 h3).1, by rw [shr_17, shr_17]; exact (net_17 ha hb hc hd h0 h1 h2 h3).2⟩
  · exact ⟨_, _, _, _, (net_18 ha hb hc hd h0 h1 h2 h3).1, by rw [shr_18, shr_18]; exact (net_18 ha hb hc hd h0 h1 h2 h3).2⟩
  · exact ⟨_, _, _, _, (net_19 ha hb hc hd h0 h1 h2 h3).1, by rw [shr_19, shr_19]; exact (net_19 ha hb hc hd h0 h1 h2 h3).2⟩
  · exact ⟨_, _, _, _, (net_20 ha hb hc hd h0 h1 h2 h3).1, by rw [shr_20, shr_20]; exact (net_20 ha hb hc hd h0 h1 h2 h3).2⟩
  · exact ⟨_, _, _, _, (net_21 ha hb hc hd h0 h1 h2 h3).1, by rw [shr_21, shr_21]; exact (net_21 ha hb hc hd h0 h1 h2 h3).2⟩
  · exact ⟨_, _, _, _, (net_22 ha hb hc hd h0 h1 h2 h3).1, by rw [shr_22, shr_22]; exact (net_22 ha hb hc hd h0 h1 h2 h3).2⟩
  · exact ⟨_, _, _, _, (net_23 ha hb hc hd h0 h1 h2 h3).1, by rw [shr_23, shr_23]; exact (net_23 ha hb hc hd h0 h1 h2 h3).2⟩
  · exact ⟨_, _, _, _, (net_24 ha hb hc hd h0 h1 h2 h3).1, by rw [shr_24, shr_24]; exact (net_24 ha hb hc hd h0 h1 h2 h3).2⟩
  · exact ⟨_, _, _, _, (net_25 ha hb hc hd h0 h1 h2 h3).1, by rw [shr_25, shr_25]; exact (net_25 ha hb hc hd h0 h1 h2 h3).2⟩
  · exact ⟨_, _, _, _, (net_26 ha hb hc hd h0 h1 h2 h3).1, by rw [shr_26, shr_26]; exact (net_26 ha hb hc hd h0 h1 h2 h3).2⟩
  · exact ⟨_, _, _, _, (net_27 ha hb hc hd h0 h1 h2 h3).1, by rw [shr_27, shr_27]; exact (net_27 ha hb hc hd h0 h1 h2 h3).2⟩
  · exact ⟨_, _, _, _, (net_28 ha hb hc hd h0 h1 h2 h3).1, by rw [shr_28, shr_28]; exact (net_28 ha hb hc hd h0 h1 h2 h3).2⟩
  · exact ⟨_, _, _, _, (net_29 ha hb hc hd h0 h1 h2 h3).1, by rw [shr_29, shr_29]; exact (net_29 ha hb hc hd h0 h1 h2 h3).2⟩
  · exact ⟨_, _, _, _, (net_30 ha hb hc hd h0 h1 h2 h3).1, by rw [shr_30, shr_30]; exact (net_30 ha hb hc hd h0 h1 h2 h3).2⟩
  · exact ⟨_, _, _, _, (net_31 ha hb hc hd h0 h1 h2 h3).1, by rw [shr_31, shr_31]; exact (net_31 ha hb hc hd h0 h1 h2 h3).2⟩
  · exact ⟨_, _, _, _, (net_32 ha hb hc hd h0 h1 h2 h3).1, by rw [shr_32, shr_32]; exact (net_32 ha hb hc hd h0 h1 h2 h3).2⟩

theorem or_low (x n : Int) (hx : 0 ≤ x) (hm : x % 256 = 0) (hx1 : x < 4294967296) (hn : Byte n) : bits .or .i64 x n = x + n := by
  unfold Byte at hn
  exact bits_join .i64 63 (by decide) (fun n h0 h1 => by have h1 : n < 9223372036854775808 := h1; rw [IntKind.wrap_i64]; omega) 8 x n hx (by omega) (by omega) (by omega) (by omega) (by omega)

theorem number_four (k : Nat) {a b c d : Int} (ha : Byte a) (hb : Byte b) (hc : Byte c) (hd : Byte d) : P.spec_number.f (k + 5) [a, b, c, d] = some (num4 a b c d) := by
  unfold P.spec_number.f
  have e0 : wrap64 ((0 : Int) * 256) = 0 := by unfold wrap64; omega
  have e1 : wrap64 ((0 : Int) + 1) = 1 := by unfold wrap64; omega
  have e2 : wrap64 ((1 : Int) + 1) = 2 := by unfold wrap64; omega
  have e3 : wrap64 ((2 : Int) + 1) = 3 := by unfold wrap64; omega
  have e4 : wrap64 ((3 : Int) + 1) = 4 := by unfold wrap64; omega
  have hl : (([a, b, c, d] : List Int).length : Int) = 4 := rfl
  have f1 : wrap64 ((0 + a) * 256) = a * 256 := by unfold wrap64; unfold Byte at *; omega
  have f2 : wrap64 ((a * 256 + b) * 256) = (a * 256 + b) * 256 := by unfold wrap64; unfold Byte at *; omega
  have f3 : wrap64 (((a * 256 + b) * 256 + c) * 256) = ((a * 256 + b) * 256 + c) * 256 := by unfold wrap64; unfold Byte at *; omega
  have r0 : rd [a, b, c, d] 0 = a := rfl
  have r1 : rd [a, b, c, d] 1 = b := rfl
  have r2 : rd [a, b, c, d] 2 = c := rfl
  have r3 : rd [a, b, c, d] 3 = d := rfl
  simp only [P.spec_number.l0, hl, e0, e1, e2, e3, e4, r0, r1, r2, r3]
  rw [or_low 0 a (by omega) (by omega) (by omega) ha, f1, or_low (a * 256) b (by unfold Byte at *; omega) (by omega) (by unfold Byte at *; omega) hb, f2, or_low ((a * 256 + b) * 256) c (by unfold Byte at *; omega) (by omega) (by unfold Byte at *; omega) hc, f3, or_low (((a * 256 + b) * 256 + c) * 256) d (by unfold Byte at *; omega) (by omega) (by unfold Byte at *; omega) hd]
  simp only [show ((0 : Int) < 4) = True by simp, show ((1 : Int) < 4) = True by simp, show ((2 : Int) < 4) = True by simp, show ((3 : Int) < 4) = True by simp, show ((4 : Int) < 4) = False by simp, show ((0 : Int) ≤ 0) = True by simp, show ((0 : Int) ≤ 1) = True by simp, show ((0 : Int) ≤ 2) = True by simp, show ((0 : Int) ≤ 3) = True by simp, if_true, if_false]
  congr 1
  unfold num4
  omega

/-- Four bytes as bytes. -/
theorem str_four {a b c d x0 x1 x2 x3 : Int} (ha : Byte a) (hb : Byte b) (hc : Byte c) (hd : Byte d) (h0 : Byte x0) (h1 : Byte x1) (h2 : Byte x2) (h3 : Byte x3) :
    ((strOfNums [a, b, c, d]).toList == (strOfNums [x0, x1, x2, x3]).toList) = (num4 x0 x1 x2 x3 == num4 a b c d) := by
  have u : ∀ {x y : Int}, Byte x → Byte y → (UInt8.ofNat x.toNat = UInt8.ofNat y.toNat ↔ x = y) := fun {x y} hx hy => by
    unfold Byte at hx hy
    rw [← UInt8.toNat_inj]
    simp
    omega
  rw [Bool.eq_iff_iff, beq_iff_eq, beq_iff_eq, toList_BL, toList_BL]
  have e : ∀ p q r s : Int, BL (strOfNums [p, q, r, s]) = [UInt8.ofNat p.toNat, UInt8.ofNat q.toNat, UInt8.ofNat r.toNat, UInt8.ofNat s.toNat] := fun p q r s => rfl
  rw [e, e]
  simp only [List.cons.injEq, and_true, u ha h0, u hb h1, u hc h2, u hd h3]
  unfold Byte at *
  unfold num4
  omega

theorem matchesA_eq (r : P.S42) (h : Rk r) {x0 x1 x2 x3 : Int} (h0 : Byte x0) (h1 : Byte x1) (h2 : Byte x2) (h3 : Byte x3) (hh p : ByteArray) (k : Nat) :
    P.spec_MatchesAddress.f (k + 5) r.f0 r.f1 r.f2 r.f3 r.f4 [x0, x1, x2, x3] p = some (sayA hh p (x0, x1, x2, x3) (eff r)) := by
  have hp : (if r.f4.toList = ([] : List UInt8) then some true else some (r.f4.toList == p.toList)) = some (portOk r.f4 p) := by
    unfold portOk
    rw [empty_iff]
    split
    · rename_i h; simp [h]
    · rename_i h; simp [h]
  unfold P.spec_MatchesAddress.f eff
  by_cases k0 : r.f0 = 0
  · rw [if_pos k0, k0]; rfl
  rw [if_neg k0]
  by_cases k1 : r.f0 = 1
  · rw [if_pos k1, k1]; rfl
  rw [if_neg k1]
  by_cases k2 : r.f0 = 2
  · obtain ⟨a, b, c, d, hl, ha, hb, hc, hd⟩ := h.addr (.inl k2)
    rw [if_pos k2, if_pos k2, hl, number_four k h0 h1 h2 h3, number_four k ha hb hc hd, hp]
    simp only [Option.bind_some, sayA, isStar, ipF, mok, Bool.false_or]
    rw [str_four ha hb hc hd h0 h1 h2 h3]
    by_cases e : num4 x0 x1 x2 x3 = num4 a b c d
    · rw [if_pos e, e]; simp
    · rw [if_neg e, beq_eq_false_iff_ne.2 e]; rfl
  rw [if_neg k2, if_neg k2]
  by_cases k3 : r.f0 = 3
  · obtain ⟨a, b, c, d, hl, ha, hb, hc, hd⟩ := h.addr (.inr k3)
    obtain ⟨n0, n1⟩ := h.bits k3
    obtain ⟨m0, m1, m2, m3, hm, hu⟩ := net_all n0 n1 ha hb hc hd h0 h1 h2 h3
    rw [if_pos k3, if_pos k3, hl, hm, number_four k h0 h1 h2 h3, number_four k ha hb hc hd]
    simp only [Option.bind_some, sayA, isStar, ipF, mok, Bool.false_or]
    rw [hu, if_pos (by unfold wrap64; omega)]
  rw [if_neg k3, if_neg k3]
  have k4 : r.f0 = 4 := by rcases h.kind with k | k | k | k | k <;> first | exact absurd k (by assumption) | exact k
  rw [k4]
  rfl

theorem eff_dom (r : P.S42) (f : Mt → Bool) (hf : ∀ h p m, f (.dom h p m) = false) : domF f (eff r) = false := by
  unfold eff
  split
  · exact hf _ _ _
  split
  · exact hf _ _ _
  split
  · split <;> rfl
  split
  · split <;> rfl
  · rfl

theorem anyA_l (rs : List P.S42) (h : Rks rs) {x0 x1 x2 x3 : Int} (h0 : Byte x0) (h1 : Byte x1) (h2 : Byte x2) (h3 : Byte x3) (hh p : ByteArray) : ∀ (d k : Nat) (i : Nat), rs.length = i + d → d + 5 < k →
    P.spec_AnyAddress.l0 k [x0, x1, x2, x3] p rs (rs.length : Int) (i : Int) = some ((rs.drop i).any fun r => sayA hh p (x0, x1, x2, x3) (eff r)) := by
  intro d
  induction d with
  | zero =>
    intro k i hi hk
    obtain ⟨k, rfl⟩ : ∃ m, k = m + 1 := ⟨k - 1, by omega⟩
    simp only [P.spec_AnyAddress.l0]
    rw [if_neg (by omega), List.drop_of_length_le (by omega)]
    rfl
  | succ d ih =>
    intro k i hi hk
    obtain ⟨k, rfl⟩ : ∃ m, k = m + 1 := ⟨k - 1, by omega⟩
    have hlt : i < rs.length := by omega
    have hr := h.1
    have e : P.rd_T42 rs (i : Int) = rs[i]'hlt := by simp [P.rd_T42, hlt]
    have hm : P.spec_MatchesAddress.f k (rs[i]'hlt).f0 (rs[i]'hlt).f1 (rs[i]'hlt).f2 (rs[i]'hlt).f3 (rs[i]'hlt).f4 [x0, x1, x2, x3] p = some (sayA hh p (x0, x1, x2, x3) (eff (rs[i]'hlt))) := by
      obtain ⟨q, hq⟩ : ∃ m, k = m + 5 := ⟨k - 5, by omega⟩
      rw [hq]
      exact matchesA_eq _ (h.2 _ (List.getElem_mem hlt)) h0 h1 h2 h3 hh p q
    have ew : wrap64 ((i : Int) + 1) = ((i + 1 : Nat) : Int) := by unfold wrap64; omega
    simp only [P.spec_AnyAddress.l0]
    rw [if_pos (by omega), if_pos (by omega), if_pos (by omega), e, hm, ew]
    simp only [Option.bind_some]
    rw [List.drop_eq_getElem_cons hlt, List.any_cons]
    cases sayA hh p (x0, x1, x2, x3) (eff (rs[i]'hlt)) with
    | true => rfl
    | false =>
      rw [if_neg (by decide), ih k (i + 1) (by omega) (by omega)]
      rfl

theorem anyA_eq (rs : List P.S42) (h : Rks rs) {x0 x1 x2 x3 : Int} (h0 : Byte x0) (h1 : Byte x1) (h2 : Byte x2) (h3 : Byte x3) (hh p : ByteArray) :
    ∃ k, P.spec_AnyAddress.f k rs [x0, x1, x2, x3] p = some ((lists (effsOf rs) [] []).1.any (mok hh p (some (x0, x1, x2, x3))) || (lists (effsOf rs) [] []).2.any (mok hh p (some (x0, x1, x2, x3)))) := by
  refine ⟨rs.length + 6, ?_⟩
  have := anyA_l rs h h0 h1 h2 h3 hh p rs.length (rs.length + 6) 0 (by omega) (by omega)
  unfold P.spec_AnyAddress.f
  rw [show (0 : Int) = ((0 : Nat) : Int) from rfl, this, List.drop_zero, any_addrs]
  · unfold effsOf
    split
    · rename_i e; subst e; rfl
    · rw [List.any_map]; rfl
  · intro e he
    unfold effsOf at he
    split at he
    · simp at he; subst he; rfl
    · obtain ⟨r, _, rfl⟩ := List.mem_map.1 he
      exact eff_dom r _ fun _ _ _ => rfl
end Go.Proofs.YtnchgmjeoajmiaaGreatDoor

/-! Saysa -/
namespace Go.Proofs.YtnchgmjeoajmiaaGreatDoor
open Go.RowKit Go.Proofs.YtnchgmjeoajmiaaGreatDoorW.PrintWords
set_option linter.unusedSimpArgs false
set_option linter.unusedVariables false

theorem dots_addr {a b c d : Int} (ha : Byte a) (hb : Byte b) (hc : Byte c) (hd : Byte d) {p : List UInt8} (hp : Pt p) :
    FourAddr (MK (dots a b c d ++ [58] ++ p)) (MK (dots a b c d)) (MK p) (MK (dots a b c d)) a b c d := by
  have hh := dots_host ha hb hc hd
  have hl := dots_len ha hb hc hd
  have hit := item_of (a := []) (q := dots a b c d) (b := []) (fun x hx => by cases hx) (fun x hx => by cases hx) (fun b hb => by have := hh.all b hb; exact ⟨this.1, this.2.1⟩) (by simp; omega)
  rw [List.nil_append, List.append_nil, lower_map fun b hb => by have := hh.all b hb; omega] at hit
  refine ⟨by rw [MK_size]; simp; omega, ⟨_, hh.split hp⟩, ?_, dots_four ha hb hc hd, hit, by rw [MK_size]; omega⟩
  rw [toList_MK]
  intro e
  have := dots_bytes ha hb hc hd 108 (by rw [e]; simp)
  revert this
  decide

/-- Whether a request to an address and a port goes through the proxy, by rules. -/
def saysA (rs : List P.S42) (a b c d : Int) (port : ByteArray) : Bool := !(a == 127) && !((lists (effsOf rs) [] []).1.any (mok (addrText a b c d) port (some (a, b, c, d))) || (lists (effsOf rs) [] []).2.any (mok (addrText a b c d) port (some (a, b, c, d))))

theorem uses_addr (p4 p6 : Addr) (w : World) (no : ByteArray) (rs : List P.S42) (a b c d : Int) (port : ByteArray) (G : GW p4 p6 w) (hl : Listed no (effsOf rs)) (ha : Byte a) (hb : Byte b) (hc : Byte c) (hd : Byte d) (hp : Pt (BL port)) :
    Calls Tryz.prog 24 #[.string no, .string ((addrText a b c d ++ (⟨#[58]⟩ : ByteArray)) ++ port)] w fun e w' => e = .returned (.bool (saysA rs a b c d port)) ∧ Below w.heap.size w w' := by
  have := uses_four p4 p6 no (effsOf rs) w _ _ _ _ a b c d G hl (dots_addr ha hb hc hd hp)
  have e : MK (dots a b c d ++ [58] ++ BL port) = (addrText a b c d ++ (⟨#[58]⟩ : ByteArray)) ++ port := by
    rw [addr_text, addrText_eq ha hb hc hd]
  rw [e, MK_BL] at this
  refine this.mono fun x w' ⟨h1, h2⟩ => ⟨?_, h2⟩
  rw [h1]
  refine ret_bool ?_
  unfold saysA
  rw [addrText_eq ha hb hc hd]
  generalize (lists (effsOf rs) [] []).1.any (mok (MK (dots a b c d)) port (some (a, b, c, d))) = x
  generalize (lists (effsOf rs) [] []).2.any (mok (MK (dots a b c d)) port (some (a, b, c, d))) = y
  generalize (a == 127) = z
  cases x <;> cases y <;> cases z <;> rfl
end Go.Proofs.YtnchgmjeoajmiaaGreatDoor

/-! Lawaddr -/
namespace Go.Proofs.YtnchgmjeoajmiaaGreatDoor
open Go.RowKit Go.Proofs.YtnchgmjeoajmiaaGreatDoorW.PrintWords
set_option linter.unusedSimpArgs false
set_option linter.unusedVariables false

set_option maxRecDepth 100000 in
set_option maxHeartbeats 1000000 in
/-- A request to an address. -/
theorem fnUseAddress_calls (p4 p6 : Addr) (A_rs : Option Addr) (c_rs : Nat) (rs : List P.S42) (A_l : Option Addr) (c_l : Nat) (l : List Int) (port : ByteArray) (w : World) (G : GW p4 p6 w) (hc_rs : rs.length ≤ c_rs) (hA_rs : Kd.C P.k42 w A_rs rs.length rs) (hc_l : l.length ≤ c_l) (hA_l : Kd.C (Kd.int .i64) w A_l l.length l) :
    Calls Tryz.prog 5 #[.slice A_rs rs.length c_rs, .slice A_l l.length c_l, .string port] w (SaysTrue w) := by
  have b0 : Below w.heap.size w w := Below.refl _ _
  have HA_rs := Aside0.mk hA_rs
  clear hA_rs
  have HA_l := Aside0.mk hA_l
  clear hA_l
  go_enter Tryz.func5, Tryz.ntmps5
  obtain ⟨kf_rs, bf_rs, hf_rs, ef_rs⟩ := fits2_ev rs
  have EF_rs := Aside0.mk ef_rs
  have HF_rs := Aside0.mk hf_rs
  clear ef_rs hf_rs
  go_wp2_with fail
  refine (P.laws_zzFits2.calls kf_rs A_rs c_rs rs bf_rs _ (Kd.C_below HA_rs.out b0) hc_rs HF_rs.out).mono ?_
  rintro e w1 ⟨rfl, c1⟩
  have b1 := bel_then b0 c1
  clear c1
  cases bf_rs with
  | false =>
    go_wp2_with fail
    go_ret
    exact ⟨rfl, b1⟩
  | true =>
  have len_rs := (EF_rs.out rfl).1
  have FIT_rs := Aside0.mk (EF_rs.out rfl).2
  cases d_l : decide ((2147483647 : Int) < (l.length : Int)) with
  | true =>
    go_wp2_with fail
    go_ret
    exact ⟨rfl, b1⟩
  | false =>
  have sz_l : l.length ≤ 2147483647 := not_le_big (of_decide_eq_false d_l)
  cases d_port : decide ((2147483647 : Int) < (port.size : Int)) with
  | true =>
    go_wp2_with fail
    go_ret
    exact ⟨rfl, b1⟩
  | false =>
  have sz_port : port.size ≤ 2147483647 := not_le_big (of_decide_eq_false d_port)
  obtain ⟨br_rs, er_rs, hr_rs⟩ := areRules_ev rs FIT_rs.out len_rs
  obtain ⟨kr_rs, er_rs⟩ := er_rs.at
  have HE_rs := Aside0.mk er_rs
  have OK_rs := Aside0.mk hr_rs
  clear er_rs hr_rs
  go_wp2_with fail
  refine (P.spec_AreRules.calls kr_rs A_rs c_rs rs br_rs _ (Kd.C_below HA_rs.out b1) hc_rs HE_rs.out).mono ?_
  rintro e w2 ⟨rfl, c2⟩
  have b2 := bel_then b1 c2
  clear c2
  cases br_rs with
  | false =>
    go_wp2_with fail
    refine (works_calls p4 p6 _ (G.below b2)).mono ?_
    rintro e w3 ⟨rfl, c3⟩
    have b3 := bel_then b2 c3
    clear c3
    go_wp2_with fail
    go_ret
    exact ⟨rfl, b3⟩
  | true =>
  replace OK_rs := Aside0.mk (OK_rs.out rfl)
  obtain ⟨br_l, er_l, hr_l⟩ := isAddr_ev l sz_l
  obtain ⟨kr_l, er_l⟩ := er_l.at
  have HE_l := Aside0.mk er_l
  have OK_l := Aside0.mk hr_l
  clear er_l hr_l
  go_wp2_with fail
  refine (P.spec_IsAddress.calls kr_l A_l c_l l br_l _ (Kd.C_below HA_l.out b2) hc_l HE_l.out).mono ?_
  rintro e w3 ⟨rfl, c3⟩
  have b3 := bel_drawn b2 c3
  clear c3
  cases br_l with
  | false =>
    go_wp2_with fail
    refine (works_calls p4 p6 _ (G.below b3)).mono ?_
    rintro e w4 ⟨rfl, c4⟩
    have b4 := bel_then b3 c4
    clear c4
    go_wp2_with fail
    go_ret
    exact ⟨rfl, b4⟩
  | true =>
  replace OK_l := Aside0.mk (OK_l.out rfl)
  obtain ⟨br_port, er_port, hr_port⟩ := isPort_ev port sz_port
  obtain ⟨kr_port, er_port⟩ := er_port.at
  have HE_port := Aside0.mk er_port
  have OK_port := Aside0.mk hr_port
  clear er_port hr_port
  go_wp2_with fail
  refine (P.spec_IsPort.calls kr_port port br_port _ HE_port.out).mono ?_
  rintro e w4 ⟨rfl, c4⟩
  have b4 := bel_drawn b3 c4
  clear c4
  cases br_port with
  | false =>
    go_wp2_with fail
    refine (works_calls p4 p6 _ (G.below b4)).mono ?_
    rintro e w5 ⟨rfl, c5⟩
    have b5 := bel_then b4 c5
    clear c5
    go_wp2_with fail
    go_ret
    exact ⟨rfl, b5⟩
  | true =>
  replace OK_port := Aside0.mk (OK_port.out rfl)
  have hps : port.size ≤ 5 := by have := OK_port.out.five; rw [BL_size] at this; exact this
  obtain ⟨x0, x1, x2, x3, e_l, y0, y1, y2, y3⟩ := OK_l.out
  subst e_l
  have l4 : ([x0, x1, x2, x3] : List Int).length = 4 := rfl
  simp only [l4] at HA_l hc_l ⊢
  have Y0 := Aside0.mk y0
  have Y1 := Aside0.mk y1
  have Y2 := Aside0.mk y2
  have Y3 := Aside0.mk y3
  have zA := addrText_size x0 x1 x2 x3 y0 y1 y2 y3
  have zB : (addrText x0 x1 x2 x3 ++ (⟨#[58]⟩ : ByteArray)).size = (addrText x0 x1 x2 x3).size + 1 := ByteArray.size_append
  clear y0 y1 y2 y3 l4
  have LT_rs := fun w' hb => Aside0.mk (listText_calls p4 p6 rs ⟨#[44]⟩ A_rs c_rs w' (G.below hb) (fun r hr => (OK_rs.out.2 r hr).small) (by have := OK_rs.out.1; omega) (by decide) hc_rs (Kd.C_below HA_rs.out hb))
  obtain ⟨ad, eA, hcell⟩ := HA_l.out.2.2 (by decide)
  subst eA
  have c0 : w.cell? ad = some (.int .i64 x0) := by
    obtain ⟨cs, _, e, hu⟩ := hcell 0 x0 rfl
    subst e
    exact hu 0 _ rfl
  have C0 := cell_on b4 c0
  clear hcell c0
  obtain ⟨ka, hany⟩ := anyA_eq rs (rks_of OK_rs.out) Y0.out Y1.out Y2.out Y3.out (addrText x0 x1 x2 x3) port
  have U1 := fun w' g => Aside0.mk (uses_addr p4 p6 w' _ rs x0 x1 x2 x3 port g (listed_plain rs (rks_of OK_rs.out)) Y0.out Y1.out Y2.out Y3.out OK_port.out)
  unfold saysA at U1
  have s1 := joinB_len ⟨#[44]⟩ rs OK_rs.out.2 (by decide)
  have l1 := OK_rs.out.1
  generalize joinB ⟨#[44]⟩ (rs.map ruleText) = t at *
  generalize ((lists (effsOf rs) [] []).1.any (mok (addrText x0 x1 x2 x3) port (some (x0, x1, x2, x3))) || (lists (effsOf rs) [] []).2.any (mok (addrText x0 x1 x2 x3) port (some (x0, x1, x2, x3)))) = v at *
  have HANY := Aside0.mk hany
  clear hany
  by_cases k127 : x0 = 127
  · subst k127
    have h127 : ((127 : Int) == 127) = true := rfl
    rw [h127] at U1
    clear h127
    go_wp2_with fail
    refine (works_calls p4 p6 _ (G.below b4)).mono ?_
    rintro e w5 ⟨rfl, c5⟩
    have b5 := bel_then b4 c5
    clear c5
    go_wp2_with fail
    refine ((LT_rs _ b5).out).mono ?_
    rintro e w6 ⟨rfl, c6⟩
    have b6 := bel_then b5 c6
    clear c6
    go_wp2_with fail
    refine (addressText p4 p6 (some ad) c_l 127 x1 x2 x3 _ (G.below b6) hc_l (Kd.C_below HA_l.out b6) Y0.out Y1.out Y2.out Y3.out).mono ?_
    rintro e w7 ⟨rfl, c7⟩
    have b7 := bel_then b6 c7
    clear c7
    go_wp2_with fail
    refine ((U1 _ (G.below b7)).out).mono ?_
    rintro e w8 ⟨rfl, c8⟩
    have b8 := bel_then b7 c8
    clear c8
    go_wp2_with fail
    go_ret
    exact ⟨ret_bool (by simp), b8⟩
  · have h127 : (x0 == 127) = false := beq_eq_false_iff_ne.2 k127
    have n127 : (x0 != 127) = true := by unfold bne; rw [h127]; rfl
    rw [h127] at U1
    clear k127
    go_wp2_with fail
    refine (P.spec_AnyAddress.calls ka A_rs c_rs rs (some ad) c_l [x0, x1, x2, x3] port v _ (Kd.C_below HA_rs.out b4) hc_rs (Kd.C_below HA_l.out b4) hc_l HANY.out).mono ?_
    rintro e w5 ⟨rfl, c5⟩
    have b5 := bel_then b4 c5
    clear c5
    go_wp2_with fail
    refine (works_calls p4 p6 _ (G.below b5)).mono ?_
    rintro e w6 ⟨rfl, c6⟩
    have b6 := bel_then b5 c6
    clear c6
    go_wp2_with fail
    refine ((LT_rs _ b6).out).mono ?_
    rintro e w7 ⟨rfl, c7⟩
    have b7 := bel_then b6 c7
    clear c7
    go_wp2_with fail
    refine (addressText p4 p6 (some ad) c_l x0 x1 x2 x3 _ (G.below b7) hc_l (Kd.C_below HA_l.out b7) Y0.out Y1.out Y2.out Y3.out).mono ?_
    rintro e w8 ⟨rfl, c8⟩
    have b8 := bel_then b7 c8
    clear c8
    go_wp2_with fail
    refine ((U1 _ (G.below b8)).out).mono ?_
    rintro e w9 ⟨rfl, c9⟩
    have b9 := bel_then b8 c9
    clear c9
    go_wp2_with fail
    go_ret
    exact ⟨ret_bool (by simp), b9⟩
end Go.Proofs.YtnchgmjeoajmiaaGreatDoor
