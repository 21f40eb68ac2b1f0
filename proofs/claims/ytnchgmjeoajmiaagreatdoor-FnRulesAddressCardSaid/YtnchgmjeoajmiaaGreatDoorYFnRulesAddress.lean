/- A rule over addresses is told to match an address and a port just where it is for them: FnRulesAddress returns true at every input, and what came in reads behind the call as before. Here: its walk. The condition: the listed package-level variables hold, when the call begins, what their own texts lay (the tied card). -/
import Derived.Test.YtnchgmjeoajmiaaGreatDoorMc
import Derived.Laws.BitsLemmas
import Derived.Test.YtnchgmjeoajmiaaGreatDoorMa
import Derived.Test.YtnchgmjeoajmiaaGreatDoorMb
import Derived.Test.YtnchgmjeoajmiaaGreatDoorUx1
/-! Lawa -/
namespace Go.Proofs.YtnchgmjeoajmiaaGreatDoor
open Go.RowKit Go.Proofs.YtnchgmjeoajmiaaGreatDoorW.PrintWords
set_option linter.unusedSimpArgs false
set_option linter.unusedVariables false

/-- What each law gives. -/
def SaysTrue (w : World) (e : Ending) (w' : World) : Prop := e = .returned (.bool true) ∧ Below w.heap.size w w'

theorem not_le_big {n : Nat} (h : ¬ (2147483647 : Int) < (n : Int)) : n ≤ 2147483647 := by omega

theorem rks_of {rs : List P.S42} (h : rs.length ≤ 30 ∧ ∀ r ∈ rs, Rk r) : Rks rs := ⟨by omega, h.2⟩

theorem addr_text (nm port : ByteArray) : ((nm ++ (⟨#[58]⟩ : ByteArray)) ++ port) = MK (BL nm ++ [58] ++ BL port) := by
  apply eq_of_BL
  rw [BL_append, BL_append]

theorem bel_drawn {w w1 w2 : World} (h : Below w.heap.size w w1) (k : Drawn0 w1 w2) : Below w.heap.size w w2 := by
  obtain ⟨n, rfl⟩ := k
  exact pw_below_drewN h n

theorem local_eq (nm : ByteArray) : (nm.toList == [108, 111, 99, 97, 108, 104, 111, 115, 116]) = (BL nm == [108, 111, 99, 97, 108, 104, 111, 115, 116]) := by rw [toList_BL]

set_option maxRecDepth 100000 in
set_option maxHeartbeats 1000000 in
theorem fnUseName_calls (p4 p6 : Addr) (A : Option Addr) (c : Nat) (rs : List P.S42) (nm port : ByteArray) (w : World) (G : GW p4 p6 w) (hc : rs.length ≤ c) (hA : Kd.C P.k42 w A rs.length rs) :
    Calls Tryz.prog 8 #[.slice A rs.length c, .string nm, .string port] w (SaysTrue w) := by
  obtain ⟨kf, bf, hf, ef⟩ := fits2_ev rs
  have HF := Aside0.mk (P.laws_zzFits2.calls kf A c rs bf w hA hc hf)
  clear hf
  cases bf with
  | false =>
    clear hA
    go_enter Tryz.func8, Tryz.ntmps8
    go_wp2_with fail
    refine HF.out.mono ?_
    rintro e w1 ⟨rfl, b1⟩
    go_wp2_with fail
    go_ret
    exact ⟨rfl, b1⟩
  | true =>
  obtain ⟨lenR, fitR⟩ := ef rfl
  by_cases c1 : 2147483647 < nm.size
  · have d1 : decide ((2147483647 : Int) < (nm.size : Int)) = true := decide_eq_true (by omega)
    clear hA ef fitR c1
    go_enter Tryz.func8, Tryz.ntmps8
    go_wp2_with fail
    refine HF.out.mono ?_
    rintro e w1 ⟨rfl, b1⟩
    go_wp2_with fail
    go_ret
    exact ⟨rfl, b1⟩
  have d1 : decide ((2147483647 : Int) < (nm.size : Int)) = false := decide_eq_false (by omega)
  by_cases c2 : 2147483647 < port.size
  · have d2 : decide ((2147483647 : Int) < (port.size : Int)) = true := decide_eq_true (by omega)
    clear hA ef fitR c1 c2
    go_enter Tryz.func8, Tryz.ntmps8
    go_wp2_with fail
    refine HF.out.mono ?_
    rintro e w1 ⟨rfl, b1⟩
    go_wp2_with fail
    go_ret
    exact ⟨rfl, b1⟩
  have d2 : decide ((2147483647 : Int) < (port.size : Int)) = false := decide_eq_false (by omega)
  obtain ⟨br, er, hr⟩ := areRules_ev rs fitR lenR
  obtain ⟨kr, er⟩ := er.at
  obtain ⟨bn, en, hn⟩ := isName_ev nm (by omega)
  obtain ⟨kn, en⟩ := en.at
  obtain ⟨bp, ep, hp⟩ := isPort_ev port (by omega)
  obtain ⟨kp, ep⟩ := ep.at
  have HR := fun w' hb => Aside0.mk (P.spec_AreRules.calls kr A c rs br w' (Kd.C_below hA hb) hc er)
  have HN := fun w' => Aside0.mk (P.spec_IsName.calls kn nm bn w' en)
  have HP := fun w' => Aside0.mk (P.spec_IsPort.calls kp port bp w' ep)
  have HA := Aside0.mk hA
  have ER := Aside0.mk hr
  have EN := Aside0.mk hn
  have EP := Aside0.mk hp
  clear hA ef fitR c1 c2 er en ep hr hn hp
  cases br with
  | false =>
    go_enter Tryz.func8, Tryz.ntmps8
    go_wp2_with fail
    refine HF.out.mono ?_
    rintro e w1 ⟨rfl, b1⟩
    go_wp2_with fail
    refine (HR w1 b1).out.mono ?_
    rintro e w2 ⟨rfl, b2⟩
    have b2 := bel_then b1 b2
    go_wp2_with fail
    refine (works_calls p4 p6 _ (G.below b2)).mono ?_
    rintro e w3 ⟨rfl, b3⟩
    have b3 := bel_then b2 b3
    go_wp2_with fail
    go_ret
    exact ⟨rfl, b3⟩
  | true =>
  go_enter Tryz.func8, Tryz.ntmps8
  go_wp2_with fail
  refine HF.out.mono ?_
  rintro e w1 ⟨rfl, b1⟩
  go_wp2_with fail
  refine (HR w1 b1).out.mono ?_
  rintro e w2 ⟨rfl, b2⟩
  have b2 := bel_then b1 b2
  go_wp2_with fail
  refine (HN _).out.mono ?_
  rintro e w3 ⟨rfl, hw3⟩
  have b3 := bel_drawn b2 hw3
  clear hw3 b1 b2
  cases bn with
  | false =>
    go_wp2_with fail
    refine (works_calls p4 p6 _ (G.below b3)).mono ?_
    rintro e wk ⟨rfl, bk⟩
    have bk := bel_then b3 bk
    go_wp2_with fail
    go_ret
    exact ⟨rfl, bk⟩
  | true =>
  go_wp2_with fail
  refine (HP _).out.mono ?_
  rintro e w4 ⟨rfl, hw4⟩
  have b4 := bel_drawn b3 hw4
  clear hw4 b3
  cases bp with
  | false =>
    go_wp2_with fail
    refine (works_calls p4 p6 _ (G.below b4)).mono ?_
    rintro e wk ⟨rfl, bk⟩
    have bk := bel_then b4 bk
    go_wp2_with fail
    go_ret
    exact ⟨rfl, bk⟩
  | true =>
  have hN := EN.out (by simp)
  have hP := EP.out (by simp)
  have hK := rks_of (ER.out (by simp))
  have US := fun w' G => Aside0.mk (by
    have := uses_rules p4 p6 w' (joinB ⟨#[44]⟩ (rs.map ruleText)) rs (BL nm) (BL port) G (listed_plain rs hK) hN hP
    rw [← addr_text, MK_BL, MK_BL] at this
    exact this)
  have LT := fun w' hb => Aside0.mk (listText_calls p4 p6 rs ⟨#[44]⟩ A c w' (G.below hb) (fun r hr => (hK.2 r hr).small) (by have := hK.1; omega) (by decide) hc (Kd.C_below HA.out hb))
  have hns : nm.size ≤ 100 := by have := hN.len; rw [BL_size] at this; exact this
  have hps : port.size ≤ 5 := by have := hP.five; rw [BL_size] at this; exact this
  have hz : (nm ++ (⟨#[58]⟩ : ByteArray)).size = nm.size + 1 := ByteArray.size_append
  have HKs := Aside0.mk hK
  clear hN hP hK
  cases hloc : (nm.toList == [108, 111, 99, 97, 108, 104, 111, 115, 116]) with
  | true =>
    go_wp2_with fail
    refine (works_calls p4 p6 _ (G.below b4)).mono ?_
    rintro e w5 ⟨rfl, b5⟩
    have b5 := bel_then b4 b5
    go_wp2_with fail
    refine (LT _ b5).out.mono ?_
    rintro e w6 ⟨rfl, b6⟩
    have b6 := bel_then b5 b6
    go_wp2_with fail
    have U6 := (US w6 (G.below b6)).out
    rw [← local_eq, hloc] at U6
    refine U6.mono ?_
    rintro e w7 ⟨rfl, b7⟩
    have b7 := bel_then b6 b7
    go_wp2_with fail
    go_ret
    exact ⟨ret_bool (by simp), b7⟩
  | false =>
    obtain ⟨ka, hany⟩ := anyName_eq rs HKs.out nm port (by omega)
    rw [show mok nm port none = mok (MK (BL nm)) (MK (BL port)) none by rw [MK_BL, MK_BL]] at hany
    generalize hval : ((lists (effsOf rs) [] []).2.any (mok (MK (BL nm)) (MK (BL port)) none)) = val at hany
    have HAN := fun w' hb => Aside0.mk (P.spec_AnyName.calls ka A c rs nm port val w' (Kd.C_below HA.out hb) hc hany)
    have HVAL := Aside0.mk hval
    clear hany hval
    go_wp2_with fail
    refine (HAN _ b4).out.mono ?_
    rintro e w4' ⟨rfl, b4'⟩
    have b4' := bel_then b4 b4'
    go_wp2_with fail
    refine (works_calls p4 p6 _ (G.below b4')).mono ?_
    rintro e w5 ⟨rfl, b5⟩
    have b5 := bel_then b4' b5
    go_wp2_with fail
    refine (LT _ b5).out.mono ?_
    rintro e w6 ⟨rfl, b6⟩
    have b6 := bel_then b5 b6
    go_wp2_with fail
    have U6 := (US w6 (G.below b6)).out
    rw [← local_eq, hloc, ← MK_BL nm, ← MK_BL port, HVAL.out] at U6
    refine U6.mono ?_
    rintro e w7 ⟨rfl, b7⟩
    have b7 := bel_then b6 b7
    go_wp2_with fail
    go_ret
    exact ⟨ret_bool (by simp), b7⟩
end Go.Proofs.YtnchgmjeoajmiaaGreatDoor

/-! Textj -/
namespace Go.Proofs.YtnchgmjeoajmiaaGreatDoor
open Go.RowKit Go.Proofs.YtnchgmjeoajmiaaGreatDoorW.PrintWords
set_option linter.unusedSimpArgs false
set_option linter.unusedVariables false

theorem joinL_append (sep : List UInt8) (xs ys : List (List UInt8)) (hx : xs ≠ []) (hy : ys ≠ []) : joinL sep (xs ++ ys) = joinL sep xs ++ sep ++ joinL sep ys := by
  cases xs with
  | nil => exact absurd rfl hx
  | cons x xs =>
    cases ys with
    | nil => exact absurd rfl hy
    | cons y ys => simp [joinL]

theorem joinB_append (sep : ByteArray) (xs ys : List ByteArray) (hx : xs ≠ []) (hy : ys ≠ []) : joinB sep (xs ++ ys) = (joinB sep xs ++ sep) ++ joinB sep ys := by
  apply eq_of_BL
  rw [BL_append, BL_append]
  unfold joinB
  simp only [BL_MK]
  rw [List.map_append, joinL_append _ _ _ (by simpa using hx) (by simpa using hy)]

theorem joinB_len (sep : ByteArray) (rs : List P.S42) (h : ∀ r ∈ rs, Rk r) (hs : sep.size ≤ 100) : (joinB sep (rs.map ruleText)).size ≤ rs.length * 2110 := by
  have := joinL_len (BL sep) ((rs.map ruleText).map BL) 2010 (fun x hx => by
    rw [List.map_map] at hx
    obtain ⟨r, hr, rfl⟩ := List.mem_map.1 hx
    exact ruleText_len (h r hr))
  unfold joinB
  rw [MK_size]
  have e : (BL sep).length = sep.size := BL_size sep
  rw [e, List.length_map, List.length_map] at this
  exact Nat.le_trans this (Nat.mul_le_mul_left _ (by omega))

theorem Rks.append {a b : List P.S42} (ha : a.length ≤ 30 ∧ ∀ r ∈ a, Rk r) (hb : b.length ≤ 30 ∧ ∀ r ∈ b, Rk r) : Rks (a ++ b) := by
  refine ⟨by rw [List.length_append]; omega, fun r hr => ?_⟩
  rcases List.mem_append.1 hr with h | h
  · exact ha.2 r h
  · exact hb.2 r h

/-- What the lists say of a name, rule by rule. -/
theorem anyN_eq (rs : List P.S42) (h p : ByteArray) : (lists (effsOf rs) [] []).2.any (mok h p none) = rs.any (fun r => sayN h p (eff r)) := by
  rw [any_names]
  unfold effsOf
  split
  · rename_i e; subst e; rfl
  · rw [List.any_map]; rfl
theorem anyN_append (a b : List P.S42) (h p : ByteArray) : (lists (effsOf (a ++ b)) [] []).2.any (mok h p none) = ((lists (effsOf a) [] []).2.any (mok h p none) || (lists (effsOf b) [] []).2.any (mok h p none)) := by
  rw [anyN_eq, anyN_eq, anyN_eq, List.any_append]
theorem anyN_reverse (a : List P.S42) (h p : ByteArray) : (lists (effsOf a.reverse) [] []).2.any (mok h p none) = (lists (effsOf a) [] []).2.any (mok h p none) := by
  rw [anyN_eq, anyN_eq, List.any_reverse]

/-- Two lists with a comma between them. -/
theorem listed_two (a b : List P.S42) (ha : a.length ≤ 30 ∧ ∀ r ∈ a, Rk r) (hb : b.length ≤ 30 ∧ ∀ r ∈ b, Rk r) (na : a ≠ []) (nb : b ≠ []) :
    Listed ((joinB ⟨#[44]⟩ (a.map ruleText) ++ (⟨#[44]⟩ : ByteArray)) ++ joinB ⟨#[44]⟩ (b.map ruleText)) (effsOf (a ++ b)) := by
  have := listed_plain (a ++ b) (Rks.append ha hb)
  rw [List.map_append, joinB_append _ _ _ (by simpa using na) (by simpa using nb)] at this
  exact this

/-- Spaces beside commas, and about the list. -/
theorem joinL_spaced (a b s : List UInt8) : ∀ (xs : List (List UInt8)), xs ≠ [] → a ++ joinL (b ++ s ++ a) xs ++ b = joinL s (xs.map fun x => a ++ x ++ b)
  | [], h => absurd rfl h
  | [x], _ => by simp [joinL]
  | x :: y :: t, _ => by
    have ih := joinL_spaced a b s (y :: t) (by simp)
    have e1 : joinL (b ++ s ++ a) (x :: y :: t) = x ++ (b ++ s ++ a) ++ joinL (b ++ s ++ a) (y :: t) := by simp [joinL]
    have e2 : joinL s ((x :: y :: t).map fun x => a ++ x ++ b) = (a ++ x ++ b) ++ s ++ joinL s ((y :: t).map fun x => a ++ x ++ b) := by simp [joinL]
    rw [e1, e2, ← ih]
    simp

theorem sps1 : Sps [32] := fun x hx => by simpa using hx
theorem listed_spaced (rs : List P.S42) (hr : Rks rs) : Listed (((⟨#[32]⟩ : ByteArray) ++ joinB ⟨#[32, 44, 32]⟩ (rs.map ruleText)) ++ (⟨#[32]⟩ : ByteArray)) (effsOf rs) := by
  have := listed_rules rs hr [32] [32] id sps1 sps1 (by simp) (by simp) (fun x hx => ⟨hx.1, hx.2.1, hx.2.2.1, by
    have := lower_map (q := [x]) (fun b hb => by simp at hb; subst hb; exact hx.2.2.2)
    simpa using this⟩)
  have e : ((⟨#[32]⟩ : ByteArray) ++ joinB ⟨#[32, 44, 32]⟩ (rs.map ruleText)) ++ (⟨#[32]⟩ : ByteArray) = MK (if rs = [] then [32] ++ [32] else joinL [44] (rs.map fun r => [32] ++ (BL (ruleText r)).map id ++ [32])) := by
    apply eq_of_BL
    rw [BL_append, BL_append, BL_MK]
    unfold joinB
    simp only [BL_MK]
    split
    · rename_i h; subst h; rfl
    · rename_i h
      have := joinL_spaced [32] [32] [44] ((rs.map ruleText).map BL) (by simpa using h)
      rw [List.map_map, List.map_map] at this
      rw [List.map_map]
      simp only [List.map_id]
      exact this
  rw [e]
  exact this

/-! ### Capitals -/
def upperB (b : UInt8) : UInt8 := if 97 ≤ b.toNat ∧ b.toNat ≤ 122 then b - 97 + 65 else b
def upperT (s : ByteArray) : ByteArray := MK ((BL s).map upperB)
theorem upper_all : ∀ i : Fin 256, ¬ (65 ≤ i.val ∧ i.val ≤ 90) → 32 < i.val → i.val < 128 → i.val ≠ 44 →
    32 < (upperB (UInt8.ofNat i.val)).toNat ∧ (upperB (UInt8.ofNat i.val)).toNat < 128 ∧ (upperB (UInt8.ofNat i.val)).toNat ≠ 44 ∧ Lib.lowerB (upperB (UInt8.ofNat i.val)) = UInt8.ofNat i.val := by decide +kernel
theorem upper_ok (x : UInt8) (hx : RuleB x) : 32 < (upperB x).toNat ∧ (upperB x).toNat < 128 ∧ (upperB x).toNat ≠ 44 ∧ Lib.lowerB (upperB x) = x := by
  have := upper_all ⟨x.toNat, x.toNat_lt⟩ hx.2.2.2 hx.1 hx.2.1 hx.2.2.1
  simpa using this
theorem upper_host : ∀ i : Fin 256, (97 ≤ i.val ∧ i.val ≤ 122) ∨ (48 ≤ i.val ∧ i.val ≤ 57) ∨ i.val = 45 ∨ i.val = 46 →
    (32 < (upperB (UInt8.ofNat i.val)).toNat ∧ (upperB (UInt8.ofNat i.val)).toNat < 128 ∧ (upperB (UInt8.ofNat i.val)).toNat ≠ 58 ∧ (upperB (UInt8.ofNat i.val)).toNat ≠ 91 ∧ (upperB (UInt8.ofNat i.val)).toNat ≠ 93 ∧ (upperB (UInt8.ofNat i.val)).toNat ≠ 37) ∧ (upperB (UInt8.ofNat i.val)).toNat ≠ 108 ∧ Lib.lowerB (upperB (UInt8.ofNat i.val)) = UInt8.ofNat i.val ∧ (97 ≤ i.val → ¬ (48 ≤ (upperB (UInt8.ofNat i.val)).toNat ∧ (upperB (UInt8.ofNat i.val)).toNat ≤ 57)) := by decide +kernel

theorem joinL_map (g : UInt8 → UInt8) (sep : List UInt8) (xs : List (List UInt8)) : (joinL sep xs).map g = joinL (sep.map g) (xs.map (·.map g)) := by
  cases xs with
  | nil => rfl
  | cons x t =>
    simp only [joinL, List.map_append, List.map_cons, List.map_flatten, List.map_map]
    congr 2
    exact List.map_congr_left fun y _ => by simp

theorem listed_upper (rs : List P.S42) (hr : Rks rs) : Listed (upperT (joinB ⟨#[44]⟩ (rs.map ruleText))) (effsOf rs) := by
  have := listed_rules rs hr [] [] upperB (fun x hx => by cases hx) (fun x hx => by cases hx) (by simp) (by simp) upper_ok
  have e : upperT (joinB ⟨#[44]⟩ (rs.map ruleText)) = MK (if rs = [] then [] ++ [] else joinL [44] (rs.map fun r => [] ++ (BL (ruleText r)).map upperB ++ [])) := by
    unfold upperT joinB
    simp only [BL_MK]
    split
    · rename_i h; subst h; rfl
    · rw [joinL_map, List.map_map, List.map_map]
      simp only [List.nil_append, List.append_nil]
      rfl
  rw [e]
  exact this

theorem Nm.upper_addr {nm p : List UInt8} (h : Nm nm) (hp : Pt p) : NameAddr (MK (nm.map upperB ++ [58] ++ p)) (MK (nm.map upperB)) (MK p) (MK nm) := by
  have hall : ∀ b ∈ nm, _ := fun b hb => upper_host ⟨b.toNat, b.toNat_lt⟩ (h.all b hb)
  simp only [UInt8.ofNat_toNat] at hall
  refine nameAddr_of (by simpa using h.ne) (by have := h.len; rw [List.length_map]; omega) (fun b hb => ?_) ?_ ?_ hp
  · obtain ⟨x, hx, rfl⟩ := List.mem_map.1 hb
    exact (hall x hx).1
  · obtain ⟨x, t, e, h1, h2⟩ := h.head
    have hx := hall x (by rw [e]; exact List.mem_cons_self)
    rw [e, List.map_cons, MK_first rfl]
    have := hx.2.2.2 h1
    omega
  · rw [List.map_map]
    conv => rhs; rw [← List.map_id nm]
    exact List.map_congr_left fun y hy => (hall y hy).2.2.1

theorem Nm.upper_local {nm : List UInt8} (h : Nm nm) : (MK (nm.map upperB)).toList ≠ [108, 111, 99, 97, 108, 104, 111, 115, 116] := by
  rw [toList_MK]
  obtain ⟨x, t, e, h1, h2⟩ := h.head
  have hx := upper_host ⟨x.toNat, x.toNat_lt⟩ (h.all x (by rw [e]; exact List.mem_cons_self))
  simp only [UInt8.ofNat_toNat] at hx
  rw [e, List.map_cons]
  intro k
  injection k with k _
  exact hx.2.1 (by rw [k]; rfl)

/-- A request to a name in capitals. -/
theorem uses_upper (p4 p6 : Addr) (w : World) (no : ByteArray) (rs : List P.S42) (nm p : List UInt8) (G : GW p4 p6 w) (hl : Listed no (effsOf rs)) (hn : Nm nm) (hp : Pt p) :
    Calls Tryz.prog 24 #[.string no, .string (MK (nm.map upperB ++ [58] ++ p))] w fun e w' => e = .returned (.bool (!((lists (effsOf rs) [] []).2.any (mok (MK nm) (MK p) none)))) ∧ Below w.heap.size w w' :=
  uses_name p4 p6 no (effsOf rs) w _ (MK (nm.map upperB)) (MK p) (MK nm) G hl (hn.upper_addr hp) hn.upper_local
end Go.Proofs.YtnchgmjeoajmiaaGreatDoor

/-! Says -/
namespace Go.Proofs.YtnchgmjeoajmiaaGreatDoor
open Go.RowKit Go.Proofs.YtnchgmjeoajmiaaGreatDoorW.PrintWords
set_option linter.unusedSimpArgs false
set_option linter.unusedVariables false

/-- Whether a request to a name and a port goes through the proxy, by rules. -/
def says (rs : List P.S42) (nm port : ByteArray) : Bool := !(nm.toList == [108, 111, 99, 97, 108, 104, 111, 115, 116]) && !((lists (effsOf rs) [] []).2.any (mok nm port none))
theorem says_append (a b : List P.S42) (nm port : ByteArray) : says (a ++ b) nm port = (says a nm port && says b nm port) := by
  unfold says
  rw [anyN_append]
  generalize (lists (effsOf a) [] []).2.any (mok nm port none) = x
  generalize (lists (effsOf b) [] []).2.any (mok nm port none) = y
  generalize (nm.toList == [108, 111, 99, 97, 108, 104, 111, 115, 116]) = z
  cases x <;> cases y <;> cases z <;> rfl
theorem says_reverse (a : List P.S42) (nm port : ByteArray) : says a.reverse nm port = says a nm port := by
  unfold says
  rw [anyN_reverse]

theorem uses_text (p4 p6 : Addr) (w : World) (no : ByteArray) (rs : List P.S42) (nm port : ByteArray) (G : GW p4 p6 w) (hl : Listed no (effsOf rs)) (hn : Nm (BL nm)) (hp : Pt (BL port)) :
    Calls Tryz.prog 24 #[.string no, .string ((nm ++ (⟨#[58]⟩ : ByteArray)) ++ port)] w fun e w' => e = .returned (.bool (says rs nm port)) ∧ Below w.heap.size w w' := by
  have := uses_rules p4 p6 w no rs (BL nm) (BL port) G hl hn hp
  rw [← addr_text, MK_BL, MK_BL, ← local_eq] at this
  exact this

theorem uses_text_upper (p4 p6 : Addr) (w : World) (no : ByteArray) (rs : List P.S42) (nm port : ByteArray) (G : GW p4 p6 w) (hl : Listed no (effsOf rs)) (hn : Nm (BL nm)) (hp : Pt (BL port)) (hloc : (nm.toList == [108, 111, 99, 97, 108, 104, 111, 115, 116]) = false) :
    Calls Tryz.prog 24 #[.string no, .string ((upperT nm ++ (⟨#[58]⟩ : ByteArray)) ++ port)] w fun e w' => e = .returned (.bool (says rs nm port)) ∧ Below w.heap.size w w' := by
  have := uses_upper p4 p6 w no rs (BL nm) (BL port) G hl hn hp
  rw [show says rs nm port = !((lists (effsOf rs) [] []).2.any (mok nm port none)) by unfold says; rw [hloc]; rfl]
  rw [MK_BL, MK_BL] at this
  rw [addr_text, show BL (upperT nm) = (BL nm).map upperB from rfl]
  exact this

theorem upperT_size (s : ByteArray) : (upperT s).size = s.size := by
  unfold upperT
  rw [MK_size, List.length_map, BL_size]
end Go.Proofs.YtnchgmjeoajmiaaGreatDoor

/-! Textk -/
namespace Go.Proofs.YtnchgmjeoajmiaaGreatDoor
open Go.RowKit Go.Proofs.YtnchgmjeoajmiaaGreatDoorW.PrintWords
set_option linter.unusedSimpArgs false
set_option linter.unusedVariables false

theorem byte_fin {a : Int} (h : Byte a) : ∃ i : Fin 256, a = (i.val : Int) := by
  unfold Byte at h
  exact ⟨⟨a.toNat, by omega⟩, by simp; omega⟩
theorem and_f0 : ∀ i : Fin 256, bits .and .u8 (i.val : Int) 255 = (i.val : Int) / 1 * 1 := by decide +kernel
theorem top_255 {a x : Int} (ha : Byte a) (hx : Byte x) : (bits .and .u8 (bits .and .u8 a 255) 255 == bits .and .u8 x 255) = decide (a / 1 = x / 1) := by
  obtain ⟨i, rfl⟩ := byte_fin ha
  obtain ⟨j, rfl⟩ := byte_fin hx
  have hi := i.isLt
  rw [and_f0 i, and_f0 j]
  have e : (i.val : Int) / 1 * 1 = (((i.val / 1 * 1 : Nat)) : Int) := by omega
  rw [e, and_f0 ⟨i.val / 1 * 1, by omega⟩, Bool.eq_iff_iff, beq_iff_eq, decide_eq_true_eq]
  simp only []
  omega
theorem and_f1 : ∀ i : Fin 256, bits .and .u8 (i.val : Int) 254 = (i.val : Int) / 2 * 2 := by decide +kernel
theorem top_254 {a x : Int} (ha : Byte a) (hx : Byte x) : (bits .and .u8 (bits .and .u8 a 254) 254 == bits .and .u8 x 254) = decide (a / 2 = x / 2) := by
  obtain ⟨i, rfl⟩ := byte_fin ha
  obtain ⟨j, rfl⟩ := byte_fin hx
  have hi := i.isLt
  rw [and_f1 i, and_f1 j]
  have e : (i.val : Int) / 2 * 2 = (((i.val / 2 * 2 : Nat)) : Int) := by omega
  rw [e, and_f1 ⟨i.val / 2 * 2, by omega⟩, Bool.eq_iff_iff, beq_iff_eq, decide_eq_true_eq]
  simp only []
  omega
theorem and_f2 : ∀ i : Fin 256, bits .and .u8 (i.val : Int) 252 = (i.val : Int) / 4 * 4 := by decide +kernel
theorem top_252 {a x : Int} (ha : Byte a) (hx : Byte x) : (bits .and .u8 (bits .and .u8 a 252) 252 == bits .and .u8 x 252) = decide (a / 4 = x / 4) := by
  obtain ⟨i, rfl⟩ := byte_fin ha
  obtain ⟨j, rfl⟩ := byte_fin hx
  have hi := i.isLt
  rw [and_f2 i, and_f2 j]
  have e : (i.val : Int) / 4 * 4 = (((i.val / 4 * 4 : Nat)) : Int) := by omega
  rw [e, and_f2 ⟨i.val / 4 * 4, by omega⟩, Bool.eq_iff_iff, beq_iff_eq, decide_eq_true_eq]
  simp only []
  omega
theorem and_f3 : ∀ i : Fin 256, bits .and .u8 (i.val : Int) 248 = (i.val : Int) / 8 * 8 := by decide +kernel
theorem top_248 {a x : Int} (ha : Byte a) (hx : Byte x) : (bits .and .u8 (bits .and .u8 a 248) 248 == bits .and .u8 x 248) = decide (a / 8 = x / 8) := by
  obtain ⟨i, rfl⟩ := byte_fin ha
  obtain ⟨j, rfl⟩ := byte_fin hx
  have hi := i.isLt
  rw [and_f3 i, and_f3 j]
  have e : (i.val : Int) / 8 * 8 = (((i.val / 8 * 8 : Nat)) : Int) := by omega
  rw [e, and_f3 ⟨i.val / 8 * 8, by omega⟩, Bool.eq_iff_iff, beq_iff_eq, decide_eq_true_eq]
  simp only []
  omega
theorem and_f4 : ∀ i : Fin 256, bits .and .u8 (i.val : Int) 240 = (i.val : Int) / 16 * 16 := by decide +kernel
theorem top_240 {a x : Int} (ha : Byte a) (hx : Byte x) : (bits .and .u8 (bits .and .u8 a 240) 240 == bits .and .u8 x 240) = decide (a / 16 = x / 16) := by
  obtain ⟨i, rfl⟩ := byte_fin ha
  obtain ⟨j, rfl⟩ := byte_fin hx
  have hi := i.isLt
  rw [and_f4 i, and_f4 j]
  have e : (i.val : Int) / 16 * 16 = (((i.val / 16 * 16 : Nat)) : Int) := by omega
  rw [e, and_f4 ⟨i.val / 16 * 16, by omega⟩, Bool.eq_iff_iff, beq_iff_eq, decide_eq_true_eq]
  simp only []
  omega
theorem and_f5 : ∀ i : Fin 256, bits .and .u8 (i.val : Int) 224 = (i.val : Int) / 32 * 32 := by decide +kernel
theorem top_224 {a x : Int} (ha : Byte a) (hx : Byte x) : (bits .and .u8 (bits .and .u8 a 224) 224 == bits .and .u8 x 224) = decide (a / 32 = x / 32) := by
  obtain ⟨i, rfl⟩ := byte_fin ha
  obtain ⟨j, rfl⟩ := byte_fin hx
  have hi := i.isLt
  rw [and_f5 i, and_f5 j]
  have e : (i.val : Int) / 32 * 32 = (((i.val / 32 * 32 : Nat)) : Int) := by omega
  rw [e, and_f5 ⟨i.val / 32 * 32, by omega⟩, Bool.eq_iff_iff, beq_iff_eq, decide_eq_true_eq]
  simp only []
  omega
theorem and_f6 : ∀ i : Fin 256, bits .and .u8 (i.val : Int) 192 = (i.val : Int) / 64 * 64 := by decide +kernel
theorem top_192 {a x : Int} (ha : Byte a) (hx : Byte x) : (bits .and .u8 (bits .and .u8 a 192) 192 == bits .and .u8 x 192) = decide (a / 64 = x / 64) := by
  obtain ⟨i, rfl⟩ := byte_fin ha
  obtain ⟨j, rfl⟩ := byte_fin hx
  have hi := i.isLt
  rw [and_f6 i, and_f6 j]
  have e : (i.val : Int) / 64 * 64 = (((i.val / 64 * 64 : Nat)) : Int) := by omega
  rw [e, and_f6 ⟨i.val / 64 * 64, by omega⟩, Bool.eq_iff_iff, beq_iff_eq, decide_eq_true_eq]
  simp only []
  omega
theorem and_f7 : ∀ i : Fin 256, bits .and .u8 (i.val : Int) 128 = (i.val : Int) / 128 * 128 := by decide +kernel
theorem top_128 {a x : Int} (ha : Byte a) (hx : Byte x) : (bits .and .u8 (bits .and .u8 a 128) 128 == bits .and .u8 x 128) = decide (a / 128 = x / 128) := by
  obtain ⟨i, rfl⟩ := byte_fin ha
  obtain ⟨j, rfl⟩ := byte_fin hx
  have hi := i.isLt
  rw [and_f7 i, and_f7 j]
  have e : (i.val : Int) / 128 * 128 = (((i.val / 128 * 128 : Nat)) : Int) := by omega
  rw [e, and_f7 ⟨i.val / 128 * 128, by omega⟩, Bool.eq_iff_iff, beq_iff_eq, decide_eq_true_eq]
  simp only []
  omega
theorem and_f8 : ∀ i : Fin 256, bits .and .u8 (i.val : Int) 0 = (i.val : Int) / 256 * 256 := by decide +kernel
theorem top_0 {a x : Int} (ha : Byte a) (hx : Byte x) : (bits .and .u8 (bits .and .u8 a 0) 0 == bits .and .u8 x 0) = decide (a / 256 = x / 256) := by
  obtain ⟨i, rfl⟩ := byte_fin ha
  obtain ⟨j, rfl⟩ := byte_fin hx
  have hi := i.isLt
  rw [and_f8 i, and_f8 j]
  have e : (i.val : Int) / 256 * 256 = (((i.val / 256 * 256 : Nat)) : Int) := by omega
  rw [e, and_f8 ⟨i.val / 256 * 256, by omega⟩, Bool.eq_iff_iff, beq_iff_eq, decide_eq_true_eq]
  simp only []
  omega
def num4 (a b c d : Int) : Int := a * 16777216 + b * 65536 + c * 256 + d
theorem under_four (n0 n1 n2 n3 m0 m1 m2 m3 x0 x1 x2 x3 : Int) : under [n0, n1, n2, n3] [m0, m1, m2, m3] [x0, x1, x2, x3] = ((bits .and .u8 n0 m0 == bits .and .u8 x0 m0) && ((bits .and .u8 n1 m1 == bits .and .u8 x1 m1) && ((bits .and .u8 n2 m2 == bits .and .u8 x2 m2) && (bits .and .u8 n3 m3 == bits .and .u8 x3 m3)))) := by
  simp [under, List.zip, List.zipWith]

theorem net_0 {a b c d x0 x1 x2 x3 : Int} (ha : Byte a) (hb : Byte b) (hc : Byte c) (hd : Byte d) (h0 : Byte x0) (h1 : Byte x1) (h2 : Byte x2) (h3 : Byte x3) :
    mask4 0 = [0, 0, 0, 0] ∧ under [bits .and .u8 a 0, bits .and .u8 b 0, bits .and .u8 c 0, bits .and .u8 d 0] [0, 0, 0, 0] [x0, x1, x2, x3] = (num4 x0 x1 x2 x3 / 4294967296 == num4 a b c d / 4294967296) := by
  refine ⟨by decide +kernel, ?_⟩
  rw [under_four, top_0 ha h0, top_0 hb h1, top_0 hc h2, top_0 hd h3, Bool.eq_iff_iff]
  simp only [Bool.and_eq_true, decide_eq_true_eq, beq_iff_eq]
  unfold Byte at *
  unfold num4
  omega
theorem net_1 {a b c d x0 x1 x2 x3 : Int} (ha : Byte a) (hb : Byte b) (hc : Byte c) (hd : Byte d) (h0 : Byte x0) (h1 : Byte x1) (h2 : Byte x2) (h3 : Byte x3) :
    mask4 1 = [128, 0, 0, 0] ∧ under [bits .and .u8 a 128, bits .and .u8 b 0, bits .and .u8 c 0, bits .and .u8 d 0] [128, 0, 0, 0] [x0, x1, x2, x3] = (num4 x0 x1 x2 x3 / 2147483648 == num4 a b c d / 2147483648) := by
  refine ⟨by decide +kernel, ?_⟩
  rw [under_four, top_128 ha h0, top_0 hb h1, top_0 hc h2, top_0 hd h3, Bool.eq_iff_iff]
  simp only [Bool.and_eq_true, decide_eq_true_eq, beq_iff_eq]
  unfold Byte at *
  unfold num4
  omega
theorem net_2 {a b c d x0 x1 x2 x3 : Int} (ha : Byte a) (hb : Byte b) (hc : Byte c) (hd : Byte d) (h0 : Byte x0) (h1 : Byte x1) (h2 : Byte x2) (h3 : Byte x3) :
    mask4 2 = [192, 0, 0, 0] ∧ under [bits .and .u8 a 192, bits .and .u8 b 0, bits .and .u8 c 0, bits .and .u8 d 0] [192, 0, 0, 0] [x0, x1, x2, x3] = (num4 x0 x1 x2 x3 / 1073741824 == num4 a b c d / 1073741824) := by
  refine ⟨by decide +kernel, ?_⟩
  rw [under_four, top_192 ha h0, top_0 hb h1, top_0 hc h2, top_0 hd h3, Bool.eq_iff_iff]
  simp only [Bool.and_eq_true, decide_eq_true_eq, beq_iff_eq]
  unfold Byte at *
  unfold num4
  omega
theorem net_3 {a b c d x0 x1 x2 x3 : Int} (ha : Byte a) (hb : Byte b) (hc : Byte c) (hd : Byte d) (h0 : Byte x0) (h1 : Byte x1) (h2 : Byte x2) (h3 : Byte x3) :
    mask4 3 = [224, 0, 0, 0] ∧ under [bits .and .u8 a 224, bits .and .u8 b 0, bits .and .u8 c 0, bits .and .u8 d 0] [224, 0, 0, 0] [x0, x1, x2, x3] = (num4 x0 x1 x2 x3 / 536870912 == num4 a b c d / 536870912) := by
  refine ⟨by decide +kernel, ?_⟩
  rw [under_four, top_224 ha h0, top_0 hb h1, top_0 hc h2, top_0 hd h3, Bool.eq_iff_iff]
  simp only [Bool.and_eq_true, decide_eq_true_eq, beq_iff_eq]
  unfold Byte at *
  unfold num4
  omega
theorem net_4 {a b c d x0 x1 x2 x3 : Int} (ha : Byte a) (hb : Byte b) (hc : Byte c) (hd : Byte d) (h0 : Byte x0) (h1 : Byte x1) (h2 : Byte x2) (h3 : Byte x3) :
    mask4 4 = [240, 0, 0, 0] ∧ under [bits .and .u8 a 240, bits .and .u8 b 0, bits .and .u8 c 0, bits .and .u8 d 0] [240, 0, 0, 0] [x0, x1, x2, x3] = (num4 x0 x1 x2 x3 / 268435456 == num4 a b c d / 268435456) := by
  refine ⟨by decide +kernel, ?_⟩
  rw [under_four, top_240 ha h0, top_0 hb h1, top_0 hc h2, top_0 hd h3, Bool.eq_iff_iff]
  simp only [Bool.and_eq_true, decide_eq_true_eq, beq_iff_eq]
  unfold Byte at *
  unfold num4
  omega
theorem net_5 {a b c d x0 x1 x2 x3 : Int} (ha : Byte a) (hb : Byte b) (hc : Byte c) (hd : Byte d) (h0 : Byte x0) (h1 : Byte x1) (h2 : Byte x2) (h3 : Byte x3) :
    mask4 5 = [248, 0, 0, 0] ∧ under [bits .and .u8 a 248, bits .and .u8 b 0, bits .and .u8 c 0, bits .and .u8 d 0] [248, 0, 0, 0] [x0, x1, x2, x3] = (num4 x0 x1 x2 x3 / 134217728 == num4 a b c d / 134217728) := by
  refine ⟨by decide +kernel, ?_⟩
  rw [under_four, top_248 ha h0, top_0 hb h1, top_0 hc h2, top_0 hd h3, Bool.eq_iff_iff]
  simp only [Bool.and_eq_true, decide_eq_true_eq, beq_iff_eq]
  unfold Byte at *
  unfold num4
  omega
theorem net_6 {a b c d x0 x1 x2 x3 : Int} (ha : Byte a) (hb : Byte b) (hc : Byte c) (hd : Byte d) (h0 : Byte x0) (h1 : Byte x1) (h2 : Byte x2) (h3 : Byte x3) :
    mask4 6 = [252, 0, 0, 0] ∧ under [bits .and .u8 a 252, bits .and .u8 b 0, bits .and .u8 c 0, bits .and .u8 d 0] [252, 0, 0, 0] [x0, x1, x2, x3] = (num4 x0 x1 x2 x3 / 67108864 == num4 a b c d / 67108864) := by
  refine ⟨by decide +kernel, ?_⟩
  rw [under_four, top_252 ha h0, top_0 hb h1, top_0 hc h2, top_0 hd h3, Bool.eq_iff_iff]
  simp only [Bool.and_eq_true, decide_eq_true_eq, beq_iff_eq]
  unfold Byte at *
  unfold num4
  omega
theorem net_7 {a b c d x0 x1 x2 x3 : Int} (ha : Byte a) (hb : Byte b) (hc : Byte c) (hd : Byte d) (h0 : Byte x0) (h1 : Byte x1) (h2 : Byte x2) (h3 : Byte x3) :
    mask4 7 = [254, 0, 0, 0] ∧ under [bits .and .u8 a 254, bits .and .u8 b 0, bits .and .u8 c 0, bits .and .u8 d 0] [254, 0, 0, 0] [x0, x1, x2, x3] = (num4 x0 x1 x2 x3 / 33554432 == num4 a b c d / 33554432) := by
  refine ⟨by decide +kernel, ?_⟩
  rw [under_four, top_254 ha h0, top_0 hb h1, top_0 hc h2, top_0 hd h3, Bool.eq_iff_iff]
  simp only [Bool.and_eq_true, decide_eq_true_eq, beq_iff_eq]
  unfold Byte at *
  unfold num4
  omega
theorem net_8 {a b c d x0 x1 x2 x3 : Int} (ha : Byte a) (hb : Byte b) (hc : Byte c) (hd : Byte d) (h0 : Byte x0) (h1 : Byte x1) (h2 : Byte x2) (h3 : Byte x3) :
    mask4 8 = [255, 0, 0, 0] ∧ under [bits .and .u8 a 255, bits .and .u8 b 0, bits .and .u8 c 0, bits .and .u8 d 0] [255, 0, 0, 0] [x0, x1, x2, x3] = (num4 x0 x1 x2 x3 / 16777216 == num4 a b c d / 16777216) := by
  refine ⟨by decide +kernel, ?_⟩
  rw [under_four, top_255 ha h0, top_0 hb h1, top_0 hc h2, top_0 hd h3, Bool.eq_iff_iff]
  simp only [Bool.and_eq_true, decide_eq_true_eq, beq_iff_eq]
  unfold Byte at *
  unfold num4
  omega
theorem net_9 {a b c d x0 x1 x2 x3 : Int} (ha : Byte a) (hb : Byte b) (hc : Byte c) (hd : Byte d) (h0 : Byte x0) (h1 : Byte x1) (h2 : Byte x2) (h3 : Byte x3) :
    mask4 9 = [255, 128, 0, 0] ∧ under [bits .and .u8 a 255, bits .and .u8 b 128, bits .and .u8 c 0, bits .and .u8 d 0] [255, 128, 0, 0] [x0, x1, x2, x3] = (num4 x0 x1 x2 x3 / 8388608 == num4 a b c d / 8388608) := by
  refine ⟨by decide +kernel, ?_⟩
  rw [under_four, top_255 ha h0, top_128 hb h1, top_0 hc h2, top_0 hd h3, Bool.eq_iff_iff]
  simp only [Bool.and_eq_true, decide_eq_true_eq, beq_iff_eq]
  unfold Byte at *
  unfold num4
  omega
theorem net_10 {a b c d x0 x1 x2 x3 : Int} (ha : Byte a) (hb : Byte b) (hc : Byte c) (hd : Byte d) (h0 : Byte x0) (h1 : Byte x1) (h2 : Byte x2) (h3 : Byte x3) :
    mask4 10 = [255, 192, 0, 0] ∧ under [bits .and .u8 a 255, bits .and .u8 b 192, bits .and .u8 c 0, bits .and .u8 d 0] [255, 192, 0, 0] [x0, x1, x2, x3] = (num4 x0 x1 x2 x3 / 4194304 == num4 a b c d / 4194304) := by
  refine ⟨by decide +kernel, ?_⟩
  rw [under_four, top_255 ha h0, top_192 hb h1, top_0 hc h2, top_0 hd h3, Bool.eq_iff_iff]
  simp only [Bool.and_eq_true, decide_eq_true_eq, beq_iff_eq]
  unfold Byte at *
  unfold num4
  omega
theorem net_11 {a b c d x0 x1 x2 x3 : Int} (ha : Byte a) (hb : Byte b) (hc : Byte c) (hd : Byte d) (h0 : Byte x0) (h1 : Byte x1) (h2 : Byte x2) (h3 : Byte x3) :
    mask4 11 = [255, 224, 0, 0] ∧ under [bits .and .u8 a 255, bits .and .u8 b 224, bits .and .u8 c 0, bits .and .u8 d 0] [255, 224, 0, 0] [x0, x1, x2, x3] = (num4 x0 x1 x2 x3 / 2097152 == num4 a b c d / 2097152) := by
  refine ⟨by decide +kernel, ?_⟩
  rw [under_four, top_255 ha h0, top_224 hb h1, top_0 hc h2, top_0 hd h3, Bool.eq_iff_iff]
  simp only [Bool.and_eq_true, decide_eq_true_eq, beq_iff_eq]
  unfold Byte at *
  unfold num4
  omega
theorem net_12 {a b c d x0 x1 x2 x3 : Int} (ha : Byte a) (hb : Byte b) (hc : Byte c) (hd : Byte d) (h0 : Byte x0) (h1 : Byte x1) (h2 : Byte x2) (h3 : Byte x3) :
    mask4 12 = [255, 240, 0, 0] ∧ under [bits .and .u8 a 255, bits .and .u8 b 240, bits .and .u8 c 0, bits .and .u8 d 0] [255, 240, 0, 0] [x0, x1, x2, x3] = (num4 x0 x1 x2 x3 / 1048576 == num4 a b c d / 1048576) := by
  refine ⟨by decide +kernel, ?_⟩
  rw [under_four, top_255 ha h0, top_240 hb h1, top_0 hc h2, top_0 hd h3, Bool.eq_iff_iff]
  simp only [Bool.and_eq_true, decide_eq_true_eq, beq_iff_eq]
  unfold Byte at *
  unfold num4
  omega
theorem net_13 {a b c d x0 x1 x2 x3 : Int} (ha : Byte a) (hb : Byte b) (hc : Byte c) (hd : Byte d) (h0 : Byte x0) (h1 : Byte x1) (h2 : Byte x2) (h3 : Byte x3) :
    mask4 13 = [255, 248, 0, 0] ∧ under [bits .and .u8 a 255, bits .and .u8 b 248, bits .and .u8 c 0, bits .and .u8 d 0] [255, 248, 0, 0] [x0, x1, x2, x3] = (num4 x0 x1 x2 x3 / 524288 == num4 a b c d / 524288) := by
  refine ⟨by decide +kernel, ?_⟩
  rw [under_four, top_255 ha h0, top_248 hb h1, top_0 hc h2, top_0 hd h3, Bool.eq_iff_iff]
  simp only [Bool.and_eq_true, decide_eq_true_eq, beq_iff_eq]
  unfold Byte at *
  unfold num4
  omega
theorem net_14 {a b c d x0 x1 x2 x3 : Int} (ha : Byte a) (hb : Byte b) (hc : Byte c) (hd : Byte d) (h0 : Byte x0) (h1 : Byte x1) (h2 : Byte x2) (h3 : Byte x3) :
    mask4 14 = [255, 252, 0, 0] ∧ under [bits .and .u8 a 255, bits .and .u8 b 252, bits .and .u8 c 0, bits .and .u8 d 0] [255, 252, 0, 0] [x0, x1, x2, x3] = (num4 x0 x1 x2 x3 / 262144 == num4 a b c d / 262144) := by
  refine ⟨by decide +kernel, ?_⟩
  rw [under_four, top_255 ha h0, top_252 hb h1, top_0 hc h2, top_0 hd h3, Bool.eq_iff_iff]
  simp only [Bool.and_eq_true, decide_eq_true_eq, beq_iff_eq]
  unfold Byte at *
  unfold num4
  omega
theorem net_15 {a b c d x0 x1 x2 x3 : Int} (ha : Byte a) (hb : Byte b) (hc : Byte c) (hd : Byte d) (h0 : Byte x0) (h1 : Byte x1) (h2 : Byte x2) (h3 : Byte x3) :
    mask4 15 = [255, 254, 0, 0] ∧ under [bits .and .u8 a 255, bits .and .u8 b 254, bits .and .u8 c 0, bits .and .u8 d 0] [255, 254, 0, 0] [x0, x1, x2, x3] = (num4 x0 x1 x2 x3 / 131072 == num4 a b c d / 131072) := by
  refine ⟨by decide +kernel, ?_⟩
  rw [under_four, top_255 ha h0, top_254 hb h1, top_0 hc h2, top_0 hd h3, Bool.eq_iff_iff]
  simp only [Bool.and_eq_true, decide_eq_true_eq, beq_iff_eq]
  unfold Byte at *
  unfold num4
  omega
theorem net_16 {a b c d x0 x1 x2 x3 : Int} (ha : Byte a) (hb : Byte b) (hc : Byte c) (hd : Byte d) (h0 : Byte x0) (h1 : Byte x1) (h2 : Byte x2) (h3 : Byte x3) :
    mask4 16 = [255, 255, 0, 0] ∧ under [bits .and .u8 a 255, bits .and .u8 b 255, bits .and .u8 c 0, bits .and .u8 d 0] [255, 255, 0, 0] [x0, x1, x2, x3] = (num4 x0 x1 x2 x3 / 65536 == num4 a b c d / 65536) := by
  refine ⟨by decide +kernel, ?_⟩
  rw [under_four, top_255 ha h0, top_255 hb h1, top_0 hc h2, top_0 hd h3, Bool.eq_iff_iff]
  simp only [Bool.and_eq_true, decide_eq_true_eq, beq_iff_eq]
  unfold Byte at *
  unfold num4
  omega
theorem net_17 {a b c d x0 x1 x2 x3 : Int} (ha : Byte a) (hb : Byte b) (hc : Byte c) (hd : Byte d) (h0 : Byte x0) (h1 : Byte x1) (h2 : Byte x2) (h3 : Byte x3) :
    mask4 17 = [255, 255, 128, 0] ∧ under [bits .and .u8 a 255, bits .and .u8 b 255, bits .and .u8 c 128, bits .and .u8 d 0] [255, 255, 128, 0] [x0, x1, x2, x3] = (num4 x0 x1 x2 x3 / 32768 == num4 a b c d / 32768) := by
  refine ⟨by decide +kernel, ?_⟩
  rw [under_four, top_255 ha h0, top_255 hb h1, top_128 hc h2, top_0 hd h3, Bool.eq_iff_iff]
  simp only [Bool.and_eq_true, decide_eq_true_eq, beq_iff_eq]
  unfold Byte at *
  unfold num4
  omega
theorem net_18 {a b c d x0 x1 x2 x3 : Int} (ha : Byte a) (hb : Byte b) (hc : Byte c) (hd : Byte d) (h0 : Byte x0) (h1 : Byte x1) (h2 : Byte x2) (h3 : Byte x3) :
    mask4 18 = [255, 255, 192, 0] ∧ under [bits .and .u8 a 255, bits .and .u8 b 255, bits .and .u8 c 192, bits .and .u8 d 0] [255, 255, 192, 0] [x0, x1, x2, x3] = (num4 x0 x1 x2 x3 / 16384 == num4 a b c d / 16384) := by
  refine ⟨by decide +kernel, ?_⟩
  rw [under_four, top_255 ha h0, top_255 hb h1, top_192 hc h2, top_0 hd h3, Bool.eq_iff_iff]
  simp only [Bool.and_eq_true, decide_eq_true_eq, beq_iff_eq]
  unfold Byte at *
  unfold num4
  omega
theorem net_19 {a b c d x0 x1 x2 x3 : Int} (ha : Byte a) (hb : Byte b) (hc : Byte c) (hd : Byte d) (h0 : Byte x0) (h1 : Byte x1) (h2 : Byte x2) (h3 : Byte x3) :
    mask4 19 = [255, 255, 224, 0] ∧ under [bits .and .u8 a 255, bits .and .u8 b 255, bits .and .u8 c 224, bits .and .u8 d 0] [255, 255, 224, 0] [x0, x1, x2, x3] = (num4 x0 x1 x2 x3 / 8192 == num4 a b c d / 8192) := by
  refine ⟨by decide +kernel, ?_⟩
  rw [under_four, top_255 ha h0, top_255 hb h1, top_224 hc h2, top_0 hd h3, Bool.eq_iff_iff]
  simp only [Bool.and_eq_true, decide_eq_true_eq, beq_iff_eq]
  unfold Byte at *
  unfold num4
  omega
theorem net_20 {a b c d x0 x1 x2 x3 : Int} (ha : Byte a) (hb : Byte b) (hc : Byte c) (hd : Byte d) (h0 : Byte x0) (h1 : Byte x1) (h2 : Byte x2) (h3 : Byte x3) :
    mask4 20 = [255, 255, 240, 0] ∧ under [bits .and .u8 a 255, bits .and .u8 b 255, bits .and .u8 c 240, bits .and .u8 d 0] [255, 255, 240, 0] [x0, x1, x2, x3] = (num4 x0 x1 x2 x3 / 4096 == num4 a b c d / 4096) := by
  refine ⟨by decide +kernel, ?_⟩
  rw [under_four, top_255 ha h0, top_255 hb h1, top_240 hc h2, top_0 hd h3, Bool.eq_iff_iff]
  simp only [Bool.and_eq_true, decide_eq_true_eq, beq_iff_eq]
  unfold Byte at *
  unfold num4
  omega
theorem net_21 {a b c d x0 x1 x2 x3 : Int} (ha : Byte a) (hb : Byte b) (hc : Byte c) (hd : Byte d) (h0 : Byte x0) (h1 : Byte x1) (h2 : Byte x2) (h3 : Byte x3) :
    mask4 21 = [255, 255, 248, 0] ∧ under [bits .and .u8 a 255, bits .and .u8 b 255, bits .and .u8 c 248, bits .and .u8 d 0] [255, 255, 248, 0] [x0, x1, x2, x3] = (num4 x0 x1 x2 x3 / 2048 == num4 a b c d / 2048) := by
  refine ⟨by decide +kernel, ?_⟩
  rw [under_four, top_255 ha h0, top_255 hb h1, top_248 hc h2, top_0 hd h3, Bool.eq_iff_iff]
  simp only [Bool.and_eq_true, decide_eq_true_eq, beq_iff_eq]
  unfold Byte at *
  unfold num4
  omega
theorem net_22 {a b c d x0 x1 x2 x3 : Int} (ha : Byte a) (hb : Byte b) (hc : Byte c) (hd : Byte d) (h0 : Byte x0) (h1 : Byte x1) (h2 : Byte x2) (h3 : Byte x3) :
    mask4 22 = [255, 255, 252, 0] ∧ under [bits .and .u8 a 255, bits .and .u8 b 255, bits .and .u8 c 252, bits .and .u8 d 0] [255, 255, 252, 0] [x0, x1, x2, x3] = (num4 x0 x1 x2 x3 / 1024 == num4 a b c d / 1024) := by
  refine ⟨by decide +kernel, ?_⟩
  rw [under_four, top_255 ha h0, top_255 hb h1, top_252 hc h2, top_0 hd h3, Bool.eq_iff_iff]
  simp only [Bool.and_eq_true, decide_eq_true_eq, beq_iff_eq]
  unfold Byte at *
  unfold num4
  omega
theorem net_23 {a b c d x0 x1 x2 x3 : Int} (ha : Byte a) (hb : Byte b) (hc : Byte c) (hd : Byte d) (h0 : Byte x0) (h1 : Byte x1) (h2 : Byte x2) (h3 : Byte x3) :
    mask4 23 = [255, 255, 254, 0] ∧ under [bits .and .u8 a 255, bits .and .u8 b 255, bits .and .u8 c 254, bits .and .u8 d 0] [255, 255, 254, 0] [x0, x1, x2, x3] = (num4 x0 x1 x2 x3 / 512 == num4 a b c d / 512) := by
  refine ⟨by decide +kernel, ?_⟩
  rw [under_four, top_255 ha h0, top_255 hb h1, top_254 hc h2, top_0 hd h3, Bool.eq_iff_iff]
  simp only [Bool.and_eq_true, decide_eq_true_eq, beq_iff_eq]
  unfold Byte at *
  unfold num4
  omega
theorem net_24 {a b c d x0 x1 x2 x3 : Int} (ha : Byte a) (hb : Byte b) (hc : Byte c) (hd : Byte d) (h0 : Byte x0) (h1 : Byte x1) (h2 : Byte x2) (h3 : Byte x3) :
    mask4 24 = [255, 255, 255, 0] ∧ under [bits .and .u8 a 255, bits .and .u8 b 255, bits .and .u8 c 255, bits .and .u8 d 0] [255, 255, 255, 0] [x0, x1, x2, x3] = (num4 x0 x1 x2 x3 / 256 == num4 a b c d / 256) := by
  refine ⟨by decide +kernel, ?_⟩
  rw [under_four, top_255 ha h0, top_255 hb h1, top_255 hc h2, top_0 hd h3, Bool.eq_iff_iff]
  simp only [Bool.and_eq_true, decide_eq_true_eq, beq_iff_eq]
  unfold Byte at *
  unfold num4
  omega
theorem net_25 {a b c d x0 x1 x2 x3 : Int} (ha : Byte a) (hb : Byte b) (hc : Byte c) (hd : Byte d) (h0 : Byte x0) (h1 : Byte x1) (h2 : Byte x2) (h3 : Byte x3) :
    mask4 25 = [255, 255, 255, 128] ∧ under [bits .and .u8 a 255, bits .and .u8 b 255, bits .and .u8 c 255, bits .and .u8 d 128] [255, 255, 255, 128] [x0, x1, x2, x3] = (num4 x0 x1 x2 x3 / 128 == num4 a b c d / 128) := by
  refine ⟨by decide +kernel, ?_⟩
  rw [under_four, top_255 ha h0, top_255 hb h1, top_255 hc h2, top_128 hd h3, Bool.eq_iff_iff]
  simp only [Bool.and_eq_true, decide_eq_true_eq, beq_iff_eq]
  unfold Byte at *
  unfold num4
  omega
theorem net_26 {a b c d x0 x1 x2 x3 : Int} (ha : Byte a) (hb : Byte b) (hc : Byte c) (hd : Byte d) (h0 : Byte x0) (h1 : Byte x1) (h2 : Byte x2) (h3 : Byte x3) :
    mask4 26 = [255, 255, 255, 192] ∧ under [bits .and .u8 a 255, bits .and .u8 b 255, bits .and .u8 c 255, bits .and .u8 d 192] [255, 255, 255, 192] [x0, x1, x2, x3] = (num4 x0 x1 x2 x3 / 64 == num4 a b c d / 64) := by
  refine ⟨by decide +kernel, ?_⟩
  rw [under_four, top_255 ha h0, top_255 hb h1, top_255 hc h2, top_192 hd h3, Bool.eq_iff_iff]
  simp only [Bool.and_eq_true, decide_eq_true_eq, beq_iff_eq]
  unfold Byte at *
  unfold num4
  omega
theorem net_27 {a b c d x0 x1 x2 x3 : Int} (ha : Byte a) (hb : Byte b) (hc : Byte c) (hd : Byte d) (h0 : Byte x0) (h1 : Byte x1) (h2 : Byte x2) (h3 : Byte x3) :
    mask4 27 = [255, 255, 255, 224] ∧ under [bits .and .u8 a 255, bits .and .u8 b 255, bits .and .u8 c 255, bits .and .u8 d 224] [255, 255, 255, 224] [x0, x1, x2, x3] = (num4 x0 x1 x2 x3 / 32 == num4 a b c d / 32) := by
  refine ⟨by decide +kernel, ?_⟩
  rw [under_four, top_255 ha h0, top_255 hb h1, top_255 hc h2, top_224 hd h3, Bool.eq_iff_iff]
  simp only [Bool.and_eq_true, decide_eq_true_eq, beq_iff_eq]
  unfold Byte at *
  unfold num4
  omega
theorem net_28 {a b c d x0 x1 x2 x3 : Int} (ha : Byte a) (hb : Byte b) (hc : Byte c) (hd : Byte d) (h0 : Byte x0) (h1 : Byte x1) (h2 : Byte x2) (h3 : Byte x3) :
    mask4 28 = [255, 255, 255, 240] ∧ under [bits .and .u8 a 255, bits .and .u8 b 255, bits .and .u8 c 255, bits .and .u8 d 240] [255, 255, 255, 240] [x0, x1, x2, x3] = (num4 x0 x1 x2 x3 / 16 == num4 a b c d / 16) := by
  refine ⟨by decide +kernel, ?_⟩
  rw [under_four, top_255 ha h0, top_255 hb h1, top_255 hc h2, top_240 hd h3, Bool.eq_iff_iff]
  simp only [Bool.and_eq_true, decide_eq_true_eq, beq_iff_eq]
  unfold Byte at *
  unfold num4
  omega
theorem net_29 {a b c d x0 x1 x2 x3 : Int} (ha : Byte a) (hb : Byte b) (hc : Byte c) (hd : Byte d) (h0 : Byte x0) (h1 : Byte x1) (h2 : Byte x2) (h3 : Byte x3) :
    mask4 29 = [255, 255, 255, 248] ∧ under [bits .and .u8 a 255, bits .and .u8 b 255, bits .and .u8 c 255, bits .and .u8 d 248] [255, 255, 255, 248] [x0, x1, x2, x3] = (num4 x0 x1 x2 x3 / 8 == num4 a b c d / 8) := by
  refine ⟨by decide +kernel, ?_⟩
  rw [under_four, top_255 ha h0, top_255 hb h1, top_255 hc h2, top_248 hd h3, Bool.eq_iff_iff]
  simp only [Bool.and_eq_true, decide_eq_true_eq, beq_iff_eq]
  unfold Byte at *
  unfold num4
  omega
theorem net_30 {a b c d x0 x1 x2 x3 : Int} (ha : Byte a) (hb : Byte b) (hc : Byte c) (hd : Byte d) (h0 : Byte x0) (h1 : Byte x1) (h2 : Byte x2) (h3 : Byte x3) :
    mask4 30 = [255, 255, 255, 252] ∧ under [bits .and .u8 a 255, bits .and .u8 b 255, bits .and .u8 c 255, bits .and .u8 d 252] [255, 255, 255, 252] [x0, x1, x2, x3] = (num4 x0 x1 x2 x3 / 4 == num4 a b c d / 4) := by
  refine ⟨by decide +kernel, ?_⟩
  rw [under_four, top_255 ha h0, top_255 hb h1, top_255 hc h2, top_252 hd h3, Bool.eq_iff_iff]
  simp only [Bool.and_eq_true, decide_eq_true_eq, beq_iff_eq]
  unfold Byte at *
  unfold num4
  omega
theorem net_31 {a b c d x0 x1 x2 x3 : Int} (ha : Byte a) (hb : Byte b) (hc : Byte c) (hd : Byte d) (h0 : Byte x0) (h1 : Byte x1) (h2 : Byte x2) (h3 : Byte x3) :
    mask4 31 = [255, 255, 255, 254] ∧ under [bits .and .u8 a 255, bits .and .u8 b 255, bits .and .u8 c 255, bits .and .u8 d 254] [255, 255, 255, 254] [x0, x1, x2, x3] = (num4 x0 x1 x2 x3 / 2 == num4 a b c d / 2) := by
  refine ⟨by decide +kernel, ?_⟩
  rw [under_four, top_255 ha h0, top_255 hb h1, top_255 hc h2, top_254 hd h3, Bool.eq_iff_iff]
  simp only [Bool.and_eq_true, decide_eq_true_eq, beq_iff_eq]
  unfold Byte at *
  unfold num4
  omega
theorem net_32 {a b c d x0 x1 x2 x3 : Int} (ha : Byte a) (hb : Byte b) (hc : Byte c) (hd : Byte d) (h0 : Byte x0) (h1 : Byte x1) (h2 : Byte x2) (h3 : Byte x3) :
    mask4 32 = [255, 255, 255, 255] ∧ under [bits .and .u8 a 255, bits .and .u8 b 255, bits .and .u8 c 255, bits .and .u8 d 255] [255, 255, 255, 255] [x0, x1, x2, x3] = (num4 x0 x1 x2 x3 / 1 == num4 a b c d / 1) := by
  refine ⟨by decide +kernel, ?_⟩
  rw [under_four, top_255 ha h0, top_255 hb h1, top_255 hc h2, top_255 hd h3, Bool.eq_iff_iff]
  simp only [Bool.and_eq_true, decide_eq_true_eq, beq_iff_eq]
  unfold Byte at *
  unfold num4
  omega
theorem shr_0 (X : Int) : shr .i64 X (wrap64 (32 - 0)) = X / 4294967296 := by
  unfold shr
  rw [show (2 : Int) ^ min (wrap64 (32 - 0)).toNat IntKind.i64.bits = 4294967296 from by decide +kernel]
theorem shr_1 (X : Int) : shr .i64 X (wrap64 (32 - 1)) = X / 2147483648 := by
  unfold shr
  rw [show (2 : Int) ^ min (wrap64 (32 - 1)).toNat IntKind.i64.bits = 2147483648 from by decide +kernel]
theorem shr_2 (X : Int) : shr .i64 X (wrap64 (32 - 2)) = X / 1073741824 := by
  unfold shr
  rw [show (2 : Int) ^ min (wrap64 (32 - 2)).toNat IntKind.i64.bits = 1073741824 from by decide +kernel]
theorem shr_3 (X : Int) : shr .i64 X (wrap64 (32 - 3)) = X / 536870912 := by
  unfold shr
  rw [show (2 : Int) ^ min (wrap64 (32 - 3)).toNat IntKind.i64.bits = 536870912 from by decide +kernel]
theorem shr_4 (X : Int) : shr .i64 X (wrap64 (32 - 4)) = X / 268435456 := by
  unfold shr
  rw [show (2 : Int) ^ min (wrap64 (32 - 4)).toNat IntKind.i64.bits = 268435456 from by decide +kernel]
theorem shr_5 (X : Int) : shr .i64 X (wrap64 (32 - 5)) = X / 134217728 := by
  unfold shr
  rw [show (2 : Int) ^ min (wrap64 (32 - 5)).toNat IntKind.i64.bits = 134217728 from by decide +kernel]
theorem shr_6 (X : Int) : shr .i64 X (wrap64 (32 - 6)) = X / 67108864 := by
  unfold shr
  rw [show (2 : Int) ^ min (wrap64 (32 - 6)).toNat IntKind.i64.bits = 67108864 from by decide +kernel]
theorem shr_7 (X : Int) : shr .i64 X (wrap64 (32 - 7)) = X / 33554432 := by
  unfold shr
  rw [show (2 : Int) ^ min (wrap64 (32 - 7)).toNat IntKind.i64.bits = 33554432 from by decide +kernel]
theorem shr_8 (X : Int) : shr .i64 X (wrap64 (32 - 8)) = X / 16777216 := by
  unfold shr
  rw [show (2 : Int) ^ min (wrap64 (32 - 8)).toNat IntKind.i64.bits = 16777216 from by decide +kernel]
theorem shr_9 (X : Int) : shr .i64 X (wrap64 (32 - 9)) = X / 8388608 := by
  unfold shr
  rw [show (2 : Int) ^ min (wrap64 (32 - 9)).toNat IntKind.i64.bits = 8388608 from by decide +kernel]
theorem shr_10 (X : Int) : shr .i64 X (wrap64 (32 - 10)) = X / 4194304 := by
  unfold shr
  rw [show (2 : Int) ^ min (wrap64 (32 - 10)).toNat IntKind.i64.bits = 4194304 from by decide +kernel]
theorem shr_11 (X : Int) : shr .i64 X (wrap64 (32 - 11)) = X / 2097152 := by
  unfold shr
  rw [show (2 : Int) ^ min (wrap64 (32 - 11)).toNat IntKind.i64.bits = 2097152 from by decide +kernel]
theorem shr_12 (X : Int) : shr .i64 X (wrap64 (32 - 12)) = X / 1048576 := by
  unfold shr
  rw [show (2 : Int) ^ min (wrap64 (32 - 12)).toNat IntKind.i64.bits = 1048576 from by decide +kernel]
theorem shr_13 (X : Int) : shr .i64 X (wrap64 (32 - 13)) = X / 524288 := by
  unfold shr
  rw [show (2 : Int) ^ min (wrap64 (32 - 13)).toNat IntKind.i64.bits = 524288 from by decide +kernel]
theorem shr_14 (X : Int) : shr .i64 X (wrap64 (32 - 14)) = X / 262144 := by
  unfold shr
  rw [show (2 : Int) ^ min (wrap64 (32 - 14)).toNat IntKind.i64.bits = 262144 from by decide +kernel]
theorem shr_15 (X : Int) : shr .i64 X (wrap64 (32 - 15)) = X / 131072 := by
  unfold shr
  rw [show (2 : Int) ^ min (wrap64 (32 - 15)).toNat IntKind.i64.bits = 131072 from by decide +kernel]
theorem shr_16 (X : Int) : shr .i64 X (wrap64 (32 - 16)) = X / 65536 := by
  unfold shr
  rw [show (2 : Int) ^ min (wrap64 (32 - 16)).toNat IntKind.i64.bits = 65536 from by decide +kernel]
theorem shr_17 (X : Int) : shr .i64 X (wrap64 (32 - 17)) = X / 32768 := by
  unfold shr
  rw [show (2 : Int) ^ min (wrap64 (32 - 17)).toNat IntKind.i64.bits = 32768 from by decide +kernel]
theorem shr_18 (X : Int) : shr .i64 X (wrap64 (32 - 18)) = X / 16384 := by
  unfold shr
  rw [show (2 : Int) ^ min (wrap64 (32 - 18)).toNat IntKind.i64.bits = 16384 from by decide +kernel]
theorem shr_19 (X : Int) : shr .i64 X (wrap64 (32 - 19)) = X / 8192 := by
  unfold shr
  rw [show (2 : Int) ^ min (wrap64 (32 - 19)).toNat IntKind.i64.bits = 8192 from by decide +kernel]
theorem shr_20 (X : Int) : shr .i64 X (wrap64 (32 - 20)) = X / 4096 := by
  unfold shr
  rw [show (2 : Int) ^ min (wrap64 (32 - 20)).toNat IntKind.i64.bits = 4096 from by decide +kernel]
theorem shr_21 (X : Int) : shr .i64 X (wrap64 (32 - 21)) = X / 2048 := by
  unfold shr
  rw [show (2 : Int) ^ min (wrap64 (32 - 21)).toNat IntKind.i64.bits = 2048 from by decide +kernel]
theorem shr_22 (X : Int) : shr .i64 X (wrap64 (32 - 22)) = X / 1024 := by
  unfold shr
  rw [show (2 : Int) ^ min (wrap64 (32 - 22)).toNat IntKind.i64.bits = 1024 from by decide +kernel]
theorem shr_23 (X : Int) : shr .i64 X (wrap64 (32 - 23)) = X / 512 := by
  unfold shr
  rw [show (2 : Int) ^ min (wrap64 (32 - 23)).toNat IntKind.i64.bits = 512 from by decide +kernel]
theorem shr_24 (X : Int) : shr .i64 X (wrap64 (32 - 24)) = X / 256 := by
  unfold shr
  rw [show (2 : Int) ^ min (wrap64 (32 - 24)).toNat IntKind.i64.bits = 256 from by decide +kernel]
theorem shr_25 (X : Int) : shr .i64 X (wrap64 (32 - 25)) = X / 128 := by
  unfold shr
  rw [show (2 : Int) ^ min (wrap64 (32 - 25)).toNat IntKind.i64.bits = 128 from by decide +kernel]
theorem shr_26 (X : Int) : shr .i64 X (wrap64 (32 - 26)) = X / 64 := by
  unfold shr
  rw [show (2 : Int) ^ min (wrap64 (32 - 26)).toNat IntKind.i64.bits = 64 from by decide +kernel]
theorem shr_27 (X : Int) : shr .i64 X (wrap64 (32 - 27)) = X / 32 := by
  unfold shr
  rw [show (2 : Int) ^ min (wrap64 (32 - 27)).toNat IntKind.i64.bits = 32 from by decide +kernel]
theorem shr_28 (X : Int) : shr .i64 X (wrap64 (32 - 28)) = X / 16 := by
  unfold shr
  rw [show (2 : Int) ^ min (wrap64 (32 - 28)).toNat IntKind.i64.bits = 16 from by decide +kernel]
theorem shr_29 (X : Int) : shr .i64 X (wrap64 (32 - 29)) = X / 8 := by
  unfold shr
  rw [show (2 : Int) ^ min (wrap64 (32 - 29)).toNat IntKind.i64.bits = 8 from by decide +kernel]
theorem shr_30 (X : Int) : shr .i64 X (wrap64 (32 - 30)) = X / 4 := by
  unfold shr
  rw [show (2 : Int) ^ min (wrap64 (32 - 30)).toNat IntKind.i64.bits = 4 from by decide +kernel]
theorem shr_31 (X : Int) : shr .i64 X (wrap64 (32 - 31)) = X / 2 := by
  unfold shr
  rw [show (2 : Int) ^ min (wrap64 (32 - 31)).toNat IntKind.i64.bits = 2 from by decide +kernel]
theorem shr_32 (X : Int) : shr .i64 X (wrap64 (32 - 32)) = X / 1 := by
  unfold shr
  rw [show (2 : Int) ^ min (wrap64 (32 - 32)).toNat IntKind.i64.bits = 1 from by decide +kernel]

theorem net_all {n : Int} (k0 : 0 ≤ n) (k1 : n ≤ 32) {a b c d x0 x1 x2 x3 : Int} (ha : Byte a) (hb : Byte b) (hc : Byte c) (hd : Byte d) (h0 : Byte x0) (h1 : Byte x1) (h2 : Byte x2) (h3 : Byte x3) :
    ∃ m0 m1 m2 m3, mask4 n = [m0, m1, m2, m3] ∧ under [bits .and .u8 a m0, bits .and .u8 b m1, bits .and .u8 c m2, bits .and .u8 d m3] [m0, m1, m2, m3] [x0, x1, x2, x3] = (shr .i64 (num4 x0 x1 x2 x3) (wrap64 (32 - n)) == shr .i64 (num4 a b c d) (wrap64 (32 - n))) := by
  rcases (by omega : n = 0 ∨ n = 1 ∨ n = 2 ∨ n = 3 ∨ n = 4 ∨ n = 5 ∨ n = 6 ∨ n = 7 ∨ n = 8 ∨ n = 9 ∨ n = 10 ∨ n = 11 ∨ n = 12 ∨ n = 13 ∨ n = 14 ∨ n = 15 ∨ n = 16 ∨ n = 17 ∨ n = 18 ∨ n = 19 ∨ n = 20 ∨ n = 21 ∨ n = 22 ∨ n = 23 ∨ n = 24 ∨ n = 25 ∨ n = 26 ∨ n = 27 ∨ n = 28 ∨ n = 29 ∨ n = 30 ∨ n = 31 ∨ n = 32) with rfl | rfl | rfl | rfl | rfl | rfl | rfl | rfl | rfl | rfl | rfl | rfl | rfl | rfl | rfl | rfl | rfl | rfl | rfl | rfl | rfl | rfl | rfl | rfl | rfl | rfl | rfl | rfl | rfl | rfl | rfl | rfl | rfl
  · exact ⟨_, _, _, _, (net_0 ha hb hc hd h0 h1 h2 h3).1, by rw [shr_0, shr_0]; exact (net_0 ha hb hc hd h0 h1 h2 h3).2⟩
  · exact ⟨_, _, _, _, (net_1 ha hb hc hd h0 h1 h2 h3).1, by rw [shr_1, shr_1]; exact (net_1 ha hb hc hd h0 h1 h2 h3).2⟩
  · exact ⟨_, _, _, _, (net_2 ha hb hc hd h0 h1 h2 h3).1, by rw [shr_2, shr_2]; exact (net_2 ha hb hc hd h0 h1 h2 h3).2⟩
  · exact ⟨_, _, _, _, (net_3 ha hb hc hd h0 h1 h2 h3).1, by rw [shr_3, shr_3]; exact (net_3 ha hb hc hd h0 h1 h2 h3).2⟩
  · exact ⟨_, _, _, _, (net_4 ha hb hc hd h0 h1 h2 h3).1, by rw [shr_4, shr_4]; exact (net_4 ha hb hc hd h0 h1 h2 h3).2⟩
  · exact ⟨_, _, _, _, (net_5 ha hb hc hd h0 h1 h2 h3).1, by rw [shr_5, shr_5]; exact (net_5 ha hb hc hd h0 h1 h2 h3).2⟩
  · exact ⟨_, _, _, _, (net_6 ha hb hc hd h0 h1 h2 h3).1, by rw [shr_6, shr_6]; exact (net_6 ha hb hc hd h0 h1 h2 h3).2⟩
  · exact ⟨_, _, _, _, (net_7 ha hb hc hd h0 h1 h2 h3).1, by rw [shr_7, shr_7]; exact (net_7 ha hb hc hd h0 h1 h2 h3).2⟩
  · exact ⟨_, _, _, _, (net_8 ha hb hc hd h0 h1 h2 h3).1, by rw [shr_8, shr_8]; exact (net_8 ha hb hc hd h0 h1 h2 h3).2⟩
  · exact ⟨_, _, _, _, (net_9 ha hb hc hd h0 h1 h2 h3).1, by rw [shr_9, shr_9]; exact (net_9 ha hb hc hd h0 h1 h2 h3).2⟩
  · exact ⟨_, _, _, _, (net_10 ha hb hc hd h0 h1 h2 h3).1, by rw [shr_10, shr_10]; exact (net_10 ha hb hc hd h0 h1 h2 h3).2⟩
  · exact ⟨_, _, _, _, (net_11 ha hb hc hd h0 h1 h2 h3).1, by rw [shr_11, shr_11]; exact (net_11 ha hb hc hd h0 h1 h2 h3).2⟩
  · exact ⟨_, _, _, _, (net_12 ha hb hc hd h0 h1 h2 h3).1, by rw [shr_12, shr_12]; exact (net_12 ha hb hc hd h0 h1 h2 h3).2⟩
  · exact ⟨_, _, _, _, (net_13 ha hb hc hd h0 h1 h2 h3).1, by rw [shr_13, shr_13]; exact (net_13 ha hb hc hd h0 h1 h2 h3).2⟩
  · exact ⟨_, _, _, _, (net_14 ha hb hc hd h0 h1 h2 h3).1, by rw [shr_14, shr_14]; exact (net_14 ha hb hc hd h0 h1 h2 h3).2⟩
  · exact ⟨_, _, _, _, (net_15 ha hb hc hd h0 h1 h2 h3).1, by rw [shr_15, shr_15]; exact (net_15 ha hb hc hd h0 h1 h2 h3).2⟩
  · exact ⟨_, _, _, _, (net_16 ha hb hc hd h0 h1 h2 h3).1, by rw [shr_16, shr_16]; exact (net_16 ha hb hc hd h0 h1 h2 h3).2⟩
  · exact ⟨_, _, _, _, (net_17 ha hb hc hd h0 h1 h2 h3).1, by rw [shr_17, shr_17]; exact (net_17 ha hb hc hd h0 h1 h2 h3).2⟩
  · exact ⟨_, _, _, _, (net_18 ha hb hc hd h0 h1 h2 h3).1, by rw [shr_18, shr_18]; exact (net_18 ha hb hc hd h0 h1 h2 h3).2⟩
  · exact ⟨_, _, _, _, (net_19 ha hb hc hd h0 h1 h2 h3).1, by rw [shr_19, shr_19]; exact (net_19 ha hb hc hd h0 h1 h2 h3).2⟩
  · exact ⟨_, _, _, _, (net_20 ha hb hc hd h0 h1 h2 h3).1, by rw [shr_20, shr_20]; exact (net_20 ha hb hc hd h0 h1 h2 h3).2⟩
  · exact ⟨_, _, _, _, (net_21 ha hb hc hd h0 h1 h2 h3).1, by rw [shr_21, shr_21]; exact (net_21 ha hb hc hd h0 h1 h2 h3).2⟩
  · exact ⟨_, _, _, _, (net_22 ha hb hc hd h0 h1 h2 h3).1, by rw [shr_22, shr_22]; exact (net_22 ha hb hc hd h0 h1 h2 h3).2⟩
  · exact ⟨_, _, _, _, (net_23 ha hb hc hd h0 h1 h2 h3).1, by rw [shr_23, shr_23]; exact (net_23 ha hb hc hd h0 h1 h2 h3).2⟩
  · exact ⟨_, _, _, _, (net_24 ha hb hc hd h0 h1 h2 h3).1, by rw [shr_24, shr_24]; exact (net_24 ha hb hc hd h0 h1 h2 h3).2⟩
  · exact ⟨_, _, _, _, (net_25 ha hb hc hd h0 h1 h2 h3).1, by rw [shr_25, shr_25]; exact (net_25 ha hb hc hd h0 h1 h2 h3).2⟩
  · exact ⟨_, _, _, _, (net_26 ha hb hc hd h0 h1 h2 h3).1, by rw [shr_26, shr_26]; exact (net_26 ha hb hc hd h0 h1 h2 h3).2⟩
  · exact ⟨_, _, _, _, (net_27 ha hb hc hd h0 h1 h2 h3).1, by rw [shr_27, shr_27]; exact (net_27 ha hb hc hd h0 h1 h2 h3).2⟩
  · exact ⟨_, _, _, _, (net_28 ha hb hc hd h0 h1 h2 h3).1, by rw [shr_28, shr_28]; exact (net_28 ha hb hc hd h0 h1 h2 h3).2⟩
  · exact ⟨_, _, _, _, (net_29 ha hb hc hd h0 h1 h2 h3).1, by rw [shr_29, shr_29]; exact (net_29 ha hb hc hd h0 h1 h2 h3).2⟩
  · exact ⟨_, _, _, _, (net_30 ha hb hc hd h0 h1 h2 h3).1, by rw [shr_30, shr_30]; exact (net_30 ha hb hc hd h0 h1 h2 h3).2⟩
  · exact ⟨_, _, _, _, (net_31 ha hb hc hd h0 h1 h2 h3).1, by rw [shr_31, shr_31]; exact (net_31 ha hb hc hd h0 h1 h2 h3).2⟩
  · exact ⟨_, _, _, _, (net_32 ha hb hc hd h0 h1 h2 h3).1, by rw [shr_32, shr_32]; exact (net_32 ha hb hc hd h0 h1 h2 h3).2⟩

theorem or_low (x n : Int) (hx : 0 ≤ x) (hm : x % 256 = 0) (hx1 : x < 4294967296) (hn : Byte n) : bits .or .i64 x n = x + n := by
  unfold Byte at hn
  exact bits_join .i64 63 (by decide) (fun n h0 h1 => by have h1 : n < 9223372036854775808 := h1; rw [IntKind.wrap_i64]; omega) 8 x n hx (by omega) (by omega) (by omega) (by omega) (by omega)

theorem number_four (k : Nat) {a b c d : Int} (ha : Byte a) (hb : Byte b) (hc : Byte c) (hd : Byte d) : P.spec_number.f (k + 5) [a, b, c, d] = some (num4 a b c d) := by
  unfold P.spec_number.f
  have e0 : wrap64 ((0 : Int) * 256) = 0 := by unfold wrap64; omega
  have e1 : wrap64 ((0 : Int) + 1) = 1 := by unfold wrap64; omega
  have e2 : wrap64 ((1 : Int) + 1) = 2 := by unfold wrap64; omega
  have e3 : wrap64 ((2 : Int) + 1) = 3 := by unfold wrap64; omega
  have e4 : wrap64 ((3 : Int) + 1) = 4 := by unfold wrap64; omega
  have hl : (([a, b, c, d] : List Int).length : Int) = 4 := rfl
  have f1 : wrap64 ((0 + a) * 256) = a * 256 := by unfold wrap64; unfold Byte at *; omega
  have f2 : wrap64 ((a * 256 + b) * 256) = (a * 256 + b) * 256 := by unfold wrap64; unfold Byte at *; omega
  have f3 : wrap64 (((a * 256 + b) * 256 + c) * 256) = ((a * 256 + b) * 256 + c) * 256 := by unfold wrap64; unfold Byte at *; omega
  have r0 : rd [a, b, c, d] 0 = a := rfl
  have r1 : rd [a, b, c, d] 1 = b := rfl
  have r2 : rd [a, b, c, d] 2 = c := rfl
  have r3 : rd [a, b, c, d] 3 = d := rfl
  simp only [P.spec_number.l0, hl, e0, e1, e2, e3, e4, r0, r1, r2, r3]
  rw [or_low 0 a (by omega) (by omega) (by omega) ha, f1, or_low (a * 256) b (by unfold Byte at *; omega) (by omega) (by unfold Byte at *; omega) hb, f2, or_low ((a * 256 + b) * 256) c (by unfold Byte at *; omega) (by omega) (by unfold Byte at *; omega) hc, f3, or_low (((a * 256 + b) * 256 + c) * 256) d (by unfold Byte at *; omega) (by omega) (by unfold Byte at *; omega) hd]
  simp only [show ((0 : Int) < 4) = True by simp, show ((1 : Int) < 4) = True by simp, show ((2 : Int) < 4) = True by simp, show ((3 : Int) < 4) = True by simp, show ((4 : Int) < 4) = False by simp, show ((0 : Int) ≤ 0) = True by simp, show ((0 : Int) ≤ 1) = True by simp, show ((0 : Int) ≤ 2) = True by simp, show ((0 : Int) ≤ 3) = True by simp, if_true, if_false]
  congr 1
  unfold num4
  omega

/-- Four bytes as bytes. -/
theorem str_four {a b c d x0 x1 x2 x3 : Int} (ha : Byte a) (hb : Byte b) (hc : Byte c) (hd : Byte d) (h0 : Byte x0) (h1 : Byte x1) (h2 : Byte x2) (h3 : Byte x3) :
    ((strOfNums [a, b, c, d]).toList == (strOfNums [x0, x1, x2, x3]).toList) = (num4 x0 x1 x2 x3 == num4 a b c d) := by
  have u : ∀ {x y : Int}, Byte x → Byte y → (UInt8.ofNat x.toNat = UInt8.ofNat y.toNat ↔ x = y) := fun {x y} hx hy => by
    unfold Byte at hx hy
    rw [← UInt8.toNat_inj]
    simp
    omega
  rw [Bool.eq_iff_iff, beq_iff_eq, beq_iff_eq, toList_BL, toList_BL]
  have e : ∀ p q r s : Int, BL (strOfNums [p, q, r, s]) = [UInt8.ofNat p.toNat, UInt8.ofNat q.toNat, UInt8.ofNat r.toNat, UInt8.ofNat s.toNat] := fun p q r s => rfl
  rw [e, e]
  simp only [List.cons.injEq, and_true, u ha h0, u hb h1, u hc h2, u hd h3]
  unfold Byte at *
  unfold num4
  omega

theorem matchesA_eq (r : P.S42) (h : Rk r) {x0 x1 x2 x3 : Int} (h0 : Byte x0) (h1 : Byte x1) (h2 : Byte x2) (h3 : Byte x3) (hh p : ByteArray) (k : Nat) :
    P.spec_MatchesAddress.f (k + 5) r.f0 r.f1 r.f2 r.f3 r.f4 [x0, x1, x2, x3] p = some (sayA hh p (x0, x1, x2, x3) (eff r)) := by
  have hp : (if r.f4.toList = ([] : List UInt8) then some true else some (r.f4.toList == p.toList)) = some (portOk r.f4 p) := by
    unfold portOk
    rw [empty_iff]
    split
    · rename_i h; simp [h]
    · rename_i h; simp [h]
  unfold P.spec_MatchesAddress.f eff
  by_cases k0 : r.f0 = 0
  · rw [if_pos k0, k0]; rfl
  rw [if_neg k0]
  by_cases k1 : r.f0 = 1
  · rw [if_pos k1, k1]; rfl
  rw [if_neg k1]
  by_cases k2 : r.f0 = 2
  · obtain ⟨a, b, c, d, hl, ha, hb, hc, hd⟩ := h.addr (.inl k2)
    rw [if_pos k2, if_pos k2, hl, number_four k h0 h1 h2 h3, number_four k ha hb hc hd, hp]
    simp only [Option.bind_some, sayA, isStar, ipF, mok, Bool.false_or]
    rw [str_four ha hb hc hd h0 h1 h2 h3]
    by_cases e : num4 x0 x1 x2 x3 = num4 a b c d
    · rw [if_pos e, e]; simp
    · rw [if_neg e, beq_eq_false_iff_ne.2 e]; rfl
  rw [if_neg k2, if_neg k2]
  by_cases k3 : r.f0 = 3
  · obtain ⟨a, b, c, d, hl, ha, hb, hc, hd⟩ := h.addr (.inr k3)
    obtain ⟨n0, n1⟩ := h.bits k3
    obtain ⟨m0, m1, m2, m3, hm, hu⟩ := net_all n0 n1 ha hb hc hd h0 h1 h2 h3
    rw [if_pos k3, if_pos k3, hl, hm, number_four k h0 h1 h2 h3, number_four k ha hb hc hd]
    simp only [Option.bind_some, sayA, isStar, ipF, mok, Bool.false_or]
    rw [hu, if_pos (by unfold wrap64; omega)]
  rw [if_neg k3, if_neg k3]
  have k4 : r.f0 = 4 := by rcases h.kind with k | k | k | k | k <;> first | exact absurd k (by assumption) | exact k
  rw [k4]
  rfl

theorem eff_dom (r : P.S42) (f : Mt → Bool) (hf : ∀ h p m, f (.dom h p m) = false) : domF f (eff r) = false := by
  unfold eff
  split
  · exact hf _ _ _
  split
  · exact hf _ _ _
  split
  · split <;> rfl
  split
  · split <;> rfl
  · rfl

theorem anyA_l (rs : List P.S42) (h : Rks rs) {x0 x1 x2 x3 : Int} (h0 : Byte x0) (h1 : Byte x1) (h2 : Byte x2) (h3 : Byte x3) (hh p : ByteArray) : ∀ (d k : Nat) (i : Nat), rs.length = i + d → d + 5 < k →
    P.spec_AnyAddress.l0 k [x0, x1, x2, x3] p rs (rs.length : Int) (i : Int) = some ((rs.drop i).any fun r => sayA hh p (x0, x1, x2, x3) (eff r)) := by
  intro d
  induction d with
  | zero =>
    intro k i hi hk
    obtain ⟨k, rfl⟩ : ∃ m, k = m + 1 := ⟨k - 1, by omega⟩
    simp only [P.spec_AnyAddress.l0]
    rw [if_neg (by omega), List.drop_of_length_le (by omega)]
    rfl
  | succ d ih =>
    intro k i hi hk
    obtain ⟨k, rfl⟩ : ∃ m, k = m + 1 := ⟨k - 1, by omega⟩
    have hlt : i < rs.length := by omega
    have hr := h.1
    have e : P.rd_T42 rs (i : Int) = rs[i]'hlt := by simp [P.rd_T42, hlt]
    have hm : P.spec_MatchesAddress.f k (rs[i]'hlt).f0 (rs[i]'hlt).f1 (rs[i]'hlt).f2 (rs[i]'hlt).f3 (rs[i]'hlt).f4 [x0, x1, x2, x3] p = some (sayA hh p (x0, x1, x2, x3) (eff (rs[i]'hlt))) := by
      obtain ⟨q, hq⟩ : ∃ m, k = m + 5 := ⟨k - 5, by omega⟩
      rw [hq]
      exact matchesA_eq _ (h.2 _ (List.getElem_mem hlt)) h0 h1 h2 h3 hh p q
    have ew : wrap64 ((i : Int) + 1) = ((i + 1 : Nat) : Int) := by unfold wrap64; omega
    simp only [P.spec_AnyAddress.l0]
    rw [if_pos (by omega), if_pos (by omega), if_pos (by omega), e, hm, ew]
    simp only [Option.bind_some]
    rw [List.drop_eq_getElem_cons hlt, List.any_cons]
    cases sayA hh p (x0, x1, x2, x3) (eff (rs[i]'hlt)) with
    | true => rfl
    | false =>
      rw [if_neg (by decide), ih k (i + 1) (by omega) (by omega)]
      rfl

theorem anyA_eq (rs : List P.S42) (h : Rks rs) {x0 x1 x2 x3 : Int} (h0 : Byte x0) (h1 : Byte x1) (h2 : Byte x2) (h3 : Byte x3) (hh p : ByteArray) :
    ∃ k, P.spec_AnyAddress.f k rs [x0, x1, x2, x3] p = some ((lists (effsOf rs) [] []).1.any (mok hh p (some (x0, x1, x2, x3))) || (lists (effsOf rs) [] []).2.any (mok hh p (some (x0, x1, x2, x3)))) := by
  refine ⟨rs.length + 6, ?_⟩
  have := anyA_l rs h h0 h1 h2 h3 hh p rs.length (rs.length + 6) 0 (by omega) (by omega)
  unfold P.spec_AnyAddress.f
  rw [show (0 : Int) = ((0 : Nat) : Int) from rfl, this, List.drop_zero, any_addrs]
  · unfold effsOf
    split
    · rename_i e; subst e; rfl
    · rw [List.any_map]; rfl
  · intro e he
    unfold effsOf at he
    split at he
    · simp at he; subst he; rfl
    · obtain ⟨r, _, rfl⟩ := List.mem_map.1 he
      exact eff_dom r _ fun _ _ _ => rfl
end Go.Proofs.YtnchgmjeoajmiaaGreatDoor

/-! Saysa -/
namespace Go.Proofs.YtnchgmjeoajmiaaGreatDoor
open Go.RowKit Go.Proofs.YtnchgmjeoajmiaaGreatDoorW.PrintWords
set_option linter.unusedSimpArgs false
set_option linter.unusedVariables false

theorem dots_addr {a b c d : Int} (ha : Byte a) (hb : Byte b) (hc : Byte c) (hd : Byte d) {p : List UInt8} (hp : Pt p) :
    FourAddr (MK (dots a b c d ++ [58] ++ p)) (MK (dots a b c d)) (MK p) (MK (dots a b c d)) a b c d := by
  have hh := dots_host ha hb hc hd
  have hl := dots_len ha hb hc hd
  have hit := item_of (a := []) (q := dots a b c d) (b := []) (fun x hx => by cases hx) (fun x hx => by cases hx) (fun b hb => by have := hh.all b hb; exact ⟨this.1, this.2.1⟩) (by simp; omega)
  rw [List.nil_append, List.append_nil, lower_map fun b hb => by have := hh.all b hb; omega] at hit
  refine ⟨by rw [MK_size]; simp; omega, ⟨_, hh.split hp⟩, ?_, dots_four ha hb hc hd, hit, by rw [MK_size]; omega⟩
  rw [toList_MK]
  intro e
  have := dots_bytes ha hb hc hd 108 (by rw [e]; simp)
  revert this
  decide

/-- Whether a request to an address and a port goes through the proxy, by rules. -/
def saysA (rs : List P.S42) (a b c d : Int) (port : ByteArray) : Bool := !(a == 127) && !((lists (effsOf rs) [] []).1.any (mok (addrText a b c d) port (some (a, b, c, d))) || (lists (effsOf rs) [] []).2.any (mok (addrText a b c d) port (some (a, b, c, d))))

theorem uses_addr (p4 p6 : Addr) (w : World) (no : ByteArray) (rs : List P.S42) (a b c d : Int) (port : ByteArray) (G : GW p4 p6 w) (hl : Listed no (effsOf rs)) (ha : Byte a) (hb : Byte b) (hc : Byte c) (hd : Byte d) (hp : Pt (BL port)) :
    Calls Tryz.prog 24 #[.string no, .string ((addrText a b c d ++ (⟨#[58]⟩ : ByteArray)) ++ port)] w fun e w' => e = .returned (.bool (saysA rs a b c d port)) ∧ Below w.heap.size w w' := by
  have := uses_four p4 p6 no (effsOf rs) w _ _ _ _ a b c d G hl (dots_addr ha hb hc hd hp)
  have e : MK (dots a b c d ++ [58] ++ BL port) = (addrText a b c d ++ (⟨#[58]⟩ : ByteArray)) ++ port := by
    rw [addr_text, addrText_eq ha hb hc hd]
  rw [e, MK_BL] at this
  refine this.mono fun x w' ⟨h1, h2⟩ => ⟨?_, h2⟩
  rw [h1]
  refine ret_bool ?_
  unfold saysA
  rw [addrText_eq ha hb hc hd]
  generalize (lists (effsOf rs) [] []).1.any (mok (MK (dots a b c d)) port (some (a, b, c, d))) = x
  generalize (lists (effsOf rs) [] []).2.any (mok (MK (dots a b c d)) port (some (a, b, c, d))) = y
  generalize (a == 127) = z
  cases x <;> cases y <;> cases z <;> rfl
end Go.Proofs.YtnchgmjeoajmiaaGreatDoor

/-! Push -/
namespace Go.Proofs.YtnchgmjeoajmiaaGreatDoor
open Go.RowKit Go.Proofs.YtnchgmjeoajmiaaGreatDoorW.PrintWords
set_option linter.unusedSimpArgs false
set_option linter.unusedVariables false

section
variable {P : Program} {ops : Array Oper} {rest : List Oper} {o : Oper} {a : Act} {Q : Exit → Act → World → Prop} {α : Type} {R : α → List Value → Prop}
/-- What the builtin does, at two slice types of one element. -/
theorem run_rows {W : World} (base : Nat) (ty t u e : TypeId) (z : Value) (size bytes : Nat)
    (ht : P.underlying t = some (.slice e)) (hu : P.underlying u = some (.slice e)) (hinfo : (P.info? e).map (fun i => (i.zero, i.size, i.bytes)) = some (some z, size, bytes)) (hz : z.cells.size = size) (hs0 : 0 < size) (hb0 : 0 < bytes)
    (v : Value) (xs ys : List α) (A : Option Addr) (m c : Nat)
    (HO : OwnRow R e size W base v xs) (HR : ReadsRow R size W A m ys) (hone : ∀ p cs, R p cs → ∀ u ∈ cs, u.oneCell' = true)
    (hbase : base ≤ W.heap.size) (hl : (xs.length + m) * bytes ≤ 140737488355328) :
    ∃ v1 w1, (Builtin.append_ #[t, u] ty #[v, .slice A m c]).run P W = .ok v1 w1 ∧ OwnRow R e size w1 base v1 (xs ++ ys) ∧ W.grownBy w1 v.ownBlock ∧ (v1.ownBlock = v.ownBlock ∨ ∃ b, v1.ownBlock = some b ∧ W.heap.size ≤ b) := by
  have hsame : (Builtin.append_ #[t, u] ty #[v, .slice A m c]).run P W = (Builtin.append_ #[t, t] ty #[v, .slice A m c]).run P W := by
    obtain ⟨_, h, _⟩ := HO
    rcases h.2 with ⟨rfl, _⟩ | ⟨g, cap, cur, rfl, _⟩
    · simp only [Builtin.append_, Sem.run_bind, run_underlying ht, run_underlying hu, Result.andThen_ok, List.getElem?_toArray, List.getElem?_cons_zero, List.getElem?_cons_succ]
    · simp only [Builtin.append_, Sem.run_bind, run_underlying ht, run_underlying hu, Result.andThen_ok, List.getElem?_toArray, List.getElem?_cons_zero, List.getElem?_cons_succ]
  rw [hsame]
  obtain ⟨i0, hi, hzz⟩ := Option.map_eq_some_iff.1 hinfo
  simp only [Prod.mk.injEq] at hzz
  obtain ⟨hz0, hz1, hz2⟩ := hzz
  have hm : ys.length = m := HR.1
  have hlen : xs.length + m ≤ 140737488355328 := Nat.le_trans (Nat.le_mul_of_pos_right _ hb0) hl
  obtain ⟨inner, hown, hr⟩ := HO
  rcases A with _ | ad
  · have h0 : m = 0 := by
      rcases Nat.eq_zero_or_pos m with h0 | h0
      · exact h0
      · obtain ⟨ad, h, _⟩ := HR.2.2 h0
        cases h
    subst h0
    obtain rfl : ys = [] := List.eq_nil_of_length_eq_zero hm
    refine ⟨v, W, ?_, by rw [List.append_nil]; exact ⟨inner, hown, hr⟩, World.grownBy.refl W _, .inl rfl⟩
    rcases hown.2 with ⟨rfl, hn⟩ | ⟨g, cap, cur, rfl, _, _, hnc, _⟩
    · simp [Builtin.append_, run_underlying ht, sizeOf, typeInfo, hi, Builtin.lenOf, Builtin.firstCells]
    · simp [Builtin.append_, run_underlying ht, sizeOf, typeInfo, hi, Builtin.lenOf, Builtin.firstCells, hnc, storeCells]
  · obtain ⟨news, hnM, hnc⟩ := ReadsRow.inner_ HR
    have hone : ∀ u ∈ news, u.oneCell' = true := by
      intro u hu
      obtain ⟨q, hq, rfl⟩ := List.mem_iff_getElem.1 hu
      have hql : q / size < ys.length := by
        rw [Nat.div_lt_iff_lt_mul hs0]
        rw [← hnM.1]
        exact hq
      have hc := hnM.2 (q / size) _ (List.getElem?_eq_getElem hql)
      refine hone _ _ hc _ ?_
      rw [List.mem_iff_getElem?]
      refine ⟨q % size, ?_⟩
      rw [List.getElem?_take, if_pos (Nat.mod_lt _ hs0), List.getElem?_drop, Nat.mul_comm, Nat.div_add_mod, List.getElem?_eq_getElem hq]
    obtain ⟨v1, w1, hrun, h2, hg, _, hat⟩ := run_append_own_at (P := P) W base t ty e i0 z size bytes ht hi hz0 hz1 hz2 hz hs0 v xs.length inner hown ad m c news (by rw [hnM.1, hm]) hnc hone (by simp only [maxLen]; omega) hl hbase
    refine ⟨v1, w1, hrun, ⟨inner ++ news, by rw [List.length_append, hm]; exact h2, Kd.reps_append hr hnM⟩, hg, ?_⟩
    rcases hat with hat | hat
    · exact .inl hat
    · exact .inr ⟨_, hat, Nat.le_refl _⟩

theorem own_rows {w0 W : World} (base : Nat) (hgd : o.guard = none) (s x : Operand) (t u e : TypeId) (z : Value) (size bytes : Nat)
    (ho : o.op = .call { callee := .builtin .append, args := #[s, x], argTypes := #[t, u] })
    (ht : P.underlying t = some (.slice e)) (hu : P.underlying u = some (.slice e)) (hinfo : (P.info? e).map (fun i => (i.zero, i.size, i.bytes)) = some (some z, size, bytes)) (hz : z.cells.size = size) (hs0 : 0 < size) (hb0 : 0 < bytes)
    (v : Value) (xs ys : List α) (A : Option Addr) (m c : Nat) (hs : a.eval s = v) (hx : a.eval x = .slice A m c)
    (HO : OwnRow R e size W base v xs) (HR : ReadsRow R size W A m ys) (hone : ∀ p cs, R p cs → ∀ u ∈ cs, u.oneCell' = true)
    (HB : Below base w0 W) (hbase : base ≤ W.heap.size) (hl : (xs.length + m) * bytes ≤ 140737488355328)
    (h : ∀ v1 w1, OwnRow R e size w1 base v1 (xs ++ ys) → Below base w0 w1 → W.grownBy w1 v.ownBlock → (v1.ownBlock = v.ownBlock ∨ ∃ b, v1.ownBlock = some b ∧ W.heap.size ≤ b) → wpList P ops Q rest (a.put o.dst v1) w1) :
    wpList P ops Q (o :: rest) a W := by
  obtain ⟨v1, w1, hr1, h1, hg, hat⟩ := run_rows (P := P) (W := W) base o.type t u e z size bytes ht hu hinfo hz hs0 hb0 v xs ys A m c HO HR hone hbase hl
  obtain ⟨inner, hown, hr⟩ := HO
  refine wpList_plain hgd fun K hK => ?_
  unfold Oper.wp execOp
  simp only [ho, resolve, invoke, builtin, Sem.run_bind, Sem.run_pure, Result.andThen_ok, List.map_toArray, List.map_cons, List.map_nil, hs, hx, hr1]
  exact hK _ _ (h v1 w1 h1 (HB.grown hg hbase (own_base hown)) hg hat)
end
end Go.Proofs.YtnchgmjeoajmiaaGreatDoor

/-! Zzrules -/
namespace Go.Proofs.YtnchgmjeoajmiaaGreatDoor
open Go.RowKit Go.Proofs.YtnchgmjeoajmiaaGreatDoorW.PrintWords
set_option linter.unusedSimpArgs false
set_option linter.unusedVariables false

theorem info4b : (Tryz.prog.info? 4).map (fun i => (i.zero, i.size, i.bytes)) = some (some (.bool false), 1, 1) := by kernel_rfl
/-- A row of bools of the call's own. -/
abbrev OwnB (w W : World) (v : Value) (bs : List Bool) : Prop := OwnRow (fun (b : Bool) cs => cs = [.bool b]) 4 1 w W.heap.size v bs

set_option maxRecDepth 100000 in
set_option maxHeartbeats 1000000 in
theorem zzRules_calls (p4 p6 : Addr) (no : ByteArray) (effs : List Eff) (w : World) (host port : ByteArray) (x : Option (Int × Int × Int × Int)) (ipv : Value) (ips doms : List Mt) (hei : (lists effs [] []).1 = ips) (hed : (lists effs [] []).2 = doms) (G : GW p4 p6 w) (hl : Listed no effs) (hlow : host.size ≤ 9223372036854775807) (hx : IpV w x ipv) :
    Calls Tryz.prog 42 #[.string no, .string host, .string port, ipv] w fun e w' => ∃ v1 v2, e = .returned (.tuple #[v1, v2]) ∧ OwnB w' w v1 (ips.map (mok host port x)) ∧ OwnB w' w v2 (doms.map (mok host port x)) ∧ Below w.heap.size w w' := by
  have hgood := hl.good
  have hlen := hl.len
  have HL := Aside0.mk hl
  have HX0 := Aside0.mk hx
  clear hx hl
  go_enter Tryz.func42, Tryz.ntmps42
  go_wp2_with fail
  refine (init_listed p4 p6 no effs w G HL.out).mono ?_
  rintro e W ⟨rfl, hc, hb⟩
  rw [hei] at hgood hlen hc
  rw [hed] at hgood hlen hc
  clear hei hed
  obtain ⟨vi, vd, hcb, hvi, hvd, _⟩ := hc
  obtain ⟨A, cap, hvl⟩ := hvd.len
  obtain ⟨A', capI, hvlI⟩ := hvi.len
  subst hvl
  subst hvlI
  have q := blk_lt hcb
  have HC := Aside0.mk hcb
  have HD := Aside0.mk hvd
  have HI := Aside0.mk hvi
  have HGI := Aside0.mk hgood.1
  have HG := Aside0.mk hgood.2
  have HB := Aside0.mk hb
  have lI := hlen.1
  have lD := hlen.2
  have HX := Aside0.mk (show IpV W x ipv from by
    have hx := HX0.out
    match x, hx with
    | none, hx => exact hx
    | some (a, b, c, d), ⟨g, cap, e, h4, e0, e1, e2, e3⟩ => exact ⟨g, cap, e, h4, cell_on hb e0, cell_on hb e1, cell_on hb e2, cell_on hb e3⟩)
  have d6 := blk_cell hcb 6
  simp only [List.getElem?_toArray, List.getElem?_cons_zero, List.getElem?_cons_succ] at d6
  clear hvi hvd hgood hlen hcb hb HX0
  go_wp2_with fail
  go_loopg [8, 26] ips.length (fun kq vo v w' => ∃ i : Nat, v = .int .i64 i ∧ Aside0 (i ≤ ips.length ∧ kq + i = ips.length ∧ OwnB w' W vo ((ips.map (mok host port x)).take i) ∧ Below W.heap.size W w'))
  case atStart => exact ⟨0, rfl, Aside0.mk ⟨Nat.zero_le _, by omega, OwnRow.none_ _ _ _ _ _, Below.refl _ _⟩⟩
  case round =>
    obtain ⟨i, rfl, HA⟩ := hrel
    have hle := HA.out.1
    have hk := HA.out.2.1
    rcases Nat.lt_or_ge i ips.length with hi | hge
    · have HM := Aside0.mk (show ips[i]? = some (ips[i]'hi) from List.getElem?_eq_getElem hi)
      have hgood := HGI.out _ (List.getElem_mem hi)
      obtain ⟨g, cap', u, hv, hcell, hmt⟩ := HI.out.cell HA.out.2.2.2 HM.out
      injection hv with hA _ hcap
      subst hA
      subst hcap
      have htk : (ips.map (mok host port x)).take (i + 1) = (ips.map (mok host port x)).take i ++ [mok host port x (ips[i]'hi)] := by rw [List.take_succ_eq_append_getElem (by rw [List.length_map]; exact hi), List.getElem_map]
      have HTK := Aside0.mk htk
      clear htk
      generalize ips[i]'hi = m at HM hmt hgood HTK
      have hby := HA.out.2.2.2
      have HXn := HX.out
      cases m with
      | all =>
        obtain ⟨rfl, hcall⟩ := say_all (w := wr) hmt host port ipv x
        have HCALL := Aside0.mk hcall
        clear hcall hmt hgood hby HXn
        go_wp2_with fail
        refine HCALL.out.mono ?_
        rintro e wc ⟨rfl, bc⟩
        have HBC := Aside0.mk bc
        clear HCALL bc
        generalize mok host port x (.all) = r at HTK ⊢
        go_wp2_with (at_builtin; refine OwnRow.append (R := fun (b : Bool) cs => cs = [.bool b]) (w0 := W) W.heap.size rfl (.tmp 30) (.tmp 36) 47 4 (.bool false) 1 1 rfl Tryz.underlying47 info4b rfl (by decide) (by decide) _ ((ips.map (mok host port x)).take i) r [.bool r] rfl rfl rfl rfl (by simp [Value.oneCell']) (OwnRow.below HA.out.2.2.1 HBC.out) (bel_then HA.out.2.2.2 HBC.out) (Nat.le_trans HA.out.2.2.2.size HBC.out.size) (by rw [List.length_take, List.length_map]; omega) ?_)
        intro vn wn hn1 hn2 hn3 hn4
        have HN1 := Aside0.mk hn1
        have HN2 := Aside0.mk hn2
        clear hn1 hn2 hn3 hn4
        go_wp2_with fail
        go_roundg (gk - 1)
        case measure => omega
        case rel => exact ⟨i + 1, by simp, Aside0.mk ⟨by omega, by omega, by rw [HTK.out]; exact HN1.out, HN2.out⟩⟩
      | net ml mm =>
        obtain ⟨q, rfl, hcall⟩ := say_net (w := wr) hmt hgood hby HXn host port
        have HCALL := Aside0.mk hcall
        clear hcall hmt hgood hby HXn
        go_wp2_with fail
        refine HCALL.out.mono ?_
        rintro e wc ⟨rfl, bc⟩
        have HBC := Aside0.mk bc
        clear HCALL bc
        generalize mok host port x (.net ml mm) = r at HTK ⊢
        go_wp2_with (at_builtin; refine OwnRow.append (R := fun (b : Bool) cs => cs = [.bool b]) (w0 := W) W.heap.size rfl (.tmp 30) (.tmp 36) 47 4 (.bool false) 1 1 rfl Tryz.underlying47 info4b rfl (by decide) (by decide) _ ((ips.map (mok host port x)).take i) r [.bool r] rfl rfl rfl rfl (by simp [Value.oneCell']) (OwnRow.below HA.out.2.2.1 HBC.out) (bel_then HA.out.2.2.2 HBC.out) (Nat.le_trans HA.out.2.2.2.size HBC.out.size) (by rw [List.length_take, List.length_map]; omega) ?_)
        intro vn wn hn1 hn2 hn3 hn4
        have HN1 := Aside0.mk hn1
        have HN2 := Aside0.mk hn2
        clear hn1 hn2 hn3 hn4
        go_wp2_with fail
        go_roundg (gk - 1)
        case measure => omega
        case rel => exact ⟨i + 1, by simp, Aside0.mk ⟨by omega, by omega, by rw [HTK.out]; exact HN1.out, HN2.out⟩⟩
      | ip e0 e1 e2 e3 mp =>
        obtain ⟨q, rfl, hcall⟩ := say_ip (w := wr) hmt hby HXn host port
        have HCALL := Aside0.mk hcall
        clear hcall hmt hgood hby HXn
        go_wp2_with fail
        refine HCALL.out.mono ?_
        rintro e wc ⟨rfl, bc⟩
        have HBC := Aside0.mk bc
        clear HCALL bc
        generalize mok host port x (.ip e0 e1 e2 e3 mp) = r at HTK ⊢
        go_wp2_with (at_builtin; refine OwnRow.append (R := fun (b : Bool) cs => cs = [.bool b]) (w0 := W) W.heap.size rfl (.tmp 30) (.tmp 36) 47 4 (.bool false) 1 1 rfl Tryz.underlying47 info4b rfl (by decide) (by decide) _ ((ips.map (mok host port x)).take i) r [.bool r] rfl rfl rfl rfl (by simp [Value.oneCell']) (OwnRow.below HA.out.2.2.1 HBC.out) (bel_then HA.out.2.2.2 HBC.out) (Nat.le_trans HA.out.2.2.2.size HBC.out.size) (by rw [List.length_take, List.length_map]; omega) ?_)
        intro vn wn hn1 hn2 hn3 hn4
        have HN1 := Aside0.mk hn1
        have HN2 := Aside0.mk hn2
        clear hn1 hn2 hn3 hn4
        go_wp2_with fail
        go_roundg (gk - 1)
        case measure => omega
        case rel => exact ⟨i + 1, by simp, Aside0.mk ⟨by omega, by omega, by rw [HTK.out]; exact HN1.out, HN2.out⟩⟩
      | dom dh dp mh =>
        obtain ⟨rfl, hcall⟩ := say_dom (w := wr) hmt hgood HXn host port hlow
        have HCALL := Aside0.mk hcall
        clear hcall hmt hgood hby HXn
        go_wp2_with fail
        refine HCALL.out.mono ?_
        rintro e wc ⟨rfl, bc⟩
        have HBC := Aside0.mk bc
        clear HCALL bc
        generalize mok host port x (.dom dh dp mh) = r at HTK ⊢
        go_wp2_with (at_builtin; refine OwnRow.append (R := fun (b : Bool) cs => cs = [.bool b]) (w0 := W) W.heap.size rfl (.tmp 30) (.tmp 36) 47 4 (.bool false) 1 1 rfl Tryz.underlying47 info4b rfl (by decide) (by decide) _ ((ips.map (mok host port x)).take i) r [.bool r] rfl rfl rfl rfl (by simp [Value.oneCell']) (OwnRow.below HA.out.2.2.1 HBC.out) (bel_then HA.out.2.2.2 HBC.out) (Nat.le_trans HA.out.2.2.2.size HBC.out.size) (by rw [List.length_take, List.length_map]; omega) ?_)
        intro vn wn hn1 hn2 hn3 hn4
        have HN1 := Aside0.mk hn1
        have HN2 := Aside0.mk hn2
        clear hn1 hn2 hn3 hn4
        go_wp2_with fail
        go_roundg (gk - 1)
        case measure => omega
        case rel => exact ⟨i + 1, by simp, Aside0.mk ⟨by omega, by omega, by rw [HTK.out]; exact HN1.out, HN2.out⟩⟩
    · have hil : i = ips.length := by omega
      subst hil
      clear hge hle hk
      have HO1 := Aside0.mk (show OwnB wr W _ (ips.map (mok host port x)) by have := HA.out.2.2.1; rw [List.take_of_length_le (by rw [List.length_map]; omega)] at this; exact this)
      have HB1 := Aside0.mk HA.out.2.2.2
      clear HA HI HGI d6
      have HXold := Aside0.mk HX.out
      clear HX
      generalize wr = W2 at *
      have hcb := (HB1.out.block _ q).trans HC.out
      have HD2 := Aside0.mk (HD.out.kept (Kp.below HB1.out) (fun g hg => by
        obtain ⟨_, cs, hc⟩ := HD.out.typed g hg
        exact HB1.out.block g (blk_lt hc)))
      have d7 := blk_cell hcb 7
      simp only [List.getElem?_toArray, List.getElem?_cons_zero, List.getElem?_cons_succ] at d7
      have HX := Aside0.mk (show IpV W2 x ipv from by
        have hx := HXold.out
        have hb := HB1.out
        match x, hx with
        | none, hx => exact hx
        | some (a, b, c, d), ⟨g, cap, e, h4, e0, e1, e2, e3⟩ => exact ⟨g, cap, e, h4, cell_on hb e0, cell_on hb e1, cell_on hb e2, cell_on hb e3⟩)
      clear HD HXold hcb
      go_wp2_with fail
      go_loopg [9, 44] doms.length (fun kq vo v w' => ∃ i : Nat, v = .int .i64 i ∧ Aside0 (i ≤ doms.length ∧ kq + i = doms.length ∧ OwnB w' W2 vo ((doms.map (mok host port x)).take i) ∧ Below W2.heap.size W2 w'))
      case atStart => exact ⟨0, rfl, Aside0.mk ⟨Nat.zero_le _, by omega, OwnRow.none_ _ _ _ _ _, Below.refl _ _⟩⟩
      case round =>
        obtain ⟨i, rfl, HA⟩ := hrel
        have hle := HA.out.1
        have hk := HA.out.2.1
        rcases Nat.lt_or_ge i doms.length with hi | hge
        · have HM := Aside0.mk (show doms[i]? = some (doms[i]'hi) from List.getElem?_eq_getElem hi)
          have hgood := HG.out _ (List.getElem_mem hi)
          obtain ⟨g, cap', u, hv, hcell, hmt⟩ := HD2.out.cell HA.out.2.2.2 HM.out
          injection hv with hA _ hcap
          subst hA
          subst hcap
          have htk : (doms.map (mok host port x)).take (i + 1) = (doms.map (mok host port x)).take i ++ [mok host port x (doms[i]'hi)] := by rw [List.take_succ_eq_append_getElem (by rw [List.length_map]; exact hi), List.getElem_map]
          have HTK := Aside0.mk htk
          clear htk
          generalize doms[i]'hi = m at HM hmt hgood HTK
          have hby := HA.out.2.2.2
          have HXn := HX.out
          cases m with
          | all =>
            obtain ⟨rfl, hcall⟩ := say_all (w := wr) hmt host port ipv x
            have HCALL := Aside0.mk hcall
            clear hcall hmt hgood hby HXn
            go_wp2_with fail
            refine HCALL.out.mono ?_
            rintro e wc ⟨rfl, bc⟩
            have HBC := Aside0.mk bc
            clear HCALL bc
            generalize mok host port x (.all) = r at HTK ⊢
            go_wp2_with (at_builtin; refine OwnRow.append (R := fun (b : Bool) cs => cs = [.bool b]) (w0 := W2) W2.heap.size rfl (.tmp 48) (.tmp 54) 47 4 (.bool false) 1 1 rfl Tryz.underlying47 info4b rfl (by decide) (by decide) _ ((doms.map (mok host port x)).take i) r [.bool r] rfl rfl rfl rfl (by simp [Value.oneCell']) (OwnRow.below HA.out.2.2.1 HBC.out) (bel_then HA.out.2.2.2 HBC.out) (Nat.le_trans HA.out.2.2.2.size HBC.out.size) (by rw [List.length_take, List.length_map]; omega) ?_)
            intro vn wn hn1 hn2 hn3 hn4
            have HN1 := Aside0.mk hn1
            have HN2 := Aside0.mk hn2
            clear hn1 hn2 hn3 hn4
            go_wp2_with fail
            go_roundg (gk - 1)
            case measure => omega
            case rel => exact ⟨i + 1, by simp, Aside0.mk ⟨by omega, by omega, by rw [HTK.out]; exact HN1.out, HN2.out⟩⟩
          | net ml mm =>
            obtain ⟨q, rfl, hcall⟩ := say_net (w := wr) hmt hgood hby HXn host port
            have HCALL := Aside0.mk hcall
            clear hcall hmt hgood hby HXn
            go_wp2_with fail
            refine HCALL.out.mono ?_
            rintro e wc ⟨rfl, bc⟩
            have HBC := Aside0.mk bc
            clear HCALL bc
            generalize mok host port x (.net ml mm) = r at HTK ⊢
            go_wp2_with (at_builtin; refine OwnRow.append (R := fun (b : Bool) cs => cs = [.bool b]) (w0 := W2) W2.heap.size rfl (.tmp 48) (.tmp 54) 47 4 (.bool false) 1 1 rfl Tryz.underlying47 info4b rfl (by decide) (by decide) _ ((doms.map (mok host port x)).take i) r [.bool r] rfl rfl rfl rfl (by simp [Value.oneCell']) (OwnRow.below HA.out.2.2.1 HBC.out) (bel_then HA.out.2.2.2 HBC.out) (Nat.le_trans HA.out.2.2.2.size HBC.out.size) (by rw [List.length_take, List.length_map]; omega) ?_)
            intro vn wn hn1 hn2 hn3 hn4
            have HN1 := Aside0.mk hn1
            have HN2 := Aside0.mk hn2
            clear hn1 hn2 hn3 hn4
            go_wp2_with fail
            go_roundg (gk - 1)
            case measure => omega
            case rel => exact ⟨i + 1, by simp, Aside0.mk ⟨by omega, by omega, by rw [HTK.out]; exact HN1.out, HN2.out⟩⟩
          | ip e0 e1 e2 e3 mp =>
            obtain ⟨q, rfl, hcall⟩ := say_ip (w := wr) hmt hby HXn host port
            have HCALL := Aside0.mk hcall
            clear hcall hmt hgood hby HXn
            go_wp2_with fail
            refine HCALL.out.mono ?_
            rintro e wc ⟨rfl, bc⟩
            have HBC := Aside0.mk bc
            clear HCALL bc
            generalize mok host port x (.ip e0 e1 e2 e3 mp) = r at HTK ⊢
            go_wp2_with (at_builtin; refine OwnRow.append (R := fun (b : Bool) cs => cs = [.bool b]) (w0 := W2) W2.heap.size rfl (.tmp 48) (.tmp 54) 47 4 (.bool false) 1 1 rfl Tryz.underlying47 info4b rfl (by decide) (by decide) _ ((doms.map (mok host port x)).take i) r [.bool r] rfl rfl rfl rfl (by simp [Value.oneCell']) (OwnRow.below HA.out.2.2.1 HBC.out) (bel_then HA.out.2.2.2 HBC.out) (Nat.le_trans HA.out.2.2.2.size HBC.out.size) (by rw [List.length_take, List.length_map]; omega) ?_)
            intro vn wn hn1 hn2 hn3 hn4
            have HN1 := Aside0.mk hn1
            have HN2 := Aside0.mk hn2
            clear hn1 hn2 hn3 hn4
            go_wp2_with fail
            go_roundg (gk - 1)
            case measure => omega
            case rel => exact ⟨i + 1, by simp, Aside0.mk ⟨by omega, by omega, by rw [HTK.out]; exact HN1.out, HN2.out⟩⟩
          | dom dh dp mh =>
            obtain ⟨rfl, hcall⟩ := say_dom (w := wr) hmt hgood HXn host port hlow
            have HCALL := Aside0.mk hcall
            clear hcall hmt hgood hby HXn
            go_wp2_with fail
            refine HCALL.out.mono ?_
            rintro e wc ⟨rfl, bc⟩
            have HBC := Aside0.mk bc
            clear HCALL bc
            generalize mok host port x (.dom dh dp mh) = r at HTK ⊢
            go_wp2_with (at_builtin; refine OwnRow.append (R := fun (b : Bool) cs => cs = [.bool b]) (w0 := W2) W2.heap.size rfl (.tmp 48) (.tmp 54) 47 4 (.bool false) 1 1 rfl Tryz.underlying47 info4b rfl (by decide) (by decide) _ ((doms.map (mok host port x)).take i) r [.bool r] rfl rfl rfl rfl (by simp [Value.oneCell']) (OwnRow.below HA.out.2.2.1 HBC.out) (bel_then HA.out.2.2.2 HBC.out) (Nat.le_trans HA.out.2.2.2.size HBC.out.size) (by rw [List.length_take, List.length_map]; omega) ?_)
            intro vn wn hn1 hn2 hn3 hn4
            have HN1 := Aside0.mk hn1
            have HN2 := Aside0.mk hn2
            clear hn1 hn2 hn3 hn4
            go_wp2_with fail
            go_roundg (gk - 1)
            case measure => omega
            case rel => exact ⟨i + 1, by simp, Aside0.mk ⟨by omega, by omega, by rw [HTK.out]; exact HN1.out, HN2.out⟩⟩
        · have hil : i = doms.length := by omega
          subst hil
          clear hge hle hk
          have HA2 := Aside0.mk (show OwnB wr W2 _ (doms.map (mok host port x)) by have := HA.out.2.2.1; rw [List.take_of_length_le (by rw [List.length_map]; omega)] at this; exact this)
          have HB2 := Aside0.mk HA.out.2.2.2
          go_wp2_with fail
          go_ret2
          exact ⟨_, _, rfl, OwnRow.lower (OwnRow.below HO1.out HB2.out) HB.out.size, OwnRow.lower HA2.out (Nat.le_trans HB.out.size HB1.out.size), bel_then HB.out (bel_then HB1.out HB2.out)⟩
          
end Go.Proofs.YtnchgmjeoajmiaaGreatDoor

/-! Rulz -/
namespace Go.Proofs.YtnchgmjeoajmiaaGreatDoor
open Go.RowKit Go.Proofs.YtnchgmjeoajmiaaGreatDoorW.PrintWords
set_option linter.unusedSimpArgs false
set_option linter.unusedVariables false

theorem any_f (l : List Bool) (hl : l.length ≤ 1000000000) : ∀ (d k i : Nat), l.length = i + d → d < k → U.spec_Any.l0 k l (l.length : Int) (i : Int) = some ((l.drop i).any id) := by
  intro d
  induction d with
  | zero =>
    intro k i hi hk
    obtain ⟨k, rfl⟩ : ∃ m, k = m + 1 := ⟨k - 1, by omega⟩
    simp only [U.spec_Any.l0]
    rw [if_neg (by omega), List.drop_of_length_le (by omega)]
    rfl
  | succ d ih =>
    intro k i hi hk
    obtain ⟨k, rfl⟩ : ∃ m, k = m + 1 := ⟨k - 1, by omega⟩
    have hlt : i < l.length := by omega
    have ew : wrap64 ((i : Int) + 1) = ((i + 1 : Nat) : Int) := by unfold wrap64; omega
    have er : rdOf false l (i : Int) = l[i]'hlt := by simp [rdOf, hlt]
    simp only [U.spec_Any.l0]
    rw [if_pos (by omega), if_pos (by omega), if_pos (by omega), er, ew, List.drop_eq_getElem_cons hlt, List.any_cons, ih k (i + 1) (by omega) (by omega)]
    cases l[i]'hlt <;> rfl
theorem any_calls (l : List Bool) (A : Option Addr) (c : Nat) (w : World) (hl : l.length ≤ 1000000000) (hA : Kd.C Kd.bool w A l.length l) (hc : l.length ≤ c) :
    Calls Tryz.prog 34 #[.slice A l.length c] w fun e w' => e = .returned (.bool (l.any id)) ∧ Drawn0 w w' := by
  refine U.spec_Any.calls (l.length + 1) A c l _ w hA hc ?_
  have := any_f l hl l.length (l.length + 1) 0 (by omega) (by omega)
  rw [List.drop_zero] at this
  exact this

/-- What Rules returns: two lists of bools. -/
def TwoB (w : World) (l1 l2 : List Bool) (e : Ending) (w' : World) : Prop := ∃ A1 c1 A2 c2, e = .returned (.tuple #[.slice A1 l1.length c1, .slice A2 l2.length c2]) ∧ l1.length ≤ c1 ∧ l2.length ≤ c2 ∧ Kd.C Kd.bool w' A1 l1.length l1 ∧ Kd.C Kd.bool w' A2 l2.length l2 ∧ Below w.heap.size w w'

set_option maxRecDepth 100000 in
set_option maxHeartbeats 1000000 in
theorem rules_nil (p4 p6 : Addr) (no : ByteArray) (effs : List Eff) (w : World) (host port : ByteArray) (A : Option Addr) (c : Nat) (ips doms : List Mt) (hei : (lists effs [] []).1 = ips) (hed : (lists effs [] []).2 = doms) (G : GW p4 p6 w) (hl : Listed no effs) (hlow : host.size ≤ 9223372036854775807) (hs1 : ips.length ≤ 100000) (hs2 : doms.length ≤ 100000) :
    Calls Tryz.prog 32 #[.string no, .string host, .string port, .slice A 0 c] w (TwoB w (ips.map (mok host port none)) (doms.map (mok host port none))) := by
  have HL := Aside0.mk hl
  clear hl
  go_enter Tryz.func32, Tryz.ntmps32
  go_wp2_with fail
  refine (zzRules_calls p4 p6 no effs w host port none (.slice none 0 0) ips doms hei hed G HL.out hlow rfl).mono ?_
  rintro e W1 ⟨v1, v2, rfl, ho1, ho2, hb⟩
  obtain ⟨A1, c1, rfl, k1, r1⟩ := ho1.reads
  obtain ⟨A2, c2, rfl, k2, r2⟩ := ho2.reads
  simp only [List.length_map] at k1 k2 r1 r2
  have R1 := Aside0.mk r1
  have R2 := Aside0.mk r2
  have HB := Aside0.mk hb
  clear ho1 ho2 r1 r2 hb
  have e1 := Aside0.mk (show OwnRow (fun (b : Bool) cs => cs = [.bool b]) 4 1 (W1.alloc (.cells #[] 4)) W1.heap.size (.slice (some ⟨W1.heap.size, 0, none⟩) 0 0) [] from OwnRow.lit (ps := []) W1 W1.heap.size (Reps.none _ _) (Nat.le_refl _) (by decide))
  have e2 := Aside0.mk (show Below W1.heap.size W1 (W1.alloc (.cells #[] 4)) by go_grown)
  go_wp2_with (at_builtin; refine own_rows (R := fun (b : Bool) cs => cs = [.bool b]) (w0 := W1) W1.heap.size rfl (.tmp 27) (.tmp 28) 47 47 4 (.bool false) 1 1 rfl Tryz.underlying47 Tryz.underlying47 info4b rfl (by decide) (by decide) _ [] (ips.map (mok host port none)) A1 ips.length c1 rfl rfl e1.out (R1.out.imp_ e2.out (fun _ _ h => h)) (by rintro p cs rfl u hu; simp at hu; subst hu; rfl) e2.out e2.out.size (by simp; omega) ?_)
  intro va wa ha1 ha2 ha3 ha4
  have HA1 := Aside0.mk ha1
  have HA2 := Aside0.mk ha2
  have R3 := Aside0.mk (R2.out.imp_ (R' := fun (b : Bool) cs => cs = [.bool b]) ha2 (fun _ _ h => h))
  have e3 := Aside0.mk (show OwnRow (fun (b : Bool) cs => cs = [.bool b]) 4 1 (wa.alloc (.cells #[] 4)) wa.heap.size (.slice (some ⟨wa.heap.size, 0, none⟩) 0 0) [] from OwnRow.lit (ps := []) wa wa.heap.size (Reps.none _ _) (Nat.le_refl _) (by decide))
  have e4 := Aside0.mk (show Below wa.heap.size wa (wa.alloc (.cells #[] 4)) by go_grown)
  clear ha1 ha2 ha3 ha4
  go_wp2_with (at_builtin; refine own_rows (R := fun (b : Bool) cs => cs = [.bool b]) (w0 := wa) wa.heap.size rfl (.tmp 30) (.tmp 31) 47 47 4 (.bool false) 1 1 rfl Tryz.underlying47 Tryz.underlying47 info4b rfl (by decide) (by decide) _ [] (doms.map (mok host port none)) A2 doms.length c2 rfl rfl e3.out (R3.out.imp_ e4.out (fun _ _ h => h)) (by rintro p cs rfl u hu; simp at hu; subst hu; rfl) e4.out e4.out.size (by simp; omega) ?_)
  intro vb wb hb1 hb2 hb3 hb4
  obtain ⟨A3, c3, rfl, k3, r3⟩ := (OwnRow.below HA1.out hb2).reads
  obtain ⟨A4, c4, rfl, k4, r4⟩ := hb1.reads
  have F3 := Aside0.mk r3
  have F4 := Aside0.mk r4
  have K3 := Aside0.mk k3
  have K4 := Aside0.mk k4
  have FB := Aside0.mk (bel_then HB.out (bel_then HA2.out hb2))
  clear r3 r4 hb1 hb2 hb3 hb4 k3 k4
  go_wp2_with fail
  go_ret2
  exact ⟨A3, c3, A4, c4, rfl, K3.out, K4.out, F3.out, F4.out, FB.out⟩

theorem info5b : (Tryz.prog.info? 5).map (fun i => (i.zero, i.size, i.bytes)) = some (some (.int .u8 0), 1, 1) := by kernel_rfl
theorem ip_of_row {w : World} {B : Nat} {v : Value} {a b c d : Int} (h : OwnRow (fun (x : Int) cs => cs = [.int .u8 x]) 5 1 w B v [a, b, c, d]) : IpV w (some (a, b, c, d)) v := by
  obtain ⟨inner, ho, hr⟩ := h
  rcases ho.2 with ⟨_, h0⟩ | ⟨g, cap, cur, rfl, hb, hg, hn, hc, hs, ht⟩
  · simp at h0
  · have h4 : inner.length = 4 := hr.1
    have at_ : ∀ j p, ([a, b, c, d] : List Int)[j]? = some p → w.cell? ⟨g, j, none⟩ = some (.int .u8 p) := fun j p hj => by
      have h1 := hr.2 j p hj
      have hlt : j < 4 := (List.getElem?_eq_some_iff.1 hj).1
      rw [blk_cell hg]
      have h2 : inner[j]? = some (.int .u8 p) := by
        have := congrArg (fun l => l[0]?) h1
        simp only [List.getElem?_take, List.getElem?_drop, Nat.mul_one, Nat.add_zero, List.getElem?_cons_zero] at this
        simpa using this
      rw [← ht, List.getElem?_take] at h2
      split at h2
      · simpa using h2
      · cases h2
    exact ⟨g, cap, rfl, hn, at_ 0 a rfl, at_ 1 b rfl, at_ 2 c rfl, at_ 3 d rfl⟩

set_option maxRecDepth 100000 in
set_option maxHeartbeats 1000000 in
theorem rules_four (p4 p6 : Addr) (no : ByteArray) (effs : List Eff) (w : World) (host port : ByteArray) (A : Option Addr) (c : Nat) (x0 x1 x2 x3 : Int) (ips doms : List Mt) (hei : (lists effs [] []).1 = ips) (hed : (lists effs [] []).2 = doms) (G : GW p4 p6 w) (hl : Listed no effs) (hlow : host.size ≤ 9223372036854775807) (hs1 : ips.length ≤ 100000) (hs2 : doms.length ≤ 100000)
    (hA : Kd.C (Kd.int .u8) w A 4 [x0, x1, x2, x3]) :
    Calls Tryz.prog 32 #[.string no, .string host, .string port, .slice A 4 c] w (TwoB w (ips.map (mok host port (some (x0, x1, x2, x3)))) (doms.map (mok host port (some (x0, x1, x2, x3))))) := by
  have HL := Aside0.mk hl
  have HC := Aside0.mk hA
  clear hl hA
  go_enter Tryz.func32, Tryz.ntmps32
  go_wp2_with (at_builtin; refine own_rows (R := fun (x : Int) cs => cs = [.int .u8 x]) (w0 := w) w.heap.size rfl (.tmp 16) (.tmp 17) 63 46 5 (.int .u8 0) 1 1 rfl Tryz.underlying63 Tryz.underlying46 info5b rfl (by decide) (by decide) _ [] [x0, x1, x2, x3] A 4 c rfl rfl (OwnRow.none_ _ _ _ _ _) HC.out (by rintro p cs rfl u hu; simp at hu; subst hu; rfl) (Below.refl _ _) (Nat.le_refl _) (by simp) ?_)
  intro vip wip hi1 hi2 hi3 hi4
  have HI := Aside0.mk (ip_of_row hi1)
  have HIB := Aside0.mk hi2
  clear hi1 hi2 hi3 hi4
  go_wp2_with fail
  refine (zzRules_calls p4 p6 no effs wip host port (some (x0, x1, x2, x3)) vip ips doms hei hed (G.below HIB.out) HL.out hlow HI.out).mono ?_
  rintro e W1 ⟨v1, v2, rfl, ho1, ho2, hb⟩
  replace hb := bel_then HIB.out hb
  obtain ⟨A1, c1, rfl, k1, r1⟩ := ho1.reads
  obtain ⟨A2, c2, rfl, k2, r2⟩ := ho2.reads
  simp only [List.length_map] at k1 k2 r1 r2
  have R1 := Aside0.mk r1
  have R2 := Aside0.mk r2
  have HB := Aside0.mk hb
  clear ho1 ho2 r1 r2 hb
  have e1 := Aside0.mk (show OwnRow (fun (b : Bool) cs => cs = [.bool b]) 4 1 (W1.alloc (.cells #[] 4)) W1.heap.size (.slice (some ⟨W1.heap.size, 0, none⟩) 0 0) [] from OwnRow.lit (ps := []) W1 W1.heap.size (Reps.none _ _) (Nat.le_refl _) (by decide))
  have e2 := Aside0.mk (show Below W1.heap.size W1 (W1.alloc (.cells #[] 4)) by go_grown)
  go_wp2_with (at_builtin; refine own_rows (R := fun (b : Bool) cs => cs = [.bool b]) (w0 := W1) W1.heap.size rfl (.tmp 27) (.tmp 28) 47 47 4 (.bool false) 1 1 rfl Tryz.underlying47 Tryz.underlying47 info4b rfl (by decide) (by decide) _ [] (ips.map (mok host port (some (x0, x1, x2, x3)))) A1 ips.length c1 rfl rfl e1.out (R1.out.imp_ e2.out (fun _ _ h => h)) (by rintro p cs rfl u hu; simp at hu; subst hu; rfl) e2.out e2.out.size (by simp; omega) ?_)
  intro va wa ha1 ha2 ha3 ha4
  have HA1 := Aside0.mk ha1
  have HA2 := Aside0.mk ha2
  have R3 := Aside0.mk (R2.out.imp_ (R' := fun (b : Bool) cs => cs = [.bool b]) ha2 (fun _ _ h => h))
  have e3 := Aside0.mk (show OwnRow (fun (b : Bool) cs => cs = [.bool b]) 4 1 (wa.alloc (.cells #[] 4)) wa.heap.size (.slice (some ⟨wa.heap.size, 0, none⟩) 0 0) [] from OwnRow.lit (ps := []) wa wa.heap.size (Reps.none _ _) (Nat.le_refl _) (by decide))
  have e4 := Aside0.mk (show Below wa.heap.size wa (wa.alloc (.cells #[] 4)) by go_grown)
  clear ha1 ha2 ha3 ha4
  go_wp2_with (at_builtin; refine own_rows (R := fun (b : Bool) cs => cs = [.bool b]) (w0 := wa) wa.heap.size rfl (.tmp 30) (.tmp 31) 47 47 4 (.bool false) 1 1 rfl Tryz.underlying47 Tryz.underlying47 info4b rfl (by decide) (by decide) _ [] (doms.map (mok host port (some (x0, x1, x2, x3)))) A2 doms.length c2 rfl rfl e3.out (R3.out.imp_ e4.out (fun _ _ h => h)) (by rintro p cs rfl u hu; simp at hu; subst hu; rfl) e4.out e4.out.size (by simp; omega) ?_)
  intro vb wb hb1 hb2 hb3 hb4
  obtain ⟨A3, c3, rfl, k3, r3⟩ := (OwnRow.below HA1.out hb2).reads
  obtain ⟨A4, c4, rfl, k4, r4⟩ := hb1.reads
  have F3 := Aside0.mk r3
  have F4 := Aside0.mk r4
  have K3 := Aside0.mk k3
  have K4 := Aside0.mk k4
  have FB := Aside0.mk (bel_then HB.out (bel_then HA2.out hb2))
  clear r3 r4 hb1 hb2 hb3 hb4 k3 k4
  go_wp2_with fail
  go_ret2
  exact ⟨A3, c3, A4, c4, rfl, K3.out, K4.out, F3.out, F4.out, FB.out⟩
end Go.Proofs.YtnchgmjeoajmiaaGreatDoor

/-! One -/
namespace Go.Proofs.YtnchgmjeoajmiaaGreatDoor
open Go.RowKit Go.Proofs.YtnchgmjeoajmiaaGreatDoorW.PrintWords
set_option linter.unusedSimpArgs false
set_option linter.unusedVariables false

theorem one_listed {r : P.S42} (h : Rk r) : Listed (ruleText r) (effsOf [r]) := by
  have := listed_plain [r] ⟨by simp, fun x hx => by simp at hx; subst hx; exact h⟩
  rw [List.map_cons, List.map_nil, joinB_one] at this
  exact this
theorem one_names (r : P.S42) (h p : ByteArray) : (lists (effsOf [r]) [] []).2.any (mok h p none) = sayN h p (eff r) := by
  rw [anyN_eq]
  simp
theorem one_addrs (r : P.S42) (h p : ByteArray) (x : Int × Int × Int × Int) : (lists (effsOf [r]) [] []).1.any (mok h p (some x)) = sayA h p x (eff r) := by
  rw [(lists_any (mok h p (some x)) rfl (effsOf [r]) [] []).1]
  simp [effsOf, sayA]
end Go.Proofs.YtnchgmjeoajmiaaGreatDoor

/-! Lawradd -/
namespace Go.Proofs.YtnchgmjeoajmiaaGreatDoor
open Go.RowKit Go.Proofs.YtnchgmjeoajmiaaGreatDoorW.PrintWords
set_option linter.unusedSimpArgs false
set_option linter.unusedVariables false

set_option maxRecDepth 100000 in
set_option maxHeartbeats 1000000 in
/-- A rule over addresses. -/
theorem fnRulesAddress_calls (p4 p6 : Addr) (A_r : Option Addr) (c_r : Nat) (r : P.S42) (A_l : Option Addr) (c_l : Nat) (l : List Int) (port : ByteArray) (w : World) (G : GW p4 p6 w) (hc_r : r.f2.length ≤ c_r) (hA_r : Kd.C (Kd.int .i64) w A_r r.f2.length r.f2) (hc_l : l.length ≤ c_l) (hA_l : Kd.C (Kd.int .i64) w A_l l.length l) :
    Calls Tryz.prog 12 #[.agg #[.int .i64 r.f0, .string r.f1, .slice A_r r.f2.length c_r, .int .i64 r.f3, .string r.f4], .slice A_l l.length c_l, .string port] w (SaysTrue w) := by
  have hb0 : Below w.heap.size w (w.alloc (.cells #[.int .i64 r.f0, .string r.f1, .slice A_r r.f2.length c_r, .int .i64 r.f3, .string r.f4] 42)) := by go_grown
  have FB := Aside0.mk hb0
  have BOX := Aside0.mk (heap1 w (.cells #[.int .i64 r.f0, .string r.f1, .slice A_r r.f2.length c_r, .int .i64 r.f3, .string r.f4] 42))
  have b0 : Below (w.alloc (.cells #[.int .i64 r.f0, .string r.f1, .slice A_r r.f2.length c_r, .int .i64 r.f3, .string r.f4] 42)).heap.size (w.alloc (.cells #[.int .i64 r.f0, .string r.f1, .slice A_r r.f2.length c_r, .int .i64 r.f3, .string r.f4] 42)) (w.alloc (.cells #[.int .i64 r.f0, .string r.f1, .slice A_r r.f2.length c_r, .int .i64 r.f3, .string r.f4] 42)) := Below.refl _ _
  have HLT := Aside0.mk (blk_lt BOX.out)
  replace G := G.below hb0
  have HA_r := Aside0.mk (Kd.C_below hA_r hb0)
  clear hA_r
  have HA_l := Aside0.mk (Kd.C_below hA_l hb0)
  clear hA_l
  clear hb0
  have row := (b0.block _ HLT.out).trans BOX.out
  have d0 := blk_cell row 0
  have d1 := blk_cell row 1
  have d2 := blk_cell row 2
  have d3 := blk_cell row 3
  have d4 := blk_cell row 4
  simp only [List.getElem?_toArray, List.getElem?_cons_zero, List.getElem?_cons_succ] at d0 d1 d2 d3 d4
  clear row
  go_enter Tryz.func12, Tryz.ntmps12
  go_wp2_with fail
  generalize hW0 : (w.alloc (.cells #[.int .i64 r.f0, .string r.f1, .slice A_r r.f2.length c_r, .int .i64 r.f3, .string r.f4] 42)) = W0 at *
  clear hW0
  obtain ⟨bf_r, hf_r, ef_r⟩ := fits3_f r
  have EF_r := Aside0.mk ef_r
  have HF_r := Aside0.mk hf_r
  clear ef_r hf_r
  refine (P.laws_zzFits3.calls r.f0 r.f1 A_r c_r r.f2 r.f3 r.f4 bf_r _ (Kd.C_below HA_r.out b0) hc_r HF_r.out).mono ?_
  rintro e w1 ⟨rfl, c1⟩
  have b1 := bel_then b0 c1
  clear c1
  have row := (b1.block _ HLT.out).trans BOX.out
  have d0 := blk_cell row 0
  have d1 := blk_cell row 1
  have d2 := blk_cell row 2
  have d3 := blk_cell row 3
  have d4 := blk_cell row 4
  simp only [List.getElem?_toArray, List.getElem?_cons_zero, List.getElem?_cons_succ] at d0 d1 d2 d3 d4
  clear row
  cases bf_r with
  | false =>
    go_wp2_with fail
    go_ret
    exact ⟨rfl, bel_then FB.out b1⟩
  | true =>
  have FIT_r := Aside0.mk (EF_r.out rfl)
  cases d_l : decide ((2147483647 : Int) < (l.length : Int)) with
  | true =>
    go_wp2_with fail
    go_ret
    exact ⟨rfl, bel_then FB.out b1⟩
  | false =>
  have sz_l : l.length ≤ 2147483647 := not_le_big (of_decide_eq_false d_l)
  cases d_port : decide ((2147483647 : Int) < (port.size : Int)) with
  | true =>
    go_wp2_with fail
    go_ret
    exact ⟨rfl, bel_then FB.out b1⟩
  | false =>
  have sz_port : port.size ≤ 2147483647 := not_le_big (of_decide_eq_false d_port)
  obtain ⟨br_r, er_r, hr_r⟩ := isRule_ev r FIT_r.out
  obtain ⟨kr_r, er_r⟩ := er_r.at
  have HE_r := Aside0.mk er_r
  have OK_r := Aside0.mk hr_r
  clear er_r hr_r
  go_wp2_with fail
  refine (P.spec_IsRule.calls kr_r r.f0 r.f1 A_r c_r r.f2 r.f3 r.f4 br_r _ (Kd.C_below HA_r.out b1) hc_r HE_r.out).mono ?_
  rintro e w2 ⟨rfl, c2⟩
  have b2 := bel_then b1 c2
  clear c2
  have row := (b2.block _ HLT.out).trans BOX.out
  have d0 := blk_cell row 0
  have d1 := blk_cell row 1
  have d2 := blk_cell row 2
  have d3 := blk_cell row 3
  have d4 := blk_cell row 4
  simp only [List.getElem?_toArray, List.getElem?_cons_zero, List.getElem?_cons_succ] at d0 d1 d2 d3 d4
  clear row
  cases br_r with
  | false =>
    go_wp2_with fail
    refine (works_calls p4 p6 _ (G.below b2)).mono ?_
    rintro e w3 ⟨rfl, c3⟩
    have b3 := bel_then b2 c3
    clear c3
    have row := (b3.block _ HLT.out).trans BOX.out
    have d0 := blk_cell row 0
    have d1 := blk_cell row 1
    have d2 := blk_cell row 2
    have d3 := blk_cell row 3
    have d4 := blk_cell row 4
    simp only [List.getElem?_toArray, List.getElem?_cons_zero, List.getElem?_cons_succ] at d0 d1 d2 d3 d4
    clear row
    go_wp2_with fail
    go_ret
    exact ⟨rfl, bel_then FB.out b3⟩
  | true =>
  replace OK_r := Aside0.mk (OK_r.out rfl)
  obtain ⟨br_l, er_l, hr_l⟩ := isAddr_ev l sz_l
  obtain ⟨kr_l, er_l⟩ := er_l.at
  have HE_l := Aside0.mk er_l
  have OK_l := Aside0.mk hr_l
  clear er_l hr_l
  go_wp2_with fail
  refine (P.spec_IsAddress.calls kr_l A_l c_l l br_l _ (Kd.C_below HA_l.out b2) hc_l HE_l.out).mono ?_
  rintro e w3 ⟨rfl, c3⟩
  have b3 := bel_drawn b2 c3
  clear c3
  have row := (b3.block _ HLT.out).trans BOX.out
  have d0 := blk_cell row 0
  have d1 := blk_cell row 1
  have d2 := blk_cell row 2
  have d3 := blk_cell row 3
  have d4 := blk_cell row 4
  simp only [List.getElem?_toArray, List.getElem?_cons_zero, List.getElem?_cons_succ] at d0 d1 d2 d3 d4
  clear row
  cases br_l with
  | false =>
    go_wp2_with fail
    refine (works_calls p4 p6 _ (G.below b3)).mono ?_
    rintro e w4 ⟨rfl, c4⟩
    have b4 := bel_then b3 c4
    clear c4
    have row := (b4.block _ HLT.out).trans BOX.out
    have d0 := blk_cell row 0
    have d1 := blk_cell row 1
    have d2 := blk_cell row 2
    have d3 := blk_cell row 3
    have d4 := blk_cell row 4
    simp only [List.getElem?_toArray, List.getElem?_cons_zero, List.getElem?_cons_succ] at d0 d1 d2 d3 d4
    clear row
    go_wp2_with fail
    go_ret
    exact ⟨rfl, bel_then FB.out b4⟩
  | true =>
  replace OK_l := Aside0.mk (OK_l.out rfl)
  obtain ⟨br_port, er_port, hr_port⟩ := isPort_ev port sz_port
  obtain ⟨kr_port, er_port⟩ := er_port.at
  have HE_port := Aside0.mk er_port
  have OK_port := Aside0.mk hr_port
  clear er_port hr_port
  go_wp2_with fail
  refine (P.spec_IsPort.calls kr_port port br_port _ HE_port.out).mono ?_
  rintro e w4 ⟨rfl, c4⟩
  have b4 := bel_drawn b3 c4
  clear c4
  have row := (b4.block _ HLT.out).trans BOX.out
  have d0 := blk_cell row 0
  have d1 := blk_cell row 1
  have d2 := blk_cell row 2
  have d3 := blk_cell row 3
  have d4 := blk_cell row 4
  simp only [List.getElem?_toArray, List.getElem?_cons_zero, List.getElem?_cons_succ] at d0 d1 d2 d3 d4
  clear row
  cases br_port with
  | false =>
    go_wp2_with fail
    refine (works_calls p4 p6 _ (G.below b4)).mono ?_
    rintro e w5 ⟨rfl, c5⟩
    have b5 := bel_then b4 c5
    clear c5
    have row := (b5.block _ HLT.out).trans BOX.out
    have d0 := blk_cell row 0
    have d1 := blk_cell row 1
    have d2 := blk_cell row 2
    have d3 := blk_cell row 3
    have d4 := blk_cell row 4
    simp only [List.getElem?_toArray, List.getElem?_cons_zero, List.getElem?_cons_succ] at d0 d1 d2 d3 d4
    clear row
    go_wp2_with fail
    go_ret
    exact ⟨rfl, bel_then FB.out b5⟩
  | true =>
  replace OK_port := Aside0.mk (OK_port.out rfl)
  have hps : port.size ≤ 5 := by have := OK_port.out.five; rw [BL_size] at this; exact this
  obtain ⟨x0, x1, x2, x3, e_l, y0, y1, y2, y3⟩ := OK_l.out
  subst e_l
  have l4 : ([x0, x1, x2, x3] : List Int).length = 4 := rfl
  simp only [l4] at HA_l hc_l ⊢
  have Y0 := Aside0.mk y0
  have Y1 := Aside0.mk y1
  have Y2 := Aside0.mk y2
  have Y3 := Aside0.mk y3
  have zA := addrText_size x0 x1 x2 x3 y0 y1 y2 y3
  have zB : (addrText x0 x1 x2 x3 ++ (⟨#[58]⟩ : ByteArray)).size = (addrText x0 x1 x2 x3).size + 1 := ByteArray.size_append
  clear y0 y1 y2 y3 l4
  have HL := Aside0.mk (one_listed OK_r.out)
  have hlen := lists_len (effsOf [r]) [] []
  have hef : (effsOf [r]).length = 1 := rfl
  simp only [List.length_nil] at hlen
  obtain ⟨ips, hei⟩ : ∃ l, (lists (effsOf [r]) [] []).1 = l := ⟨_, rfl⟩
  obtain ⟨doms, hed⟩ : ∃ l, (lists (effsOf [r]) [] []).2 = l := ⟨_, rfl⟩
  rw [hei, hed] at hlen
  have l1 : ips.length ≤ 100 := by omega
  have l2 : doms.length ≤ 100 := by omega
  clear hlen hef
  obtain ⟨ad, eA, hcell⟩ := HA_l.out.2.2 (by decide)
  subst eA
  have c0 : W0.cell? ad = some (.int .i64 x0) := by
    obtain ⟨cs, _, e, hu⟩ := hcell 0 x0 rfl
    subst e
    exact hu 0 _ rfl
  have c1 : W0.cell? ⟨ad.block, ad.off + 1, none⟩ = some (.int .i64 x1) := by
    obtain ⟨cs, _, e, hu⟩ := hcell 1 x1 rfl
    subst e
    exact hu 0 _ rfl
  have c2 : W0.cell? ⟨ad.block, ad.off + 2, none⟩ = some (.int .i64 x2) := by
    obtain ⟨cs, _, e, hu⟩ := hcell 2 x2 rfl
    subst e
    exact hu 0 _ rfl
  have c3 : W0.cell? ⟨ad.block, ad.off + 3, none⟩ = some (.int .i64 x3) := by
    obtain ⟨cs, _, e, hu⟩ := hcell 3 x3 rfl
    subst e
    exact hu 0 _ rfl
  have C0 := cell_on b4 c0
  have C1 := cell_on b4 c1
  have C2 := cell_on b4 c2
  have C3 := cell_on b4 c3
  clear hcell c0 c1 c2 c3
  have hw : ∀ x, Byte x → IntKind.u8.wrap x = x := fun x hx => by unfold Byte at hx; rw [IntKind.wrap_u8]; omega
  have hw0 := hw x0 Y0.out
  have hw1 := hw x1 Y1.out
  have hw2 := hw x2 Y2.out
  have hw3 := hw x3 Y3.out
  clear hw
  have hsay : ips.any (mok (addrText x0 x1 x2 x3) port (some (x0, x1, x2, x3))) = sayA (addrText x0 x1 x2 x3) port (x0, x1, x2, x3) (eff r) := by rw [← hei]; exact one_addrs r _ port _
  have RU := fun A w' g hA => Aside0.mk (rules_four p4 p6 _ (effsOf [r]) w' (addrText x0 x1 x2 x3) port A 4 x0 x1 x2 x3 ips doms hei hed g HL.out (by omega) (by omega) (by omega) hA)
  have ANY := fun A c w' hA hc => Aside0.mk (any_calls (ips.map (mok (addrText x0 x1 x2 x3) port (some (x0, x1, x2, x3)))) A c w' (by rw [List.length_map]; omega) hA hc)
  have hev : (ips.map (mok (addrText x0 x1 x2 x3) port (some (x0, x1, x2, x3)))).any id = sayA (addrText x0 x1 x2 x3) port (x0, x1, x2, x3) (eff r) := by rw [List.any_map]; exact hsay
  rw [hev] at ANY
  have hm := matchesA_eq r OK_r.out Y0.out Y1.out Y2.out Y3.out (addrText x0 x1 x2 x3) port 0
  generalize sayA (addrText x0 x1 x2 x3) port (x0, x1, x2, x3) (eff r) = v at *
  have HM := Aside0.mk hm
  clear hm hev hsay hei hed
  have hB : (w4.alloc (.cells #[.int .u8 x0, .int .u8 x1, .int .u8 x2, .int .u8 x3] 5)).heap[w4.heap.size]? = some (.cells #[.int .u8 x0, .int .u8 x1, .int .u8 x2, .int .u8 x3] 5 (0, 0)) := heap1 _ _
  have HIP := Aside0.mk (C_four (blk_cell hB 0) (blk_cell hB 1) (blk_cell hB 2) (blk_cell hB 3))
  clear hB
  have HG := Aside0.mk (show Below w4.heap.size w4 (w4.alloc (.cells #[.int .u8 x0, .int .u8 x1, .int .u8 x2, .int .u8 x3] 5)) by go_grown)
  go_wp2_with fail
  go_region_held3 (fun w' => w'.cell? ad = some (.int .i64 x0) ∧ w'.cell? ⟨ad.block, ad.off + 1, none⟩ = some (.int .i64 x1) ∧ w'.cell? ⟨ad.block, ad.off + 2, none⟩ = some (.int .i64 x2) ∧ w'.cell? ⟨ad.block, ad.off + 3, none⟩ = some (.int .i64 x3)) (first | exact ⟨C0, C1, C2, C3⟩ | exact ⟨cell_on HG.out C0, cell_on HG.out C1, cell_on HG.out C2, cell_on HG.out C3⟩) (first | fail)
  rename_i hh
  clear hh
  have bA := bel_then b4 (HG.out.drew)
  have tA := Aside0.mk (show Below (w4.alloc (.cells #[.int .u8 x0, .int .u8 x1, .int .u8 x2, .int .u8 x3] 5)).drew.heap.size (w4.alloc (.cells #[.int .u8 x0, .int .u8 x1, .int .u8 x2, .int .u8 x3] 5)).drew (w4.alloc (.cells #[.int .u8 x0, .int .u8 x1, .int .u8 x2, .int .u8 x3] 5)).drew from Below.refl _ _)
  have HIP2 := Aside0.mk (show Kd.C (Kd.int .u8) (w4.alloc (.cells #[.int .u8 x0, .int .u8 x1, .int .u8 x2, .int .u8 x3] 5)).drew (some ⟨w4.heap.size, 0, none⟩) 4 [x0, x1, x2, x3] from Kd.C_below HIP.out (Below.refl _ _).drew)
  generalize w4.heap.size = gip at *
  have row := (bA.block _ HLT.out).trans BOX.out
  have d0 := blk_cell row 0
  have d1 := blk_cell row 1
  have d2 := blk_cell row 2
  have d3 := blk_cell row 3
  have d4 := blk_cell row 4
  simp only [List.getElem?_toArray, List.getElem?_cons_zero, List.getElem?_cons_succ] at d0 d1 d2 d3 d4
  clear row
  generalize hWA : (w4.alloc (.cells #[.int .u8 x0, .int .u8 x1, .int .u8 x2, .int .u8 x3] 5)).drew = WA at *
  clear hWA C0 C1 C2 C3
  go_wp2_with fail
  refine (ruleText_calls p4 p6 r A_r c_r _ (G.below bA) OK_r.out.small hc_r (Kd.C_below HA_r.out bA)).mono ?_
  rintro e w5 ⟨rfl, c5⟩
  have t5 := bel_then tA.out c5
  have b5 := bel_then bA c5
  clear c5
  have row := (b5.block _ HLT.out).trans BOX.out
  have d0 := blk_cell row 0
  have d1 := blk_cell row 1
  have d2 := blk_cell row 2
  have d3 := blk_cell row 3
  have d4 := blk_cell row 4
  simp only [List.getElem?_toArray, List.getElem?_cons_zero, List.getElem?_cons_succ] at d0 d1 d2 d3 d4
  clear row
  go_wp2_with fail
  refine (addressText p4 p6 (some ad) c_l x0 x1 x2 x3 _ (G.below b5) hc_l (Kd.C_below HA_l.out b5) Y0.out Y1.out Y2.out Y3.out).mono ?_
  rintro e w6 ⟨rfl, c6⟩
  have t6 := bel_then t5 c6
  have b6 := bel_then b5 c6
  clear c6
  have row := (b6.block _ HLT.out).trans BOX.out
  have d0 := blk_cell row 0
  have d1 := blk_cell row 1
  have d2 := blk_cell row 2
  have d3 := blk_cell row 3
  have d4 := blk_cell row 4
  simp only [List.getElem?_toArray, List.getElem?_cons_zero, List.getElem?_cons_succ] at d0 d1 d2 d3 d4
  clear row
  go_wp2_with fail
  refine ((RU _ _ (G.below b6) (Kd.C_below HIP2.out t6)).out).mono ?_
  rintro e w7 ⟨A1, c1, A2, c2, rfl, k1, k2, r1, r2, c7⟩
  have t7 := bel_then t6 c7
  have b7 := bel_then b6 c7
  clear c7
  have row := (b7.block _ HLT.out).trans BOX.out
  have d0 := blk_cell row 0
  have d1 := blk_cell row 1
  have d2 := blk_cell row 2
  have d3 := blk_cell row 3
  have d4 := blk_cell row 4
  simp only [List.getElem?_toArray, List.getElem?_cons_zero, List.getElem?_cons_succ] at d0 d1 d2 d3 d4
  clear row
  simp only [List.length_map] at k1 k2 r1 r2 ANY
  have R2 := Aside0.mk r1
  have GK := Aside0.mk (G.below b7)
  have HAK := Aside0.mk (Kd.C_below HA_r.out b7)
  have HLK := Aside0.mk (Kd.C_below HA_l.out b7)
  have BK := Aside0.mk b7
  clear r1 r2
  go_wp2_with fail
  go_region_held3 (fun w' => w'.cell? ⟨w.heap.size, 0, none⟩ = some (.int .i64 r.f0) ∧ w'.cell? ⟨w.heap.size, 1, none⟩ = some (.string r.f1) ∧ w'.cell? ⟨w.heap.size, 2, none⟩ = some (.slice A_r r.f2.length c_r) ∧ w'.cell? ⟨w.heap.size, 3, none⟩ = some (.int .i64 r.f3) ∧ w'.cell? ⟨w.heap.size, 4, none⟩ = some (.string r.f4)) (first | exact D2.out | exact D1.out | exact ⟨d0, d1, d2, d3, d4⟩) (first
    | (go_at_call 22; refine (works_calls p4 p6 _ (by exact GK.out.below (by go_grown))).mono ?_; rintro e v1 ⟨rfl, q1⟩; have Q1 := Aside0.mk (bel_then (show Below w7.heap.size w7 _ by go_grown) q1); have D1 := Aside0.mk (show (fun w' => w'.cell? ⟨w.heap.size, 0, none⟩ = some (.int .i64 r.f0) ∧ w'.cell? ⟨w.heap.size, 1, none⟩ = some (.string r.f1) ∧ w'.cell? ⟨w.heap.size, 2, none⟩ = some (.slice A_r r.f2.length c_r) ∧ w'.cell? ⟨w.heap.size, 3, none⟩ = some (.int .i64 r.f3) ∧ w'.cell? ⟨w.heap.size, 4, none⟩ = some (.string r.f4)) v1 from ⟨cell_on q1 d0, cell_on q1 d1, cell_on q1 d2, cell_on q1 d3, cell_on q1 d4⟩); clear q1)
    | (go_at_call 34; refine (ANY A1 c1 _ (by exact Kd.C_below (Kd.C_below R2.out Q1.out) (by go_grown)) k1).out.mono ?_; rintro e v2 ⟨rfl, ⟨m2, rfl⟩⟩)
    | (go_at_call 35; refine (P.spec_MatchesAddress.calls 5 r.f0 r.f1 A_r c_r r.f2 r.f3 r.f4 (some ad) c_l [x0, x1, x2, x3] port v _ (by exact Kd.C_below (Kd.C_below HAK.out Q1.out) (pw_below_drewN (Below.refl _ _) _)) hc_r (by exact Kd.C_below (Kd.C_below HLK.out Q1.out) (pw_below_drewN (Below.refl _ _) _)) hc_l HM.out).mono ?_; rintro e v3 ⟨rfl, q3⟩; have Q3 := Aside0.mk q3; have D2 := Aside0.mk (show (fun w' => w'.cell? ⟨w.heap.size, 0, none⟩ = some (.int .i64 r.f0) ∧ w'.cell? ⟨w.heap.size, 1, none⟩ = some (.string r.f1) ∧ w'.cell? ⟨w.heap.size, 2, none⟩ = some (.slice A_r r.f2.length c_r) ∧ w'.cell? ⟨w.heap.size, 3, none⟩ = some (.int .i64 r.f3) ∧ w'.cell? ⟨w.heap.size, 4, none⟩ = some (.string r.f4)) v3 from ⟨cell_on q3 D1.out.1, cell_on q3 D1.out.2.1, cell_on q3 D1.out.2.2.1, cell_on q3 D1.out.2.2.2.1, cell_on q3 D1.out.2.2.2.2⟩); clear q3))
  rename_i hh
  clear hh
  have bz := bel_then BK.out (bel_then (pw_below_drewN Q1.out m2) Q3.out)
  go_wp2_with fail
  go_ret
  exact ⟨ret_bool (by simp), bel_then FB.out bz⟩
end Go.Proofs.YtnchgmjeoajmiaaGreatDoor
