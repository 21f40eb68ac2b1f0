/- The order of rules does not matter, nor do spaces beside commas: FnUseOrder returns true at every input, and what came in reads behind the call as before. The condition: the listed package-level variables hold, when the call begins, what their own texts lay (the tied card). -/
import Derived.Test.YtnchgmjeoajmiaaGreatDoorMc
import Derived.Test.YtnchgmjeoajmiaaGreatDoorPx1
import Derived.Test.YtnchgmjeoajmiaaGreatDoorTie
import Derived.Test.YtnchgmjeoajmiaaGreatDoorCards
import Derived.Test.YtnchgmjeoajmiaaGreatDoorFkFnUseOrder
import Derived.WalkKit
import Derived.ProofKit
import Derived.OpenShut
import Derived.ShutString
import Derived.Below
import Derived.Carry
import Derived.LaidMore
import Derived.Lay
import Derived.SevenTiedAt
import Derived.Stop.Joined
/-! Lawa -/
namespace Go.Proofs.YtnchgmjeoajmiaaGreatDoor
open Go.RowKit Go.Proofs.YtnchgmjeoajmiaaGreatDoorW.PrintWords
set_option linter.unusedSimpArgs false
set_option linter.unusedVariables false

/-- What each law gives. -/
def SaysTrue (w : World) (e : Ending) (w' : World) : Prop := e = .returned (.bool true) ∧ Below w.heap.size w w'

theorem not_le_big {n : Nat} (h : ¬ (2147483647 : Int) < (n : Int)) : n ≤ 2147483647 := by omega

theorem rks_of {rs : List P.S42} (h : rs.length ≤ 30 ∧ ∀ r ∈ rs, Rk r) : Rks rs := ⟨by omega, h.2⟩

theorem addr_text (nm port : ByteArray) : ((nm ++ (⟨#[58]⟩ : ByteArray)) ++ port) = MK (BL nm ++ [58] ++ BL port) := by
  apply eq_of_BL
  rw [BL_append, BL_append]

theorem bel_drawn {w w1 w2 : World} (h : Below w.heap.size w w1) (k : Drawn0 w1 w2) : Below w.heap.size w w2 := by
  obtain ⟨n, rfl⟩ := k
  exact pw_below_drewN h n

theorem local_eq (nm : ByteArray) : (nm.toList == [108, 111, 99, 97, 108, 104, 111, 115, 116]) = (BL nm == [108, 111, 99, 97, 108, 104, 111, 115, 116]) := by rw [toList_BL]

set_option maxRecDepth 100000 in
set_option maxHeartbeats 1000000 in
theorem fnUseName_calls (p4 p6 : Addr) (A : Option Addr) (c : Nat) (rs : List P.S42) (nm port : ByteArray) (w : World) (G : GW p4 p6 w) (hc : rs.length ≤ c) (hA : Kd.C P.k42 w A rs.length rs) :
    Calls Tryz.prog 8 #[.slice A rs.length c, .string nm, .string port] w (SaysTrue w) := by
  obtain ⟨kf, bf, hf, ef⟩ := fits2_ev rs
  have HF := Aside0.mk (P.laws_zzFits2.calls kf A c rs bf w hA hc hf)
  clear hf
  cases bf with
  | false =>
    clear hA
    go_enter Tryz.func8, Tryz.ntmps8
    go_wp2_with fail
    refine HF.out.mono ?_
    rintro e w1 ⟨rfl, b1⟩
    go_wp2_with fail
    go_ret
    exact ⟨rfl, b1⟩
  | true =>
  obtain ⟨lenR, fitR⟩ := ef rfl
  by_cases c1 : 2147483647 < nm.size
  · have d1 : decide ((2147483647 : Int) < (nm.size : Int)) = true := decide_eq_true (by omega)
    clear hA ef fitR c1
    go_enter Tryz.func8, Tryz.ntmps8
    go_wp2_with fail
    refine HF.out.mono ?_
    rintro e w1 ⟨rfl, b1⟩
    go_wp2_with fail
    go_ret
    exact ⟨rfl, b1⟩
  have d1 : decide ((2147483647 : Int) < (nm.size : Int)) = false := decide_eq_false (by omega)
  by_cases c2 : 2147483647 < port.size
  · have d2 : decide ((2147483647 : Int) < (port.size : Int)) = true := decide_eq_true (by omega)
    clear hA ef fitR c1 c2
    go_enter Tryz.func8, Tryz.ntmps8
    go_wp2_with fail
    refine HF.out.mono ?_
    rintro e w1 ⟨rfl, b1⟩
    go_wp2_with fail
    go_ret
    exact ⟨rfl, b1⟩
  have d2 : decide ((2147483647 : Int) < (port.size : Int)) = false := decide_eq_false (by omega)
  obtain ⟨br, er, hr⟩ := areRules_ev rs fitR lenR
  obtain ⟨kr, er⟩ := er.at
  obtain ⟨bn, en, hn⟩ := isName_ev nm (by omega)
  obtain ⟨kn, en⟩ := en.at
  obtain ⟨bp, ep, hp⟩ := isPort_ev port (by omega)
  obtain ⟨kp, ep⟩ := ep.at
  have HR := fun w' hb => Aside0.mk (P.spec_AreRules.calls kr A c rs br w' (Kd.C_below hA hb) hc er)
  have HN := fun w' => Aside0.mk (P.spec_IsName.calls kn nm bn w' en)
  have HP := fun w' => Aside0.mk (P.spec_IsPort.calls kp port bp w' ep)
  have HA := Aside0.mk hA
  have ER := Aside0.mk hr
  have EN := Aside0.mk hn
  have EP := Aside0.mk hp
  clear hA ef fitR c1 c2 er en ep hr hn hp
  cases br with
  | false =>
    go_enter Tryz.func8, Tryz.ntmps8
    go_wp2_with fail
    refine HF.out.mono ?_
    rintro e w1 ⟨rfl, b1⟩
    go_wp2_with fail
    refine (HR w1 b1).out.mono ?_
    rintro e w2 ⟨rfl, b2⟩
    have b2 := bel_then b1 b2
    go_wp2_with fail
    refine (works_calls p4 p6 _ (G.below b2)).mono ?_
    rintro e w3 ⟨rfl, b3⟩
    have b3 := bel_then b2 b3
    go_wp2_with fail
    go_ret
    exact ⟨rfl, b3⟩
  | true =>
  go_enter Tryz.func8, Tryz.ntmps8
  go_wp2_with fail
  refine HF.out.mono ?_
  rintro e w1 ⟨rfl, b1⟩
  go_wp2_with fail
  refine (HR w1 b1).out.mono ?_
  rintro e w2 ⟨rfl, b2⟩
  have b2 := bel_then b1 b2
  go_wp2_with fail
  refine (HN _).out.mono ?_
  rintro e w3 ⟨rfl, hw3⟩
  have b3 := bel_drawn b2 hw3
  clear hw3 b1 b2
  cases bn with
  | false =>
    go_wp2_with fail
    refine (works_calls p4 p6 _ (G.below b3)).mono ?_
    rintro e wk ⟨rfl, bk⟩
    have bk := bel_then b3 bk
    go_wp2_with fail
    go_ret
    exact ⟨rfl, bk⟩
  | true =>
  go_wp2_with fail
  refine (HP _).out.mono ?_
  rintro e w4 ⟨rfl, hw4⟩
  have b4 := bel_drawn b3 hw4
  clear hw4 b3
  cases bp with
  | false =>
    go_wp2_with fail
    refine (works_calls p4 p6 _ (G.below b4)).mono ?_
    rintro e wk ⟨rfl, bk⟩
    have bk := bel_then b4 bk
    go_wp2_with fail
    go_ret
    exact ⟨rfl, bk⟩
  | true =>
  have hN := EN.out (by simp)
  have hP := EP.out (by simp)
  have hK := rks_of (ER.out (by simp))
  have US := fun w' G => Aside0.mk (by
    have := uses_rules p4 p6 w' (joinB ⟨#[44]⟩ (rs.map ruleText)) rs (BL nm) (BL port) G (listed_plain rs hK) hN hP
    rw [← addr_text, MK_BL, MK_BL] at this
    exact this)
  have LT := fun w' hb => Aside0.mk (listText_calls p4 p6 rs ⟨#[44]⟩ A c w' (G.below hb) (fun r hr => (hK.2 r hr).small) (by have := hK.1; omega) (by decide) hc (Kd.C_below HA.out hb))
  have hns : nm.size ≤ 100 := by have := hN.len; rw [BL_size] at this; exact this
  have hps : port.size ≤ 5 := by have := hP.five; rw [BL_size] at this; exact this
  have hz : (nm ++ (⟨#[58]⟩ : ByteArray)).size = nm.size + 1 := ByteArray.size_append
  have HKs := Aside0.mk hK
  clear hN hP hK
  cases hloc : (nm.toList == [108, 111, 99, 97, 108, 104, 111, 115, 116]) with
  | true =>
    go_wp2_with fail
    refine (works_calls p4 p6 _ (G.below b4)).mono ?_
    rintro e w5 ⟨rfl, b5⟩
    have b5 := bel_then b4 b5
    go_wp2_with fail
    refine (LT _ b5).out.mono ?_
    rintro e w6 ⟨rfl, b6⟩
    have b6 := bel_then b5 b6
    go_wp2_with fail
    have U6 := (US w6 (G.below b6)).out
    rw [← local_eq, hloc] at U6
    refine U6.mono ?_
    rintro e w7 ⟨rfl, b7⟩
    have b7 := bel_then b6 b7
    go_wp2_with fail
    go_ret
    exact ⟨ret_bool (by simp), b7⟩
  | false =>
    obtain ⟨ka, hany⟩ := anyName_eq rs HKs.out nm port (by omega)
    rw [show mok nm port none = mok (MK (BL nm)) (MK (BL port)) none by rw [MK_BL, MK_BL]] at hany
    generalize hval : ((lists (effsOf rs) [] []).2.any (mok (MK (BL nm)) (MK (BL port)) none)) = val at hany
    have HAN := fun w' hb => Aside0.mk (P.spec_AnyName.calls ka A c rs nm port val w' (Kd.C_below HA.out hb) hc hany)
    have HVAL := Aside0.mk hval
    clear hany hval
    go_wp2_with fail
    refine (HAN _ b4).out.mono ?_
    rintro e w4' ⟨rfl, b4'⟩
    have b4' := bel_then b4 b4'
    go_wp2_with fail
    refine (works_calls p4 p6 _ (G.below b4')).mono ?_
    rintro e w5 ⟨rfl, b5⟩
    have b5 := bel_then b4' b5
    go_wp2_with fail
    refine (LT _ b5).out.mono ?_
    rintro e w6 ⟨rfl, b6⟩
    have b6 := bel_then b5 b6
    go_wp2_with fail
    have U6 := (US w6 (G.below b6)).out
    rw [← local_eq, hloc, ← MK_BL nm, ← MK_BL port, HVAL.out] at U6
    refine U6.mono ?_
    rintro e w7 ⟨rfl, b7⟩
    have b7 := bel_then b6 b7
    go_wp2_with fail
    go_ret
    exact ⟨ret_bool (by simp), b7⟩
end Go.Proofs.YtnchgmjeoajmiaaGreatDoor

/-! Textj -/
namespace Go.Proofs.YtnchgmjeoajmiaaGreatDoor
open Go.RowKit Go.Proofs.YtnchgmjeoajmiaaGreatDoorW.PrintWords
set_option linter.unusedSimpArgs false
set_option linter.unusedVariables false

theorem joinL_append (sep : List UInt8) (xs ys : List (List UInt8)) (hx : xs ≠ []) (hy : ys ≠ []) : joinL sep (xs ++ ys) = joinL sep xs ++ sep ++ joinL sep ys := by
  cases xs with
  | nil => exact absurd rfl hx
  | cons x xs =>
    cases ys with
    | nil => exact absurd rfl hy
    | cons y ys => simp [joinL]

theorem joinB_append (sep : ByteArray) (xs ys : List ByteArray) (hx : xs ≠ []) (hy : ys ≠ []) : joinB sep (xs ++ ys) = (joinB sep xs ++ sep) ++ joinB sep ys := by
  apply eq_of_BL
  rw [BL_append, BL_append]
  unfold joinB
  simp only [BL_MK]
  rw [List.map_append, joinL_append _ _ _ (by simpa using hx) (by simpa using hy)]

theorem joinB_len (sep : ByteArray) (rs : List P.S42) (h : ∀ r ∈ rs, Rk r) (hs : sep.size ≤ 100) : (joinB sep (rs.map ruleText)).size ≤ rs.length * 2110 := by
  have := joinL_len (BL sep) ((rs.map ruleText).map BL) 2010 (fun x hx => by
    rw [List.map_map] at hx
    obtain ⟨r, hr, rfl⟩ := List.mem_map.1 hx
    exact ruleText_len (h r hr))
  unfold joinB
  rw [MK_size]
  have e : (BL sep).length = sep.size := BL_size sep
  rw [e, List.length_map, List.length_map] at this
  exact Nat.le_trans this (Nat.mul_le_mul_left _ (by omega))

theorem Rks.append {a b : List P.S42} (ha : a.length ≤ 30 ∧ ∀ r ∈ a, Rk r) (hb : b.length ≤ 30 ∧ ∀ r ∈ b, Rk r) : Rks (a ++ b) := by
  refine ⟨by rw [List.length_append]; omega, fun r hr => ?_⟩
  rcases List.mem_append.1 hr with h | h
  · exact ha.2 r h
  · exact hb.2 r h

/-- What the lists say of a name, rule by rule. -/
theorem anyN_eq (rs : List P.S42) (h p : ByteArray) : (lists (effsOf rs) [] []).2.any (mok h p none) = rs.any (fun r => sayN h p (eff r)) := by
  rw [any_names]
  unfold effsOf
  split
  · rename_i e; subst e; rfl
  · rw [List.any_map]; rfl
theorem anyN_append (a b : List P.S42) (h p : ByteArray) : (lists (effsOf (a ++ b)) [] []).2.any (mok h p none) = ((lists (effsOf a) [] []).2.any (mok h p none) || (lists (effsOf b) [] []).2.any (mok h p none)) := by
  rw [anyN_eq, anyN_eq, anyN_eq, List.any_append]
theorem anyN_reverse (a : List P.S42) (h p : ByteArray) : (lists (effsOf a.reverse) [] []).2.any (mok h p none) = (lists (effsOf a) [] []).2.any (mok h p none) := by
  rw [anyN_eq, anyN_eq, List.any_reverse]

/-- Two lists with a comma between them. -/
theorem listed_two (a b : List P.S42) (ha : a.length ≤ 30 ∧ ∀ r ∈ a, Rk r) (hb : b.length ≤ 30 ∧ ∀ r ∈ b, Rk r) (na : a ≠ []) (nb : b ≠ []) :
    Listed ((joinB ⟨#[44]⟩ (a.map ruleText) ++ (⟨#[44]⟩ : ByteArray)) ++ joinB ⟨#[44]⟩ (b.map ruleText)) (effsOf (a ++ b)) := by
  have := listed_plain (a ++ b) (Rks.append ha hb)
  rw [List.map_append, joinB_append _ _ _ (by simpa using na) (by simpa using nb)] at this
  exact this

/-- Spaces beside commas, and about the list. -/
theorem joinL_spaced (a b s : List UInt8) : ∀ (xs : List (List UInt8)), xs ≠ [] → a ++ joinL (b ++ s ++ a) xs ++ b = joinL s (xs.map fun x => a ++ x ++ b)
  | [], h => absurd rfl h
  | [x], _ => by simp [joinL]
  | x :: y :: t, _ => by
    have ih := joinL_spaced a b s (y :: t) (by simp)
    have e1 : joinL (b ++ s ++ a) (x :: y :: t) = x ++ (b ++ s ++ a) ++ joinL (b ++ s ++ a) (y :: t) := by simp [joinL]
    have e2 : joinL s ((x :: y :: t).map fun x => a ++ x ++ b) = (a ++ x ++ b) ++ s ++ joinL s ((y :: t).map fun x => a ++ x ++ b) := by simp [joinL]
    rw [e1, e2, ← ih]
    simp

theorem sps1 : Sps [32] := fun x hx => by simpa using hx
theorem listed_spaced (rs : List P.S42) (hr : Rks rs) : Listed (((⟨#[32]⟩ : ByteArray) ++ joinB ⟨#[32, 44, 32]⟩ (rs.map ruleText)) ++ (⟨#[32]⟩ : ByteArray)) (effsOf rs) := by
  have := listed_rules rs hr [32] [32] id sps1 sps1 (by simp) (by simp) (fun x hx => ⟨hx.1, hx.2.1, hx.2.2.1, by
    have := lower_map (q := [x]) (fun b hb => by simp at hb; subst hb; exact hx.2.2.2)
    simpa using this⟩)
  have e : ((⟨#[32]⟩ : ByteArray) ++ joinB ⟨#[32, 44, 32]⟩ (rs.map ruleText)) ++ (⟨#[32]⟩ : ByteArray) = MK (if rs = [] then [32] ++ [32] else joinL [44] (rs.map fun r => [32] ++ (BL (ruleText r)).map id ++ [32])) := by
    apply eq_of_BL
    rw [BL_append, BL_append, BL_MK]
    unfold joinB
    simp only [BL_MK]
    split
    · rename_i h; subst h; rfl
    · rename_i h
      have := joinL_spaced [32] [32] [44] ((rs.map ruleText).map BL) (by simpa using h)
      rw [List.map_map, List.map_map] at this
      rw [List.map_map]
      simp only [List.map_id]
      exact this
  rw [e]
  exact this

/-! ### Capitals -/
def upperB (b : UInt8) : UInt8 := if 97 ≤ b.toNat ∧ b.toNat ≤ 122 then b - 97 + 65 else b
def upperT (s : ByteArray) : ByteArray := MK ((BL s).map upperB)
theorem upper_all : ∀ i : Fin 256, ¬ (65 ≤ i.val ∧ i.val ≤ 90) → 32 < i.val → i.val < 128 → i.val ≠ 44 →
    32 < (upperB (UInt8.ofNat i.val)).toNat ∧ (upperB (UInt8.ofNat i.val)).toNat < 128 ∧ (upperB (UInt8.ofNat i.val)).toNat ≠ 44 ∧ Lib.lowerB (upperB (UInt8.ofNat i.val)) = UInt8.ofNat i.val := by decide +kernel
theorem upper_ok (x : UInt8) (hx : RuleB x) : 32 < (upperB x).toNat ∧ (upperB x).toNat < 128 ∧ (upperB x).toNat ≠ 44 ∧ Lib.lowerB (upperB x) = x := by
  have := upper_all ⟨x.toNat, x.toNat_lt⟩ hx.2.2.2 hx.1 hx.2.1 hx.2.2.1
  simpa using this
theorem upper_host : ∀ i : Fin 256, (97 ≤ i.val ∧ i.val ≤ 122) ∨ (48 ≤ i.val ∧ i.val ≤ 57) ∨ i.val = 45 ∨ i.val = 46 →
    (32 < (upperB (UInt8.ofNat i.val)).toNat ∧ (upperB (UInt8.ofNat i.val)).toNat < 128 ∧ (upperB (UInt8.ofNat i.val)).toNat ≠ 58 ∧ (upperB (UInt8.ofNat i.val)).toNat ≠ 91 ∧ (upperB (UInt8.ofNat i.val)).toNat ≠ 93 ∧ (upperB (UInt8.ofNat i.val)).toNat ≠ 37) ∧ (upperB (UInt8.ofNat i.val)).toNat ≠ 108 ∧ Lib.lowerB (upperB (UInt8.ofNat i.val)) = UInt8.ofNat i.val ∧ (97 ≤ i.val → ¬ (48 ≤ (upperB (UInt8.ofNat i.val)).toNat ∧ (upperB (UInt8.ofNat i.val)).toNat ≤ 57)) := by decide +kernel

theorem joinL_map (g : UInt8 → UInt8) (sep : List UInt8) (xs : List (List UInt8)) : (joinL sep xs).map g = joinL (sep.map g) (xs.map (·.map g)) := by
  cases xs with
  | nil => rfl
  | cons x t =>
    simp only [joinL, List.map_append, List.map_cons, List.map_flatten, List.map_map]
    congr 2
    exact List.map_congr_left fun y _ => by simp

theorem listed_upper (rs : List P.S42) (hr : Rks rs) : Listed (upperT (joinB ⟨#[44]⟩ (rs.map ruleText))) (effsOf rs) := by
  have := listed_rules rs hr [] [] upperB (fun x hx => by cases hx) (fun x hx => by cases hx) (by simp) (by simp) upper_ok
  have e : upperT (joinB ⟨#[44]⟩ (rs.map ruleText)) = MK (if rs = [] then [] ++ [] else joinL [44] (rs.map fun r => [] ++ (BL (ruleText r)).map upperB ++ [])) := by
    unfold upperT joinB
    simp only [BL_MK]
    split
    · rename_i h; subst h; rfl
    · rw [joinL_map, List.map_map, List.map_map]
      simp only [List.nil_append, List.append_nil]
      rfl
  rw [e]
  exact this

theorem Nm.upper_addr {nm p : List UInt8} (h : Nm nm) (hp : Pt p) : NameAddr (MK (nm.map upperB ++ [58] ++ p)) (MK (nm.map upperB)) (MK p) (MK nm) := by
  have hall : ∀ b ∈ nm, _ := fun b hb => upper_host ⟨b.toNat, b.toNat_lt⟩ (h.all b hb)
  simp only [UInt8.ofNat_toNat] at hall
  refine nameAddr_of (by simpa using h.ne) (by have := h.len; rw [List.length_map]; omega) (fun b hb => ?_) ?_ ?_ hp
  · obtain ⟨x, hx, rfl⟩ := List.mem_map.1 hb
    exact (hall x hx).1
  · obtain ⟨x, t, e, h1, h2⟩ := h.head
    have hx := hall x (by rw [e]; exact List.mem_cons_self)
    rw [e, List.map_cons, MK_first rfl]
    have := hx.2.2.2 h1
    omega
  · rw [List.map_map]
    conv => rhs; rw [← List.map_id nm]
    exact List.map_congr_left fun y hy => (hall y hy).2.2.1

theorem Nm.upper_local {nm : List UInt8} (h : Nm nm) : (MK (nm.map upperB)).toList ≠ [108, 111, 99, 97, 108, 104, 111, 115, 116] := by
  rw [toList_MK]
  obtain ⟨x, t, e, h1, h2⟩ := h.head
  have hx := upper_host ⟨x.toNat, x.toNat_lt⟩ (h.all x (by rw [e]; exact List.mem_cons_self))
  simp only [UInt8.ofNat_toNat] at hx
  rw [e, List.map_cons]
  intro k
  injection k with k _
  exact hx.2.1 (by rw [k]; rfl)

/-- A request to a name in capitals. -/
theorem uses_upper (p4 p6 : Addr) (w : World) (no : ByteArray) (rs : List P.S42) (nm p : List UInt8) (G : GW p4 p6 w) (hl : Listed no (effsOf rs)) (hn : Nm nm) (hp : Pt p) :
    Calls Tryz.prog 24 #[.string no, .string (MK (nm.map upperB ++ [58] ++ p))] w fun e w' => e = .returned (.bool (!((lists (effsOf rs) [] []).2.any (mok (MK nm) (MK p) none)))) ∧ Below w.heap.size w w' :=
  uses_name p4 p6 no (effsOf rs) w _ (MK (nm.map upperB)) (MK p) (MK nm) G hl (hn.upper_addr hp) hn.upper_local
end Go.Proofs.YtnchgmjeoajmiaaGreatDoor

/-! Says -/
namespace Go.Proofs.YtnchgmjeoajmiaaGreatDoor
open Go.RowKit Go.Proofs.YtnchgmjeoajmiaaGreatDoorW.PrintWords
set_option linter.unusedSimpArgs false
set_option linter.unusedVariables false

/-- Whether a request to a name and a port goes through the proxy, by rules. -/
def says (rs : List P.S42) (nm port : ByteArray) : Bool := !(nm.toList == [108, 111, 99, 97, 108, 104, 111, 115, 116]) && !((lists (effsOf rs) [] []).2.any (mok nm port none))
theorem says_append (a b : List P.S42) (nm port : ByteArray) : says (a ++ b) nm port = (says a nm port && says b nm port) := by
  unfold says
  rw [anyN_append]
  generalize (lists (effsOf a) [] []).2.any (mok nm port none) = x
  generalize (lists (effsOf b) [] []).2.any (mok nm port none) = y
  generalize (nm.toList == [108, 111, 99, 97, 108, 104, 111, 115, 116]) = z
  cases x <;> cases y <;> cases z <;> rfl
theorem says_reverse (a : List P.S42) (nm port : ByteArray) : says a.reverse nm port = says a nm port := by
  unfold says
  rw [anyN_reverse]

theorem uses_text (p4 p6 : Addr) (w : World) (no : ByteArray) (rs : List P.S42) (nm port : ByteArray) (G : GW p4 p6 w) (hl : Listed no (effsOf rs)) (hn : Nm (BL nm)) (hp : Pt (BL port)) :
    Calls Tryz.prog 24 #[.string no, .string ((nm ++ (⟨#[58]⟩ : ByteArray)) ++ port)] w fun e w' => e = .returned (.bool (says rs nm port)) ∧ Below w.heap.size w w' := by
  have := uses_rules p4 p6 w no rs (BL nm) (BL port) G hl hn hp
  rw [← addr_text, MK_BL, MK_BL, ← local_eq] at this
  exact this

theorem uses_text_upper (p4 p6 : Addr) (w : World) (no : ByteArray) (rs : List P.S42) (nm port : ByteArray) (G : GW p4 p6 w) (hl : Listed no (effsOf rs)) (hn : Nm (BL nm)) (hp : Pt (BL port)) (hloc : (nm.toList == [108, 111, 99, 97, 108, 104, 111, 115, 116]) = false) :
    Calls Tryz.prog 24 #[.string no, .string ((upperT nm ++ (⟨#[58]⟩ : ByteArray)) ++ port)] w fun e w' => e = .returned (.bool (says rs nm port)) ∧ Below w.heap.size w w' := by
  have := uses_upper p4 p6 w no rs (BL nm) (BL port) G hl hn hp
  rw [show says rs nm port = !((lists (effsOf rs) [] []).2.any (mok nm port none)) by unfold says; rw [hloc]; rfl]
  rw [MK_BL, MK_BL] at this
  rw [addr_text, show BL (upperT nm) = (BL nm).map upperB from rfl]
  exact this

theorem upperT_size (s : ByteArray) : (upperT s).size = s.size := by
  unfold upperT
  rw [MK_size, List.length_map, BL_size]
end Go.Proofs.YtnchgmjeoajmiaaGreatDoor

/-! Turned -/
namespace Go.Proofs.YtnchgmjeoajmiaaGreatDoor
open Go.RowKit Go.Proofs.YtnchgmjeoajmiaaGreatDoorW.PrintWords
set_option linter.unusedSimpArgs false
set_option linter.unusedVariables false

theorem info42 : (Tryz.prog.info? 42).map (fun i => (i.zero, i.size, i.bytes)) = some (some (.agg #[.int .i64 0, .string ByteArray.empty, .slice none 0 0, .int .i64 0, .string ByteArray.empty]), 5, 72) := by kernel_rfl

/-- Rules laid as cells in a world, in a row of the call's own. -/
abbrev OwnR (W : World) (w : World) (v : Value) (rs : List P.S42) : Prop := OwnRow (fun x cs => P.k42.K W x cs) 42 5 w W.heap.size v rs
theorem OwnR.calls {W w : World} {v : Value} {rs : List P.S42} (h : OwnR W w v rs) (hb : Below W.heap.size W w) : ∃ A c, v = .slice A rs.length c ∧ rs.length ≤ c ∧ Kd.C P.k42 w A rs.length rs := by
  obtain ⟨A, c, e, hc, hr⟩ := OwnRow.reads h
  exact ⟨A, c, e, hc, hr.imp_ (Below.refl _ _) (fun _ _ hp => P.k42.K_below hb hp)⟩

set_option maxRecDepth 100000 in
set_option maxHeartbeats 1000000 in
theorem turned_calls (rs : List P.S42) (A : Option Addr) (c : Nat) (w : World) (hl : rs.length ≤ 200) (hc : rs.length ≤ c) (hA : Kd.C P.k42 w A rs.length rs) :
    Calls Tryz.prog 29 #[.slice A rs.length c] w fun e w' => ∃ A2 c2, e = .returned (.slice A2 rs.reverse.length c2) ∧ rs.reverse.length ≤ c2 ∧ Kd.C P.k42 w' A2 rs.reverse.length rs.reverse ∧ Below w.heap.size w w' := by
  have HA := Aside0.mk hA
  clear hA
  have e0 : wrap64 ((rs.length : Int) - 1) = (rs.length : Int) - 1 := by unfold wrap64; omega
  go_enter Tryz.func29, Tryz.ntmps29
  go_wp2
  go_loopg [3, 4] rs.length (fun kq v3 v4 w' => v4 = .int .i64 ((kq : Int) - 1) ∧ Aside0 (kq ≤ rs.length ∧ OwnR w w' v3 (rs.drop kq).reverse ∧ Below w.heap.size w w'))
  case atStart => exact ⟨rfl, Aside0.mk ⟨Nat.le_refl _, by rw [List.drop_length]; exact OwnRow.lit (ps := []) w w.heap.size (Reps.none _ _) (Nat.le_refl _) (by decide), by go_grown⟩⟩
  case round =>
    obtain ⟨rfl, HI⟩ := hrel
    have hle := HI.out.1
    rcases Nat.eq_zero_or_pos gk with h0 | h0
    · subst h0
      have HF := Aside0.mk (show OwnR w wr _ rs.reverse by have := HI.out.2.1; rw [List.drop_zero] at this; exact this)
      obtain ⟨A2, c2, e2, hc2, hC2⟩ := HF.out.calls HI.out.2.2
      have HC2 := Aside0.mk hC2
      clear hC2
      go_wp2
      go_ret
      subst e2
      exact ⟨A2, c2, rfl, hc2, HC2.out, HI.out.2.2⟩
    · obtain ⟨q, rfl⟩ : ∃ q, gk = q + 1 := ⟨gk - 1, by omega⟩
      have hq : q < rs.length := by omega
      have hcast : (((q + 1 : Nat) : Int) - 1) = (q : Int) := by omega
      rw [hcast]
      obtain ⟨ad, A2, c2, e, x0, x1, x2, x3, x4, hl2, hi2⟩ := P.at_T42 HA.out (q : Int) (by omega) (by omega)
      cases e
      have hr : P.rd_T42 rs (q : Int) = rs[q]'hq := by simp [P.rd_T42, hq]
      have HTK := Aside0.mk (show (rs.drop q).reverse = (rs.drop (q + 1)).reverse ++ [rs[q]'hq] by rw [List.drop_eq_getElem_cons hq, List.reverse_cons])
      simp only [Int.toNat_natCast] at x0 x1 x2 x3 x4
      rw [hr] at x0 x1 x2 x3 x4 hl2 hi2
      generalize rs[q]'hq = r at *
      have HB := Aside0.mk HI.out.2.2
      replace x0 := cell_on HB.out x0
      replace x1 := cell_on HB.out x1
      replace x2 := cell_on HB.out x2
      replace x3 := cell_on HB.out x3
      replace x4 := cell_on HB.out x4
      have HK := Aside0.mk (P.k42_mk w r hl2 hi2)
      clear hi2 hl2 hr
      have p0 : (0 : Int) ≤ (q : Int) := by omega
      have p1 : (q : Int) < (rs.length : Int) := by omega
      have p2 : wrap64 ((q : Int) - 1) = (q : Int) - 1 := by unfold wrap64; omega
      go_wp2_with (at_builtin; refine OwnRow.append (R := fun x cs => P.k42.K w x cs) (w0 := w) w.heap.size rfl (.tmp 13) (.tmp 18) 30 42 _ 5 72 rfl Tryz.underlying30 info42 rfl (by decide) (by decide) _ (rs.drop (q + 1)).reverse r [.int .i64 r.f0, .string r.f1, .slice A2 r.f2.length c2, .int .i64 r.f3, .string r.f4] rfl rfl HK.out rfl (by simp [Value.oneCell']) HI.out.2.1 HB.out HB.out.size (by rw [List.length_reverse, List.length_drop]; omega) ?_)
      intro vn wn hn1 hn2 hn3 hn4
      have HN1 := Aside0.mk hn1
      have HN2 := Aside0.mk hn2
      clear hn1 hn2 hn3 hn4
      go_wp2_with fail
      go_roundg q
      case measure => omega
      case rel => exact ⟨rfl, Aside0.mk ⟨by omega, by rw [HTK.out]; exact HN1.out, HN2.out⟩⟩

theorem turned_list (rs : List P.S42) (A : Option Addr) (c : Nat) (w : World) (hl : rs.length ≤ 200) (hc : rs.length ≤ c) (hA : Kd.C P.k42 w A rs.length rs) :
    Calls Tryz.prog 29 #[.slice A rs.length c] w fun e w' => ∃ A2 c2, e = .returned (.slice A2 rs.length c2) ∧ rs.length ≤ c2 ∧ Kd.C P.k42 w' A2 rs.length rs.reverse ∧ Below w.heap.size w w' := by
  have := turned_calls rs A c w hl hc hA
  rw [List.length_reverse] at this
  exact this
theorem listText_turned (p4 p6 : Addr) (rs : List P.S42) (sep : ByteArray) (A : Option Addr) (c : Nat) (w : World) (G : GW p4 p6 w) (hs : ∀ r ∈ rs.reverse, Small r) (hl : rs.length ≤ 200) (hsep : sep.size ≤ 100) (hc : rs.length ≤ c) (hA : Kd.C P.k42 w A rs.length rs.reverse) :
    Calls Tryz.prog 25 #[.slice A rs.length c, .string sep] w fun e w' => e = .returned (.string (joinB sep (rs.reverse.map ruleText))) ∧ Below w.heap.size w w' := by
  have := listText_calls p4 p6 rs.reverse sep A c w G hs (by rw [List.length_reverse]; exact hl) hsep (by rw [List.length_reverse]; exact hc) (by rw [List.length_reverse]; exact hA)
  rw [List.length_reverse] at this
  exact this
end Go.Proofs.YtnchgmjeoajmiaaGreatDoor

/-! Laworder -/
namespace Go.Proofs.YtnchgmjeoajmiaaGreatDoor
open Go.RowKit Go.Proofs.YtnchgmjeoajmiaaGreatDoorW.PrintWords
set_option linter.unusedSimpArgs false
set_option linter.unusedVariables false

set_option maxRecDepth 100000 in
set_option maxHeartbeats 1000000 in
/-- Neither the order of rules nor spaces matter. -/
theorem fnUseOrder_calls (p4 p6 : Addr) (A_rs : Option Addr) (c_rs : Nat) (rs : List P.S42) (nm : ByteArray) (port : ByteArray) (w : World) (G : GW p4 p6 w) (hc_rs : rs.length ≤ c_rs) (hA_rs : Kd.C P.k42 w A_rs rs.length rs) :
    Calls Tryz.prog 9 #[.slice A_rs rs.length c_rs, .string nm, .string port] w (SaysTrue w) := by
  have b0 : Below w.heap.size w w := Below.refl _ _
  have HA_rs := Aside0.mk hA_rs
  clear hA_rs
  go_enter Tryz.func9, Tryz.ntmps9
  obtain ⟨kf_rs, bf_rs, hf_rs, ef_rs⟩ := fits2_ev rs
  have EF_rs := Aside0.mk ef_rs
  have HF_rs := Aside0.mk hf_rs
  clear ef_rs hf_rs
  go_wp2_with fail
  refine (P.laws_zzFits2.calls kf_rs A_rs c_rs rs bf_rs _ (Kd.C_below HA_rs.out b0) hc_rs HF_rs.out).mono ?_
  rintro e w1 ⟨rfl, c1⟩
  have b1 := bel_then b0 c1
  clear c1
  cases bf_rs with
  | false =>
    go_wp2_with fail
    go_ret
    exact ⟨rfl, b1⟩
  | true =>
  have len_rs := (EF_rs.out rfl).1
  have FIT_rs := Aside0.mk (EF_rs.out rfl).2
  cases d_nm : decide ((2147483647 : Int) < (nm.size : Int)) with
  | true =>
    go_wp2_with fail
    go_ret
    exact ⟨rfl, b1⟩
  | false =>
  have sz_nm : nm.size ≤ 2147483647 := not_le_big (of_decide_eq_false d_nm)
  cases d_port : decide ((2147483647 : Int) < (port.size : Int)) with
  | true =>
    go_wp2_with fail
    go_ret
    exact ⟨rfl, b1⟩
  | false =>
  have sz_port : port.size ≤ 2147483647 := not_le_big (of_decide_eq_false d_port)
  obtain ⟨br_rs, er_rs, hr_rs⟩ := areRules_ev rs FIT_rs.out len_rs
  obtain ⟨kr_rs, er_rs⟩ := er_rs.at
  have HE_rs := Aside0.mk er_rs
  have OK_rs := Aside0.mk hr_rs
  clear er_rs hr_rs
  go_wp2_with fail
  refine (P.spec_AreRules.calls kr_rs A_rs c_rs rs br_rs _ (Kd.C_below HA_rs.out b1) hc_rs HE_rs.out).mono ?_
  rintro e w2 ⟨rfl, c2⟩
  have b2 := bel_then b1 c2
  clear c2
  cases br_rs with
  | false =>
    go_wp2_with fail
    refine (works_calls p4 p6 _ (G.below b2)).mono ?_
    rintro e w3 ⟨rfl, c3⟩
    have b3 := bel_then b2 c3
    clear c3
    go_wp2_with fail
    go_ret
    exact ⟨rfl, b3⟩
  | true =>
  replace OK_rs := Aside0.mk (OK_rs.out rfl)
  obtain ⟨br_nm, er_nm, hr_nm⟩ := isName_ev nm sz_nm
  obtain ⟨kr_nm, er_nm⟩ := er_nm.at
  have HE_nm := Aside0.mk er_nm
  have OK_nm := Aside0.mk hr_nm
  clear er_nm hr_nm
  go_wp2_with fail
  refine (P.spec_IsName.calls kr_nm nm br_nm _ HE_nm.out).mono ?_
  rintro e w3 ⟨rfl, c3⟩
  have b3 := bel_drawn b2 c3
  clear c3
  cases br_nm with
  | false =>
    go_wp2_with fail
    refine (works_calls p4 p6 _ (G.below b3)).mono ?_
    rintro e w4 ⟨rfl, c4⟩
    have b4 := bel_then b3 c4
    clear c4
    go_wp2_with fail
    go_ret
    exact ⟨rfl, b4⟩
  | true =>
  replace OK_nm := Aside0.mk (OK_nm.out rfl)
  obtain ⟨br_port, er_port, hr_port⟩ := isPort_ev port sz_port
  obtain ⟨kr_port, er_port⟩ := er_port.at
  have HE_port := Aside0.mk er_port
  have OK_port := Aside0.mk hr_port
  clear er_port hr_port
  go_wp2_with fail
  refine (P.spec_IsPort.calls kr_port port br_port _ HE_port.out).mono ?_
  rintro e w4 ⟨rfl, c4⟩
  have b4 := bel_drawn b3 c4
  clear c4
  cases br_port with
  | false =>
    go_wp2_with fail
    refine (works_calls p4 p6 _ (G.below b4)).mono ?_
    rintro e w5 ⟨rfl, c5⟩
    have b5 := bel_then b4 c5
    clear c5
    go_wp2_with fail
    go_ret
    exact ⟨rfl, b5⟩
  | true =>
  replace OK_port := Aside0.mk (OK_port.out rfl)
  have hns : nm.size ≤ 100 := by have := OK_nm.out.len; rw [BL_size] at this; exact this
  have hps : port.size ≤ 5 := by have := OK_port.out.five; rw [BL_size] at this; exact this
  have hz : (nm ++ (⟨#[58]⟩ : ByteArray)).size = nm.size + 1 := ByteArray.size_append
  have LT_rs := fun w' hb => Aside0.mk (listText_calls p4 p6 rs ⟨#[44]⟩ A_rs c_rs w' (G.below hb) (fun r hr => (OK_rs.out.2 r hr).small) (by have := OK_rs.out.1; omega) (by decide) hc_rs (Kd.C_below HA_rs.out hb))
  have LS_rs := fun w' hb => Aside0.mk (listText_calls p4 p6 rs ⟨#[32, 44, 32]⟩ A_rs c_rs w' (G.below hb) (fun r hr => (OK_rs.out.2 r hr).small) (by have := OK_rs.out.1; omega) (by decide) hc_rs (Kd.C_below HA_rs.out hb))
  have HRR := Aside0.mk (show ∀ r ∈ rs.reverse, Rk r from fun r hr => OK_rs.out.2 r (List.mem_reverse.1 hr))
  have KRR := Aside0.mk (show Rks rs.reverse from ⟨by rw [List.length_reverse]; have := OK_rs.out.1; omega, HRR.out⟩)
  have U1 := fun w' g => Aside0.mk (uses_text p4 p6 w' _ rs nm port g (listed_plain rs (rks_of OK_rs.out)) OK_nm.out OK_port.out)
  have U2 := fun w' g => Aside0.mk (uses_text p4 p6 w' _ rs.reverse nm port g (listed_plain rs.reverse KRR.out) OK_nm.out OK_port.out)
  rw [says_reverse] at U2
  have U3 := fun w' g => Aside0.mk (uses_text p4 p6 w' _ rs nm port g (listed_spaced rs (rks_of OK_rs.out)) OK_nm.out OK_port.out)
  have s3 := joinB_len ⟨#[32, 44, 32]⟩ rs OK_rs.out.2 (by decide)
  have l1 := OK_rs.out.1
  have LR := fun A c w' hb hc hA => Aside0.mk (listText_turned p4 p6 rs ⟨#[44]⟩ A c w' (G.below hb) (fun r hr => (HRR.out r hr).small) (by omega) (by decide) hc hA)
  generalize joinB ⟨#[44]⟩ (rs.map ruleText) = t at *
  generalize joinB ⟨#[44]⟩ (rs.reverse.map ruleText) = tr at *
  generalize joinB ⟨#[32, 44, 32]⟩ (rs.map ruleText) = ts at *
  have hz1 : ((⟨#[32]⟩ : ByteArray) ++ ts).size = 1 + ts.size := ByteArray.size_append
  generalize says rs nm port = v at *
  go_wp2_with fail
  refine ((LT_rs _ b4).out).mono ?_
  rintro e w5 ⟨rfl, c5⟩
  have b5 := bel_then b4 c5
  clear c5
  go_wp2_with fail
  refine ((U1 _ (G.below b5)).out).mono ?_
  rintro e w6 ⟨rfl, c6⟩
  have b6 := bel_then b5 c6
  clear c6
  go_wp2_with fail
  refine (works_calls p4 p6 _ (G.below b6)).mono ?_
  rintro e w7 ⟨rfl, c7⟩
  have b7 := bel_then b6 c7
  clear c7
  go_wp2_with fail
  refine (turned_list rs A_rs c_rs _ (by omega) hc_rs (Kd.C_below HA_rs.out b7)).mono ?_
  rintro e w8 ⟨A2, c2, rfl, hc2, hA2, c8⟩
  have b8 := bel_then b7 c8
  clear c8
  have HA2 := Aside0.mk hA2
  clear hA2
  go_wp2_with fail
  refine ((LR A2 c2 _ b8 hc2 HA2.out).out).mono ?_
  rintro e w9 ⟨rfl, c9⟩
  have b9 := bel_then b8 c9
  clear c9
  go_wp2_with fail
  refine ((U2 _ (G.below b9)).out).mono ?_
  rintro e w10 ⟨rfl, c10⟩
  have b10 := bel_then b9 c10
  clear c10
  go_wp2_with fail
  refine ((LS_rs _ b10).out).mono ?_
  rintro e w11 ⟨rfl, c11⟩
  have b11 := bel_then b10 c11
  clear c11
  go_wp2_with fail
  refine ((U3 _ (G.below b11)).out).mono ?_
  rintro e w12 ⟨rfl, c12⟩
  have b12 := bel_then b11 c12
  clear c12
  go_wp2_with fail
  go_ret
  exact ⟨ret_bool (by simp), b12⟩
end Go.Proofs.YtnchgmjeoajmiaaGreatDoor

/-! RowFnUseOrder -/
namespace Go.Proofs.YtnchgmjeoajmiaaGreatDoor
open Go.ChangeShapes Go.WideShapes Go.ChangeAt Go.RowKit
open Go.ChangeMaps (open_string shut_string)
set_option linter.unusedVariables false
set_option linter.unusedSimpArgs false
theorem fnUseOrder_own : ownKnob Tryz.prog.godebug = none := by kernel_rfl
theorem fnUseOrder_laidOut : laidOutB Tryz.prog = true := by kernel_rfl
set_option maxRecDepth 100000 in
theorem fnUseOrder_lifted (os : Os) (started : os.Started) (H : Type) (enc : TypeId × Value → H) :
    ReturnsInHanded {} Tryz.checked os 9 .any (fun w args => (Rows.fnUseOrderSpec.pre enc Tryz.prog Tryz.f9 Rows.fnUseOrderRow.domain false w args ∧ laidMetH Tryz.prog Rows.fnUseOrderRow.laid w) ∧ sizedMet enc Tryz.prog Tryz.f9 (OpenSpec.ofChange Rows.fnUseOrderSpec) false w args)
      (Rows.fnUseOrderSpec.post enc Tryz.prog Tryz.f9 false true false false) := by
  refine returnsInHanded_of_change_and (C := Tryz.checked) (X := fun w _ => laidMetH Tryz.prog Rows.fnUseOrderRow.laid w) (fun _ _ _ hh h => h.of_heap hh) fnUseOrder_own started (by kernel_rfl) Tryz.func9
    (ChangeSpec.witness_shaped (enc := enc) (C := Tryz.checked) (os := os) (X := fun w _ => laidMetH Tryz.prog Rows.fnUseOrderRow.laid w) false (World.laidAll Tryz.prog os Rows.fnUseOrderRow.laid) #[.slice none 0 0, .string ByteArray.empty, .string ByteArray.empty] 8 (World.laidAll_os _ _ _)
      (World.shaped_of_ZipB (by kernel_rfl) (by kernel_rfl)) (by kernel_rfl) (by kernel_rfl) (by kernel_rfl)
      (by rw [MakeChecks.laidMetH_plain _ _ _ (by kernel_rfl)]; exact laidMet_laidAll _ (by kernel_rfl) (by kernel_rfl))) ?_
  intro W base args ds gs before hval0 hW hcnd _ hL _
  have hval : ∀ (j : Nat) t v, Tryz.f9.params[j]? = some t → args[j]? = some v → Value.okWide Tryz.prog W .any base t v := hval0
  have hW' := hW
  obtain ⟨p, q, hA0, hV, rfl, hfz, hnd⟩ := hW
  have hA : DataW.TrodAll enc Tryz.prog W 0 (fun _ => true) true Tryz.f9.params.toList args.toList ds p := hA0
  rw [Tryz.params9] at hA hval
  obtain ⟨v0, vs0, d0, ds0, p0, q0, hargs, rfl, rfl, h0, r0⟩ := trodAll_cons hA
  obtain ⟨v1, vs1, d1, ds1, p1, q1, rfl, rfl, rfl, h1, r1⟩ := trodAll_cons r0
  obtain ⟨v2, vs2, d2, ds2, p2, q2, rfl, rfl, rfl, h2, r2⟩ := trodAll_cons r1
  obtain ⟨rfl, rfl, rfl⟩ := trodAll_nil r2
  obtain rfl : args = #[v0, v1, v2] := by cases args; simp_all
  obtain ⟨gd, rfl⟩ : ∃ gd, gs = [gd] := by
    have hn : gs.length = 1 := (show DataW.TrodVars enc Tryz.prog W (fun _ => true) Rows.fnUseOrderSpec.vars gs q → gs.length = 1 from fun h => by
      match gs, h with
      | [], h => exact h.elim
      | [_], _ => rfl
      | _ :: _ :: _, h =>
        obtain ⟨_, _, _, _, _, _, _, _, _, _, hr, _⟩ := h
        exact hr.elim) hV
    match gs, hn with
    | [gd], _ => exact ⟨gd, rfl⟩
  have k0 := h0
  have lt0 : ∀ x ∈ p0, x.block < W.heap.size := by obtain ⟨m, hm⟩ := k0; exact DataW.trod_lt m _ _ _ hm
  obtain ⟨ao0, ln0, cp0, rfl⟩ := okWide_slice Tryz.underlying30 (hval 0 30 v0 rfl rfl)
  obtain ⟨A0, c0, rs0, ev0, hc0, hC0⟩ : ∃ A c rs, (Value.slice ao0 ln0 cp0) = .slice A rs.length c ∧ rs.length ≤ c ∧ YtnchgmjeoajmiaaGreatDoorW.PrintWords.Kd.C P.k42 W A rs.length rs := by
    obtain ⟨fuel, hf⟩ := h0
    exact open_rules (by simpa [Value.cells] using hf)
  rw [ev0] at k0 hW' ⊢
  obtain ⟨a1, rfl, rfl, rfl, y1⟩ := open_string Tryz.underlying9 (hval 1 9 v1 rfl rfl) h1
  obtain ⟨a2, rfl, rfl, rfl, y2⟩ := open_string Tryz.underlying9 (hval 2 9 v2 rfl rfl) h2
  rw [MakeChecks.laidMetH_plain _ _ _ (by kernel_rfl)] at hL
  obtain ⟨p4, p6, G⟩ := gw_of hL (by simp [Rows.fnUseOrderRow]) (by simp [Rows.fnUseOrderRow]) (by simp [Rows.fnUseOrderRow]) (by simp [Rows.fnUseOrderRow]) (by simp [Rows.fnUseOrderRow])
  refine (fnUseOrder_calls p4 p6 A0 c0 rs0 a1 a2 W G hc0 hC0).mono fun e W' ⟨he, bel⟩ => ?_
  subst he
  exact ⟨_, rfl, _, _, _, [], _, _, hW', trodAll_mk1 (shut_bool Tryz.underlying4 _), (trodAll_cons_mk (Below.trod fnUseOrder_laidOut (by kernel_rfl) (of_decide_eq_true (by kernel_rfl)) k0 bel lt0) (trodAll_cons_mk (shut_string Tryz.underlying9 y1) (trodAll_cons_mk (shut_string Tryz.underlying9 y2) trodAll_mk0))), var_kept (t0 := 246) fnUseOrder_laidOut bel table_type (by kernel_rfl) (of_decide_eq_true (by kernel_rfl)) hV, bel.frame _, fun h => by cases h⟩
set_option maxRecDepth 1000000 in
theorem fnUseOrder_holds : Rows.FnUseOrderSaid :=
  OpenClaim.holds_of_wide 9 Tryz.f9 rfl rfl rfl rfl rfl rfl rfl ⟨rfl, rfl, rfl, rfl, rfl⟩ rfl rfl rfl rfl rfl (by kernel_rfl) Tryz.func9 (joined_of fnUseOrder_k0 fact_laid fact_maps fnUseOrder_k3 fnUseOrder_k4 fnUseOrder_k5 fnUseOrder_k6 fnUseOrder_k7 fnUseOrder_k8 fnUseOrder_k9 fnUseOrder_k10 fnUseOrder_k11 fnUseOrder_k12 fnUseOrder_k13 fnUseOrder_k14 fnUseOrder_k15 fnUseOrder_k16 fnUseOrder_k17 fnUseOrder_k18 fnUseOrder_k19 fnUseOrder_k20 fnUseOrder_k21 fnUseOrder_k22 fnUseOrder_k23 fnUseOrder_k24 fnUseOrder_k25 fnUseOrder_k26 fnUseOrder_k27 fnUseOrder_k28 fnUseOrder_k29 fnUseOrder_k30 fnUseOrder_k31)
    (of_decide_eq_true (by kernel_rfl)) (by unfold Func.isWrapper; first | (rw [if_pos (by decide +kernel)]; kernel_rfl) | (rw [if_neg (by decide +kernel)]; exact ⟨rfl, rfl⟩))
    (fun os started H enc _ => fnUseOrder_lifted os started H enc)
theorem fnUseOrder_card : Rows.FnUseOrderCardSaid :=
  Claim7.holds_tied_plain_at .later [] [.data, .data, .data, .data, .listed, .data, .called, .called, .data, .zero, .pinned, .pinned] true (true, "255450aa6630a7317d4c7b85c8647b543eb43c66b87a2c3c8df52c519baec2f0") false fnUseOrder_holds (fun _ h => by cases h) (by kernel_rfl) (fun _ h => by cases h) fnUseOrder_row_tie rfl ⟨rfl, rfl⟩ (by kernel_rfl) rfl
    (fun f fn hf hfn => by
      obtain rfl : f = 9 := Option.some.inj ((show Tryz.prog.funcNamed "loop.example/pub-g01468/laws.FnUseOrder" = some 9 by kernel_rfl).symm.trans hf) |>.symm
      obtain rfl : fn = Tryz.f9 := (Option.some.inj (Tryz.func9.symm.trans hfn)).symm
      exact ⟨by kernel_rfl, fun j t ht => by
        rw [Tryz.params9] at ht
        have hm : t ∈ [30, 9, 9] := by simpa using Array.mem_of_getElem? ht
        have hall : ([30, 9, 9].all fun u => !Tryz.prog.wantsStandIn u) = true := by kernel_rfl
        exact (show Tryz.prog.wantsStandIn t = false by simpa using List.all_eq_true.1 hall t hm)⟩)
    (by kernel_rfl)
end Go.Proofs.YtnchgmjeoajmiaaGreatDoor
