/- Capital letters count as small ones, in rules and in names of hosts: FnUseCase returns true at every input, and what came in reads behind the call as before. The condition: the listed package-level variables hold, when the call begins, what their own texts lay (the tied card). -/
import Derived.Test.YtnchgmjeoajmiaaGreatDoorMc
import Derived.Laws.IdiomStrings
import Derived.Test.YtnchgmjeoajmiaaGreatDoorTie
import Derived.Test.YtnchgmjeoajmiaaGreatDoorCards
import Derived.Test.YtnchgmjeoajmiaaGreatDoorFkFnUseCase
import Derived.WalkKit
import Derived.ProofKit
import Derived.OpenShut
import Derived.ShutString
import Derived.Below
import Derived.Carry
import Derived.LaidMore
import Derived.Lay
import Derived.SevenTiedAt
import Derived.Stop.Joined
/-! Lawa -/
namespace Go.Proofs.YtnchgmjeoajmiaaGreatDoor
open Go.RowKit Go.Proofs.YtnchgmjeoajmiaaGreatDoorW.PrintWords
set_option linter.unusedSimpArgs false
set_option linter.unusedVariables false

/-- What each law gives. -/
def SaysTrue (w : World) (e : Ending) (w' : World) : Prop := e = .returned (.bool true) ∧ Below w.heap.size w w'

theorem not_le_big {n : Nat} (h : ¬ (2147483647 : Int) < (n : Int)) : n ≤ 2147483647 := by omega

theorem rks_of {rs : List P.S42} (h : rs.length ≤ 30 ∧ ∀ r ∈ rs, Rk r) : Rks rs := ⟨by omega, h.2⟩

theorem addr_text (nm port : ByteArray) : ((nm ++ (⟨#[58]⟩ : ByteArray)) ++ port) = MK (BL nm ++ [58] ++ BL port) := by
  apply eq_of_BL
  rw [BL_append, BL_append]

theorem bel_drawn {w w1 w2 : World} (h : Below w.heap.size w w1) (k : Drawn0 w1 w2) : Below w.heap.size w w2 := by
  obtain ⟨n, rfl⟩ := k
  exact pw_below_drewN h n

theorem local_eq (nm : ByteArray) : (nm.toList == [108, 111, 99, 97, 108, 104, 111, 115, 116]) = (BL nm == [108, 111, 99, 97, 108, 104, 111, 115, 116]) := by rw [toList_BL]

set_option maxRecDepth 100000 in
set_option maxHeartbeats 1000000 in
theorem fnUseName_calls (p4 p6 : Addr) (A : Option Addr) (c : Nat) (rs : List P.S42) (nm port : ByteArray) (w : World) (G : GW p4 p6 w) (hc : rs.length ≤ c) (hA : Kd.C P.k42 w A rs.length rs) :
    Calls Tryz.prog 8 #[.slice A rs.length c, .string nm, .string port] w (SaysTrue w) := by
  obtain ⟨kf, bf, hf, ef⟩ := fits2_ev rs
  have HF := Aside0.mk (P.laws_zzFits2.calls kf A c rs bf w hA hc hf)
  clear hf
  cases bf with
  | false =>
    clear hA
    go_enter Tryz.func8, Tryz.ntmps8
    go_wp2_with fail
    refine HF.out.mono ?_
    rintro e w1 ⟨rfl, b1⟩
    go_wp2_with fail
    go_ret
    exact ⟨rfl, b1⟩
  | true =>
  obtain ⟨lenR, fitR⟩ := ef rfl
  by_cases c1 : 2147483647 < nm.size
  · have d1 : decide ((2147483647 : Int) < (nm.size : Int)) = true := decide_eq_true (by omega)
    clear hA ef fitR c1
    go_enter Tryz.func8, Tryz.ntmps8
    go_wp2_with fail
    refine HF.out.mono ?_
    rintro e w1 ⟨rfl, b1⟩
    go_wp2_with fail
    go_ret
    exact ⟨rfl, b1⟩
  have d1 : decide ((2147483647 : Int) < (nm.size : Int)) = false := decide_eq_false (by omega)
  by_cases c2 : 2147483647 < port.size
  · have d2 : decide ((2147483647 : Int) < (port.size : Int)) = true := decide_eq_true (by omega)
    clear hA ef fitR c1 c2
    go_enter Tryz.func8, Tryz.ntmps8
    go_wp2_with fail
    refine HF.out.mono ?_
    rintro e w1 ⟨rfl, b1⟩
    go_wp2_with fail
    go_ret
    exact ⟨rfl, b1⟩
  have d2 : decide ((2147483647 : Int) < (port.size : Int)) = false := decide_eq_false (by omega)
  obtain ⟨br, er, hr⟩ := areRules_ev rs fitR lenR
  obtain ⟨kr, er⟩ := er.at
  obtain ⟨bn, en, hn⟩ := isName_ev nm (by omega)
  obtain ⟨kn, en⟩ := en.at
  obtain ⟨bp, ep, hp⟩ := isPort_ev port (by omega)
  obtain ⟨kp, ep⟩ := ep.at
  have HR := fun w' hb => Aside0.mk (P.spec_AreRules.calls kr A c rs br w' (Kd.C_below hA hb) hc er)
  have HN := fun w' => Aside0.mk (P.spec_IsName.calls kn nm bn w' en)
  have HP := fun w' => Aside0.mk (P.spec_IsPort.calls kp port bp w' ep)
  have HA := Aside0.mk hA
  have ER := Aside0.mk hr
  have EN := Aside0.mk hn
  have EP := Aside0.mk hp
  clear hA ef fitR c1 c2 er en ep hr hn hp
  cases br with
  | false =>
    go_enter Tryz.func8, Tryz.ntmps8
    go_wp2_with fail
    refine HF.out.mono ?_
    rintro e w1 ⟨rfl, b1⟩
    go_wp2_with fail
    refine (HR w1 b1).out.mono ?_
    rintro e w2 ⟨rfl, b2⟩
    have b2 := bel_then b1 b2
    go_wp2_with fail
    refine (works_calls p4 p6 _ (G.below b2)).mono ?_
    rintro e w3 ⟨rfl, b3⟩
    have b3 := bel_then b2 b3
    go_wp2_with fail
    go_ret
    exact ⟨rfl, b3⟩
  | true =>
  go_enter Tryz.func8, Tryz.ntmps8
  go_wp2_with fail
  refine HF.out.mono ?_
  rintro e w1 ⟨rfl, b1⟩
  go_wp2_with fail
  refine (HR w1 b1).out.mono ?_
  rintro e w2 ⟨rfl, b2⟩
  have b2 := bel_then b1 b2
  go_wp2_with fail
  refine (HN _).out.mono ?_
  rintro e w3 ⟨rfl, hw3⟩
  have b3 := bel_drawn b2 hw3
  clear hw3 b1 b2
  cases bn with
  | false =>
    go_wp2_with fail
    refine (works_calls p4 p6 _ (G.below b3)).mono ?_
    rintro e wk ⟨rfl, bk⟩
    have bk := bel_then b3 bk
    go_wp2_with fail
    go_ret
    exact ⟨rfl, bk⟩
  | true =>
  go_wp2_with fail
  refine (HP _).out.mono ?_
  rintro e w4 ⟨rfl, hw4⟩
  have b4 := bel_drawn b3 hw4
  clear hw4 b3
  cases bp with
  | false =>
    go_wp2_with fail
    refine (works_calls p4 p6 _ (G.below b4)).mono ?_
    rintro e wk ⟨rfl, bk⟩
    have bk := bel_then b4 bk
    go_wp2_with fail
    go_ret
    exact ⟨rfl, bk⟩
  | true =>
  have hN := EN.out (by simp)
  have hP := EP.out (by simp)
  have hK := rks_of (ER.out (by simp))
  have US := fun w' G => Aside0.mk (by
    have := uses_rules p4 p6 w' (joinB ⟨#[44]⟩ (rs.map ruleText)) rs (BL nm) (BL port) G (listed_plain rs hK) hN hP
    rw [← addr_text, MK_BL, MK_BL] at this
    exact this)
  have LT := fun w' hb => Aside0.mk (listText_calls p4 p6 rs ⟨#[44]⟩ A c w' (G.below hb) (fun r hr => (hK.2 r hr).small) (by have := hK.1; omega) (by decide) hc (Kd.C_below HA.out hb))
  have hns : nm.size ≤ 100 := by have := hN.len; rw [BL_size] at this; exact this
  have hps : port.size ≤ 5 := by have := hP.five; rw [BL_size] at this; exact this
  have hz : (nm ++ (⟨#[58]⟩ : ByteArray)).size = nm.size + 1 := ByteArray.size_append
  have HKs := Aside0.mk hK
  clear hN hP hK
  cases hloc : (nm.toList == [108, 111, 99, 97, 108, 104, 111, 115, 116]) with
  | true =>
    go_wp2_with fail
    refine (works_calls p4 p6 _ (G.below b4)).mono ?_
    rintro e w5 ⟨rfl, b5⟩
    have b5 := bel_then b4 b5
    go_wp2_with fail
    refine (LT _ b5).out.mono ?_
    rintro e w6 ⟨rfl, b6⟩
    have b6 := bel_then b5 b6
    go_wp2_with fail
    have U6 := (US w6 (G.below b6)).out
    rw [← local_eq, hloc] at U6
    refine U6.mono ?_
    rintro e w7 ⟨rfl, b7⟩
    have b7 := bel_then b6 b7
    go_wp2_with fail
    go_ret
    exact ⟨ret_bool (by simp), b7⟩
  | false =>
    obtain ⟨ka, hany⟩ := anyName_eq rs HKs.out nm port (by omega)
    rw [show mok nm port none = mok (MK (BL nm)) (MK (BL port)) none by rw [MK_BL, MK_BL]] at hany
    generalize hval : ((lists (effsOf rs) [] []).2.any (mok (MK (BL nm)) (MK (BL port)) none)) = val at hany
    have HAN := fun w' hb => Aside0.mk (P.spec_AnyName.calls ka A c rs nm port val w' (Kd.C_below HA.out hb) hc hany)
    have HVAL := Aside0.mk hval
    clear hany hval
    go_wp2_with fail
    refine (HAN _ b4).out.mono ?_
    rintro e w4' ⟨rfl, b4'⟩
    have b4' := bel_then b4 b4'
    go_wp2_with fail
    refine (works_calls p4 p6 _ (G.below b4')).mono ?_
    rintro e w5 ⟨rfl, b5⟩
    have b5 := bel_then b4' b5
    go_wp2_with fail
    refine (LT _ b5).out.mono ?_
    rintro e w6 ⟨rfl, b6⟩
    have b6 := bel_then b5 b6
    go_wp2_with fail
    have U6 := (US w6 (G.below b6)).out
    rw [← local_eq, hloc, ← MK_BL nm, ← MK_BL port, HVAL.out] at U6
    refine U6.mono ?_
    rintro e w7 ⟨rfl, b7⟩
    have b7 := bel_then b6 b7
    go_wp2_with fail
    go_ret
    exact ⟨ret_bool (by simp), b7⟩
end Go.Proofs.YtnchgmjeoajmiaaGreatDoor

/-! Textj -/
namespace Go.Proofs.YtnchgmjeoajmiaaGreatDoor
open Go.RowKit Go.Proofs.YtnchgmjeoajmiaaGreatDoorW.PrintWords
set_option linter.unusedSimpArgs false
set_option linter.unusedVariables false

theorem joinL_append (sep : List UInt8) (xs ys : List (List UInt8)) (hx : xs ≠ []) (hy : ys ≠ []) : joinL sep (xs ++ ys) = joinL sep xs ++ sep ++ joinL sep ys := by
  cases xs with
  | nil => exact absurd rfl hx
  | cons x xs =>
    cases ys with
    | nil => exact absurd rfl hy
    | cons y ys => simp [joinL]

theorem joinB_append (sep : ByteArray) (xs ys : List ByteArray) (hx : xs ≠ []) (hy : ys ≠ []) : joinB sep (xs ++ ys) = (joinB sep xs ++ sep) ++ joinB sep ys := by
  apply eq_of_BL
  rw [BL_append, BL_append]
  unfold joinB
  simp only [BL_MK]
  rw [List.map_append, joinL_append _ _ _ (by simpa using hx) (by simpa using hy)]

theorem joinB_len (sep : ByteArray) (rs : List P.S42) (h : ∀ r ∈ rs, Rk r) (hs : sep.size ≤ 100) : (joinB sep (rs.map ruleText)).size ≤ rs.length * 2110 := by
  have := joinL_len (BL sep) ((rs.map ruleText).map BL) 2010 (fun x hx => by
    rw [List.map_map] at hx
    obtain ⟨r, hr, rfl⟩ := List.mem_map.1 hx
    exact ruleText_len (h r hr))
  unfold joinB
  rw [MK_size]
  have e : (BL sep).length = sep.size := BL_size sep
  rw [e, List.length_map, List.length_map] at this
  exact Nat.le_trans this (Nat.mul_le_mul_left _ (by omega))

theorem Rks.append {a b : List P.S42} (ha : a.length ≤ 30 ∧ ∀ r ∈ a, Rk r) (hb : b.length ≤ 30 ∧ ∀ r ∈ b, Rk r) : Rks (a ++ b) := by
  refine ⟨by rw [List.length_append]; omega, fun r hr => ?_⟩
  rcases List.mem_append.1 hr with h | h
  · exact ha.2 r h
  · exact hb.2 r h

/-- What the lists say of a name, rule by rule. -/
theorem anyN_eq (rs : List P.S42) (h p : ByteArray) : (lists (effsOf rs) [] []).2.any (mok h p none) = rs.any (fun r => sayN h p (eff r)) := by
  rw [any_names]
  unfold effsOf
  split
  · rename_i e; subst e; rfl
  · rw [List.any_map]; rfl
theorem anyN_append (a b : List P.S42) (h p : ByteArray) : (lists (effsOf (a ++ b)) [] []).2.any (mok h p none) = ((lists (effsOf a) [] []).2.any (mok h p none) || (lists (effsOf b) [] []).2.any (mok h p none)) := by
  rw [anyN_eq, anyN_eq, anyN_eq, List.any_append]
theorem anyN_reverse (a : List P.S42) (h p : ByteArray) : (lists (effsOf a.reverse) [] []).2.any (mok h p none) = (lists (effsOf a) [] []).2.any (mok h p none) := by
  rw [anyN_eq, anyN_eq, List.any_reverse]

/-- Two lists with a comma between them. -/
theorem listed_two (a b : List P.S42) (ha : a.length ≤ 30 ∧ ∀ r ∈ a, Rk r) (hb : b.length ≤ 30 ∧ ∀ r ∈ b, Rk r) (na : a ≠ []) (nb : b ≠ []) :
    Listed ((joinB ⟨#[44]⟩ (a.map ruleText) ++ (⟨#[44]⟩ : ByteArray)) ++ joinB ⟨#[44]⟩ (b.map ruleText)) (effsOf (a ++ b)) := by
  have := listed_plain (a ++ b) (Rks.append ha hb)
  rw [List.map_append, joinB_append _ _ _ (by simpa using na) (by simpa using nb)] at this
  exact this

/-- Spaces beside commas, and about the list. -/
theorem joinL_spaced (a b s : List UInt8) : ∀ (xs : List (List UInt8)), xs ≠ [] → a ++ joinL (b ++ s ++ a) xs ++ b = joinL s (xs.map fun x => a ++ x ++ b)
  | [], h => absurd rfl h
  | [x], _ => by simp [joinL]
  | x :: y :: t, _ => by
    have ih := joinL_spaced a b s (y :: t) (by simp)
    have e1 : joinL (b ++ s ++ a) (x :: y :: t) = x ++ (b ++ s ++ a) ++ joinL (b ++ s ++ a) (y :: t) := by simp [joinL]
    have e2 : joinL s ((x :: y :: t).map fun x => a ++ x ++ b) = (a ++ x ++ b) ++ s ++ joinL s ((y :: t).map fun x => a ++ x ++ b) := by simp [joinL]
    rw [e1, e2, ← ih]
    simp

theorem sps1 : Sps [32] := fun x hx => by simpa using hx
theorem listed_spaced (rs : List P.S42) (hr : Rks rs) : Listed (((⟨#[32]⟩ : ByteArray) ++ joinB ⟨#[32, 44, 32]⟩ (rs.map ruleText)) ++ (⟨#[32]⟩ : ByteArray)) (effsOf rs) := by
  have := listed_rules rs hr [32] [32] id sps1 sps1 (by simp) (by simp) (fun x hx => ⟨hx.1, hx.2.1, hx.2.2.1, by
    have := lower_map (q := [x]) (fun b hb => by simp at hb; subst hb; exact hx.2.2.2)
    simpa using this⟩)
  have e : ((⟨#[32]⟩ : ByteArray) ++ joinB ⟨#[32, 44, 32]⟩ (rs.map ruleText)) ++ (⟨#[32]⟩ : ByteArray) = MK (if rs = [] then [32] ++ [32] else joinL [44] (rs.map fun r => [32] ++ (BL (ruleText r)).map id ++ [32])) := by
    apply eq_of_BL
    rw [BL_append, BL_append, BL_MK]
    unfold joinB
    simp only [BL_MK]
    split
    · rename_i h; subst h; rfl
    · rename_i h
      have := joinL_spaced [32] [32] [44] ((rs.map ruleText).map BL) (by simpa using h)
      rw [List.map_map, List.map_map] at this
      rw [List.map_map]
      simp only [List.map_id]
      exact this
  rw [e]
  exact this

/-! ### Capitals -/
def upperB (b : UInt8) : UInt8 := if 97 ≤ b.toNat ∧ b.toNat ≤ 122 then b - 97 + 65 else b
def upperT (s : ByteArray) : ByteArray := MK ((BL s).map upperB)
theorem upper_all : ∀ i : Fin 256, ¬ (65 ≤ i.val ∧ i.val ≤ 90) → 32 < i.val → i.val < 128 → i.val ≠ 44 →
    32 < (upperB (UInt8.ofNat i.val)).toNat ∧ (upperB (UInt8.ofNat i.val)).toNat < 128 ∧ (upperB (UInt8.ofNat i.val)).toNat ≠ 44 ∧ Lib.lowerB (upperB (UInt8.ofNat i.val)) = UInt8.ofNat i.val := by decide +kernel
theorem upper_ok (x : UInt8) (hx : RuleB x) : 32 < (upperB x).toNat ∧ (upperB x).toNat < 128 ∧ (upperB x).toNat ≠ 44 ∧ Lib.lowerB (upperB x) = x := by
  have := upper_all ⟨x.toNat, x.toNat_lt⟩ hx.2.2.2 hx.1 hx.2.1 hx.2.2.1
  simpa using this
theorem upper_host : ∀ i : Fin 256, (97 ≤ i.val ∧ i.val ≤ 122) ∨ (48 ≤ i.val ∧ i.val ≤ 57) ∨ i.val = 45 ∨ i.val = 46 →
    (32 < (upperB (UInt8.ofNat i.val)).toNat ∧ (upperB (UInt8.ofNat i.val)).toNat < 128 ∧ (upperB (UInt8.ofNat i.val)).toNat ≠ 58 ∧ (upperB (UInt8.ofNat i.val)).toNat ≠ 91 ∧ (upperB (UInt8.ofNat i.val)).toNat ≠ 93 ∧ (upperB (UInt8.ofNat i.val)).toNat ≠ 37) ∧ (upperB (UInt8.ofNat i.val)).toNat ≠ 108 ∧ Lib.lowerB (upperB (UInt8.ofNat i.val)) = UInt8.ofNat i.val ∧ (97 ≤ i.val → ¬ (48 ≤ (upperB (UInt8.ofNat i.val)).toNat ∧ (upperB (UInt8.ofNat i.val)).toNat ≤ 57)) := by decide +kernel

theorem joinL_map (g : UInt8 → UInt8) (sep : List UInt8) (xs : List (List UInt8)) : (joinL sep xs).map g = joinL (sep.map g) (xs.map (·.map g)) := by
  cases xs with
  | nil => rfl
  | cons x t =>
    simp only [joinL, List.map_append, List.map_cons, List.map_flatten, List.map_map]
    congr 2
    exact List.map_congr_left fun y _ => by simp

theorem listed_upper (rs : List P.S42) (hr : Rks rs) : Listed (upperT (joinB ⟨#[44]⟩ (rs.map ruleText))) (effsOf rs) := by
  have := listed_rules rs hr [] [] upperB (fun x hx => by cases hx) (fun x hx => by cases hx) (by simp) (by simp) upper_ok
  have e : upperT (joinB ⟨#[44]⟩ (rs.map ruleText)) = MK (if rs = [] then [] ++ [] else joinL [44] (rs.map fun r => [] ++ (BL (ruleText r)).map upperB ++ [])) := by
    unfold upperT joinB
    simp only [BL_MK]
    split
    · rename_i h; subst h; rfl
    · rw [joinL_map, List.map_map, List.map_map]
      simp only [List.nil_append, List.append_nil]
      rfl
  rw [e]
  exact this

theorem Nm.upper_addr {nm p : List UInt8} (h : Nm nm) (hp : Pt p) : NameAddr (MK (nm.map upperB ++ [58] ++ p)) (MK (nm.map upperB)) (MK p) (MK nm) := by
  have hall : ∀ b ∈ nm, _ := fun b hb => upper_host ⟨b.toNat, b.toNat_lt⟩ (h.all b hb)
  simp only [UInt8.ofNat_toNat] at hall
  refine nameAddr_of (by simpa using h.ne) (by have := h.len; rw [List.length_map]; omega) (fun b hb => ?_) ?_ ?_ hp
  · obtain ⟨x, hx, rfl⟩ := List.mem_map.1 hb
    exact (hall x hx).1
  · obtain ⟨x, t, e, h1, h2⟩ := h.head
    have hx := hall x (by rw [e]; exact List.mem_cons_self)
    rw [e, List.map_cons, MK_first rfl]
    have := hx.2.2.2 h1
    omega
  · rw [List.map_map]
    conv => rhs; rw [← List.map_id nm]
    exact List.map_congr_left fun y hy => (hall y hy).2.2.1

theorem Nm.upper_local {nm : List UInt8} (h : Nm nm) : (MK (nm.map upperB)).toList ≠ [108, 111, 99, 97, 108, 104, 111, 115, 116] := by
  rw [toList_MK]
  obtain ⟨x, t, e, h1, h2⟩ := h.head
  have hx := upper_host ⟨x.toNat, x.toNat_lt⟩ (h.all x (by rw [e]; exact List.mem_cons_self))
  simp only [UInt8.ofNat_toNat] at hx
  rw [e, List.map_cons]
  intro k
  injection k with k _
  exact hx.2.1 (by rw [k]; rfl)

/-- A request to a name in capitals. -/
theorem uses_upper (p4 p6 : Addr) (w : World) (no : ByteArray) (rs : List P.S42) (nm p : List UInt8) (G : GW p4 p6 w) (hl : Listed no (effsOf rs)) (hn : Nm nm) (hp : Pt p) :
    Calls Tryz.prog 24 #[.string no, .string (MK (nm.map upperB ++ [58] ++ p))] w fun e w' => e = .returned (.bool (!((lists (effsOf rs) [] []).2.any (mok (MK nm) (MK p) none)))) ∧ Below w.heap.size w w' :=
  uses_name p4 p6 no (effsOf rs) w _ (MK (nm.map upperB)) (MK p) (MK nm) G hl (hn.upper_addr hp) hn.upper_local
end Go.Proofs.YtnchgmjeoajmiaaGreatDoor

/-! Says -/
namespace Go.Proofs.YtnchgmjeoajmiaaGreatDoor
open Go.RowKit Go.Proofs.YtnchgmjeoajmiaaGreatDoorW.PrintWords
set_option linter.unusedSimpArgs false
set_option linter.unusedVariables false

/-- Whether a request to a name and a port goes through the proxy, by rules. -/
def says (rs : List P.S42) (nm port : ByteArray) : Bool := !(nm.toList == [108, 111, 99, 97, 108, 104, 111, 115, 116]) && !((lists (effsOf rs) [] []).2.any (mok nm port none))
theorem says_append (a b : List P.S42) (nm port : ByteArray) : says (a ++ b) nm port = (says a nm port && says b nm port) := by
  unfold says
  rw [anyN_append]
  generalize (lists (effsOf a) [] []).2.any (mok nm port none) = x
  generalize (lists (effsOf b) [] []).2.any (mok nm port none) = y
  generalize (nm.toList == [108, 111, 99, 97, 108, 104, 111, 115, 116]) = z
  cases x <;> cases y <;> cases z <;> rfl
theorem says_reverse (a : List P.S42) (nm port : ByteArray) : says a.reverse nm port = says a nm port := by
  unfold says
  rw [anyN_reverse]

theorem uses_text (p4 p6 : Addr) (w : World) (no : ByteArray) (rs : List P.S42) (nm port : ByteArray) (G : GW p4 p6 w) (hl : Listed no (effsOf rs)) (hn : Nm (BL nm)) (hp : Pt (BL port)) :
    Calls Tryz.prog 24 #[.string no, .string ((nm ++ (⟨#[58]⟩ : ByteArray)) ++ port)] w fun e w' => e = .returned (.bool (says rs nm port)) ∧ Below w.heap.size w w' := by
  have := uses_rules p4 p6 w no rs (BL nm) (BL port) G hl hn hp
  rw [← addr_text, MK_BL, MK_BL, ← local_eq] at this
  exact this

theorem uses_text_upper (p4 p6 : Addr) (w : World) (no : ByteArray) (rs : List P.S42) (nm port : ByteArray) (G : GW p4 p6 w) (hl : Listed no (effsOf rs)) (hn : Nm (BL nm)) (hp : Pt (BL port)) (hloc : (nm.toList == [108, 111, 99, 97, 108, 104, 111, 115, 116]) = false) :
    Calls Tryz.prog 24 #[.string no, .string ((upperT nm ++ (⟨#[58]⟩ : ByteArray)) ++ port)] w fun e w' => e = .returned (.bool (says rs nm port)) ∧ Below w.heap.size w w' := by
  have := uses_upper p4 p6 w no rs (BL nm) (BL port) G hl hn hp
  rw [show says rs nm port = !((lists (effsOf rs) [] []).2.any (mok nm port none)) by unfold says; rw [hloc]; rfl]
  rw [MK_BL, MK_BL] at this
  rw [addr_text, show BL (upperT nm) = (BL nm).map upperB from rfl]
  exact this

theorem upperT_size (s : ByteArray) : (upperT s).size = s.size := by
  unfold upperT
  rw [MK_size, List.length_map, BL_size]
end Go.Proofs.YtnchgmjeoajmiaaGreatDoor

/-! Upper -/
namespace Go.Proofs.YtnchgmjeoajmiaaGreatDoor
open Go.RowKit Go.Proofs.YtnchgmjeoajmiaaGreatDoorW.PrintWords
set_option linter.unusedSimpArgs false
set_option linter.unusedVariables false

/-- A block of cells with a mark beyond them. -/
theorem mrk_cell {w : World} {g : Nat} {t : TypeId} {cs : Array Value} {f : Nat × Nat} (h : w.heap[g]? = some (.cells cs t f)) (i : Nat) : w.cell? ⟨g, i, none⟩ = cs[i]? := cell_of_row w g i cs t f h
theorem mrk_frozen {w : World} {g n m : Nat} {t : TypeId} {cs : Array Value} (h : w.heap[g]? = some (.cells cs t (n, m))) (i : Nat) (hi : i < n) : w.frozen? ⟨g, i, none⟩ = false := by
  simp [World.frozen?, h]
  omega
theorem mrk_set {w : World} {g : Nat} {t : TypeId} {cs : Array Value} {f : Nat × Nat} (h : w.heap[g]? = some (.cells cs t f)) (i : Nat) (u : Value) : (w.setCell ⟨g, i, none⟩ u).heap[g]? = some (.cells (cs.setIfInBounds i u) t f) := by
  simp [World.setCell, Array.getElem?_modify, h]

/-- The bytes' cells, the first i in capitals. -/
def upCells (l : List UInt8) (i : Nat) (pad : List Value) : Array Value := (((l.take i).map upperB ++ l.drop i).map (fun b => Value.int .u8 (b.toNat : Int)) ++ pad).toArray
theorem up_at (l : List UInt8) (i : Nat) (pad : List Value) (h : i < l.length) : (upCells l i pad)[i]? = some (.int .u8 ((l[i]'h).toNat : Int)) := by
  unfold upCells
  rw [List.getElem?_toArray, List.getElem?_append_left (by simp; omega), List.getElem?_map, List.getElem?_append_right (by simp; omega)]
  simp
  rw [show i - min i l.length = 0 by omega]
  simp [List.getElem?_eq_getElem h]
theorem up_next (l : List UInt8) (i : Nat) (pad : List Value) (h : i < l.length) (hu : upperB (l[i]'h) = l[i]'h) : upCells l (i + 1) pad = upCells l i pad := by
  unfold upCells
  congr 3
  rw [List.take_succ_eq_append_getElem h, List.map_append, List.drop_eq_getElem_cons h]
  simp [hu]
theorem up_set (l : List UInt8) (i : Nat) (pad : List Value) (h : i < l.length) : (upCells l i pad).setIfInBounds i (.int .u8 ((upperB (l[i]'h)).toNat : Int)) = upCells l (i + 1) pad := by
  unfold upCells
  rw [List.setIfInBounds_toArray]
  congr 1
  rw [List.set_append_left _ _ (by simp; omega), List.take_succ_eq_append_getElem h, List.drop_eq_getElem_cons h]
  congr 1
  rw [List.map_append, List.set_append_right _ _ (by rw [List.length_map, List.length_map, List.length_take]; omega), List.length_map, List.length_map, List.length_take, show i - min i l.length = 0 by omega, List.map_append, List.map_cons, List.set_cons_zero, List.map_append, List.map_append, List.append_assoc]
  rfl
theorem up_size (l : List UInt8) (i : Nat) (pad : List Value) : (upCells l i pad).size = l.length + pad.length := by
  unfold upCells
  simp
  omega
theorem up_first (s : ByteArray) (cap : Nat) : bytesRow s cap = upCells (BL s) 0 (List.replicate (cap - s.size) (.int .u8 0)) := by
  unfold bytesRow upCells
  apply Array.ext'
  simp [BL]
theorem up_all : ∀ i : Fin 256, 97 ≤ i.val → i.val ≤ 122 → ((i.val : Int) - 97 + 65) = ((upperB (UInt8.ofNat i.val)).toNat : Int) := by decide +kernel

set_option maxRecDepth 100000 in
set_option maxHeartbeats 1000000 in
theorem upper_calls (p4 p6 : Addr) (s : ByteArray) (w : World) (hs : s.size ≤ 1000000) : Calls Tryz.prog 27 #[.string s] w fun e w' => e = .returned (.string (upperT s)) ∧ Below w.heap.size w w' := by
  have hcv := fun w s => run_bytes_of_string (P := Tryz.prog) w 9 46 5 s Tryz.underlying9 Tryz.underlying46 Tryz.underlying5
  have hl : (BL s).length = s.size := BL_size s
  go_enter Tryz.func27, Tryz.ntmps27
  go_wp2_with fail
  generalize grownCap w s.size 0 5 = cap at *
  have hrow : (w.drew.alloc (.cells (bytesRow s cap) 5 ((bytesRow s cap).size, (bytesRow s cap).size + 1))).heap[w.heap.size]? = some (.cells (upCells (BL s) 0 (List.replicate (cap - s.size) (.int .u8 0))) 5 ((bytesRow s cap).size, (bytesRow s cap).size + 1)) := by
    rw [← up_first]
    exact heap_alloc_new w.drew _
  have hn : s.size ≤ (bytesRow s cap).size := by rw [up_first, up_size]; omega
  have hb0 : Below w.heap.size w (w.drew.alloc (.cells (bytesRow s cap) 5 ((bytesRow s cap).size, (bytesRow s cap).size + 1))) := by go_grown
  generalize (bytesRow s cap).size = n at *
  generalize List.replicate (cap - s.size) (Value.int .u8 0) = pad at *
  have R0 := Aside0.mk hrow
  have B0 := Aside0.mk hb0
  clear hrow hb0
  go_loopg [10] s.size (fun kq v w' => ∃ i : Nat, v = .int .i64 i ∧ Aside0 (i ≤ s.size ∧ kq + i = s.size ∧ w'.heap[w.heap.size]? = some (.cells (upCells (BL s) i pad) 5 (n, n + 1)) ∧ Below w.heap.size w w'))
  case atStart => exact ⟨0, rfl, Aside0.mk ⟨Nat.zero_le _, by omega, R0.out, B0.out⟩⟩
  case round =>
    obtain ⟨i, rfl, HI⟩ := hrel
    have hle := HI.out.1
    have hk := HI.out.2.1
    rcases Nat.lt_or_ge i s.size with hi | hge
    · have hi' : i < (BL s).length := by omega
      have hc := (mrk_cell HI.out.2.2.1 i).trans (up_at (BL s) i pad hi')
      have hf := mrk_frozen HI.out.2.2.1 i (by omega)
      have HN := Aside0.mk (up_next (BL s) i pad hi')
      have HS := Aside0.mk (up_set (BL s) i pad hi')
      generalize (BL s)[i]'hi' = b at *
      have p0 : (0 : Int) ≤ (i : Int) := by omega
      have p1 : (i : Int) < (s.size : Int) := by omega
      have ew : wrap64 ((i : Int) + 1) = (i : Int) + 1 := by unfold wrap64; omega
      go_wp2_with fail
      refine (P.spec_isLower.calls (b.toNat : Int) _ _ (isLower_f b)).mono ?_
      rintro e w1 ⟨rfl, ⟨nd, rfl⟩⟩
      by_cases hb : 97 ≤ b.toNat ∧ b.toNat ≤ 122
      · rw [decide_eq_true hb]
        go_wp2_with fail
        have hv : ((b.toNat : Int) - 97 + 65) = ((upperB b).toNat : Int) := by
          have := up_all ⟨b.toNat, b.toNat_lt⟩ hb.1 hb.2
          simpa using this
        rw [hv]
        go_roundg (gk - 1)
        case measure => omega
        case rel => exact ⟨i + 1, by simp, Aside0.mk ⟨by omega, by omega, by rw [← HS.out]; exact mrk_set (w := wr.drewN nd) HI.out.2.2.1 i _, Below.setCell (p := ⟨w.heap.size, i, none⟩) (pw_below_drewN HI.out.2.2.2 nd) (Nat.le_refl _) _⟩⟩
      · rw [decide_eq_false hb]
        have hu : upperB b = b := by unfold upperB; rw [if_neg hb]
        go_wp2_with fail
        go_roundg (gk - 1)
        case measure => omega
        case rel => exact ⟨i + 1, by simp, Aside0.mk ⟨by omega, by omega, by rw [HN.out hu]; exact HI.out.2.2.1, pw_below_drewN HI.out.2.2.2 nd⟩⟩
    · have hil : i = s.size := by omega
      subst hil
      have hll : ((BL s).map upperB).length = s.size := by rw [List.length_map]; exact hl
      have hback := run_convert_bytes_back (P := Tryz.prog) wr 46 9 5 ⟨w.heap.size, 0, none⟩ cap ((BL s).map upperB) Tryz.underlying46 Tryz.underlying5 Tryz.underlying9 (fun j hj => by
        have e : (⟨w.heap.size, 0, none⟩ : Addr).add j = ⟨w.heap.size, j, none⟩ := by unfold Addr.add; split <;> simp_all
        rw [e, mrk_cell HI.out.2.2.1 j]
        unfold upCells
        rw [List.getElem?_toArray, List.take_of_length_le (by omega), List.drop_of_length_le (by omega), List.append_nil, List.getElem?_append_left (by rw [List.length_map]; exact hj), List.getElem?_map, List.getElem?_eq_getElem hj]
        rfl)
      rw [hll] at hback
      have HB := Aside0.mk HI.out.2.2.2
      clear HI hle hge hk
      go_wp2_with fail
      go_ret
      exact ⟨rfl, HB.out⟩
end Go.Proofs.YtnchgmjeoajmiaaGreatDoor

/-! Lawcase -/
namespace Go.Proofs.YtnchgmjeoajmiaaGreatDoor
open Go.RowKit Go.Proofs.YtnchgmjeoajmiaaGreatDoorW.PrintWords
set_option linter.unusedSimpArgs false
set_option linter.unusedVariables false

set_option maxRecDepth 100000 in
set_option maxHeartbeats 1000000 in
/-- Capitals count as small letters. -/
theorem fnUseCase_calls (p4 p6 : Addr) (A_rs : Option Addr) (c_rs : Nat) (rs : List P.S42) (nm : ByteArray) (port : ByteArray) (w : World) (G : GW p4 p6 w) (hc_rs : rs.length ≤ c_rs) (hA_rs : Kd.C P.k42 w A_rs rs.length rs) :
    Calls Tryz.prog 6 #[.slice A_rs rs.length c_rs, .string nm, .string port] w (SaysTrue w) := by
  have b0 : Below w.heap.size w w := Below.refl _ _
  have HA_rs := Aside0.mk hA_rs
  clear hA_rs
  go_enter Tryz.func6, Tryz.ntmps6
  obtain ⟨kf_rs, bf_rs, hf_rs, ef_rs⟩ := fits2_ev rs
  have EF_rs := Aside0.mk ef_rs
  have HF_rs := Aside0.mk hf_rs
  clear ef_rs hf_rs
  go_wp2_with fail
  refine (P.laws_zzFits2.calls kf_rs A_rs c_rs rs bf_rs _ (Kd.C_below HA_rs.out b0) hc_rs HF_rs.out).mono ?_
  rintro e w1 ⟨rfl, c1⟩
  have b1 := bel_then b0 c1
  clear c1
  cases bf_rs with
  | false =>
    go_wp2_with fail
    go_ret
    exact ⟨rfl, b1⟩
  | true =>
  have len_rs := (EF_rs.out rfl).1
  have FIT_rs := Aside0.mk (EF_rs.out rfl).2
  cases d_nm : decide ((2147483647 : Int) < (nm.size : Int)) with
  | true =>
    go_wp2_with fail
    go_ret
    exact ⟨rfl, b1⟩
  | false =>
  have sz_nm : nm.size ≤ 2147483647 := not_le_big (of_decide_eq_false d_nm)
  cases d_port : decide ((2147483647 : Int) < (port.size : Int)) with
  | true =>
    go_wp2_with fail
    go_ret
    exact ⟨rfl, b1⟩
  | false =>
  have sz_port : port.size ≤ 2147483647 := not_le_big (of_decide_eq_false d_port)
  obtain ⟨br_rs, er_rs, hr_rs⟩ := areRules_ev rs FIT_rs.out len_rs
  obtain ⟨kr_rs, er_rs⟩ := er_rs.at
  have HE_rs := Aside0.mk er_rs
  have OK_rs := Aside0.mk hr_rs
  clear er_rs hr_rs
  go_wp2_with fail
  refine (P.spec_AreRules.calls kr_rs A_rs c_rs rs br_rs _ (Kd.C_below HA_rs.out b1) hc_rs HE_rs.out).mono ?_
  rintro e w2 ⟨rfl, c2⟩
  have b2 := bel_then b1 c2
  clear c2
  cases br_rs with
  | false =>
    go_wp2_with fail
    refine (works_calls p4 p6 _ (G.below b2)).mono ?_
    rintro e w3 ⟨rfl, c3⟩
    have b3 := bel_then b2 c3
    clear c3
    go_wp2_with fail
    go_ret
    exact ⟨rfl, b3⟩
  | true =>
  replace OK_rs := Aside0.mk (OK_rs.out rfl)
  obtain ⟨br_nm, er_nm, hr_nm⟩ := isName_ev nm sz_nm
  obtain ⟨kr_nm, er_nm⟩ := er_nm.at
  have HE_nm := Aside0.mk er_nm
  have OK_nm := Aside0.mk hr_nm
  clear er_nm hr_nm
  go_wp2_with fail
  refine (P.spec_IsName.calls kr_nm nm br_nm _ HE_nm.out).mono ?_
  rintro e w3 ⟨rfl, c3⟩
  have b3 := bel_drawn b2 c3
  clear c3
  cases br_nm with
  | false =>
    go_wp2_with fail
    refine (works_calls p4 p6 _ (G.below b3)).mono ?_
    rintro e w4 ⟨rfl, c4⟩
    have b4 := bel_then b3 c4
    clear c4
    go_wp2_with fail
    go_ret
    exact ⟨rfl, b4⟩
  | true =>
  replace OK_nm := Aside0.mk (OK_nm.out rfl)
  obtain ⟨br_port, er_port, hr_port⟩ := isPort_ev port sz_port
  obtain ⟨kr_port, er_port⟩ := er_port.at
  have HE_port := Aside0.mk er_port
  have OK_port := Aside0.mk hr_port
  clear er_port hr_port
  go_wp2_with fail
  refine (P.spec_IsPort.calls kr_port port br_port _ HE_port.out).mono ?_
  rintro e w4 ⟨rfl, c4⟩
  have b4 := bel_drawn b3 c4
  clear c4
  cases br_port with
  | false =>
    go_wp2_with fail
    refine (works_calls p4 p6 _ (G.below b4)).mono ?_
    rintro e w5 ⟨rfl, c5⟩
    have b5 := bel_then b4 c5
    clear c5
    go_wp2_with fail
    go_ret
    exact ⟨rfl, b5⟩
  | true =>
  replace OK_port := Aside0.mk (OK_port.out rfl)
  cases hloc : (nm.toList == [108, 111, 99, 97, 108, 104, 111, 115, 116]) with
  | true =>
    go_wp2_with fail
    refine (works_calls p4 p6 _ (G.below b4)).mono ?_
    rintro e w5 ⟨rfl, c5⟩
    have b5 := bel_then b4 c5
    clear c5
    go_wp2_with fail
    go_ret
    exact ⟨rfl, b5⟩
  | false =>
  have hns : nm.size ≤ 100 := by have := OK_nm.out.len; rw [BL_size] at this; exact this
  have hps : port.size ≤ 5 := by have := OK_port.out.five; rw [BL_size] at this; exact this
  have hz : (nm ++ (⟨#[58]⟩ : ByteArray)).size = nm.size + 1 := ByteArray.size_append
  have LT_rs := fun w' hb => Aside0.mk (listText_calls p4 p6 rs ⟨#[44]⟩ A_rs c_rs w' (G.below hb) (fun r hr => (OK_rs.out.2 r hr).small) (by have := OK_rs.out.1; omega) (by decide) hc_rs (Kd.C_below HA_rs.out hb))
  have U1 := fun w' g => Aside0.mk (uses_text p4 p6 w' _ rs nm port g (listed_plain rs (rks_of OK_rs.out)) OK_nm.out OK_port.out)
  have U2 := fun w' g => Aside0.mk (uses_text p4 p6 w' _ rs nm port g (listed_upper rs (rks_of OK_rs.out)) OK_nm.out OK_port.out)
  have U3 := fun w' g => Aside0.mk (uses_text_upper p4 p6 w' _ rs nm port g (listed_plain rs (rks_of OK_rs.out)) OK_nm.out OK_port.out hloc)
  have s1 := joinB_len ⟨#[44]⟩ rs OK_rs.out.2 (by decide)
  have l1 := OK_rs.out.1
  generalize joinB ⟨#[44]⟩ (rs.map ruleText) = t at *
  have hz1 : (upperT nm ++ (⟨#[58]⟩ : ByteArray)).size = nm.size + 1 := by rw [ByteArray.size_append, upperT_size]; rfl
  have hu := upperT_size nm
  generalize says rs nm port = v at *
  go_wp2_with fail
  refine ((LT_rs _ b4).out).mono ?_
  rintro e w5 ⟨rfl, c5⟩
  have b5 := bel_then b4 c5
  clear c5
  go_wp2_with fail
  refine ((U1 _ (G.below b5)).out).mono ?_
  rintro e w6 ⟨rfl, c6⟩
  have b6 := bel_then b5 c6
  clear c6
  go_wp2_with fail
  refine (works_calls p4 p6 _ (G.below b6)).mono ?_
  rintro e w7 ⟨rfl, c7⟩
  have b7 := bel_then b6 c7
  clear c7
  go_wp2_with fail
  refine (upper_calls p4 p6 t _ (by omega)).mono ?_
  rintro e w8 ⟨rfl, c8⟩
  have b8 := bel_then b7 c8
  clear c8
  go_wp2_with fail
  refine ((U2 _ (G.below b8)).out).mono ?_
  rintro e w9 ⟨rfl, c9⟩
  have b9 := bel_then b8 c9
  clear c9
  go_wp2_with fail
  refine (upper_calls p4 p6 nm _ (by omega)).mono ?_
  rintro e w10 ⟨rfl, c10⟩
  have b10 := bel_then b9 c10
  clear c10
  go_wp2_with fail
  refine ((U3 _ (G.below b10)).out).mono ?_
  rintro e w11 ⟨rfl, c11⟩
  have b11 := bel_then b10 c11
  clear c11
  go_wp2_with fail
  go_ret
  exact ⟨ret_bool (by simp), b11⟩
end Go.Proofs.YtnchgmjeoajmiaaGreatDoor

/-! RowFnUseCase -/
namespace Go.Proofs.YtnchgmjeoajmiaaGreatDoor
open Go.ChangeShapes Go.WideShapes Go.ChangeAt Go.RowKit
open Go.ChangeMaps (open_string shut_string)
set_option linter.unusedVariables false
set_option linter.unusedSimpArgs false
theorem fnUseCase_own : ownKnob Tryz.prog.godebug = none := by kernel_rfl
theorem fnUseCase_laidOut : laidOutB Tryz.prog = true := by kernel_rfl
set_option maxRecDepth 100000 in
theorem fnUseCase_lifted (os : Os) (started : os.Started) (H : Type) (enc : TypeId × Value → H) :
    ReturnsInHanded {} Tryz.checked os 6 .any (fun w args => (Rows.fnUseCaseSpec.pre enc Tryz.prog Tryz.f6 Rows.fnUseCaseRow.domain false w args ∧ laidMetH Tryz.prog Rows.fnUseCaseRow.laid w) ∧ sizedMet enc Tryz.prog Tryz.f6 (OpenSpec.ofChange Rows.fnUseCaseSpec) false w args)
      (Rows.fnUseCaseSpec.post enc Tryz.prog Tryz.f6 false true false false) := by
  refine returnsInHanded_of_change_and (C := Tryz.checked) (X := fun w _ => laidMetH Tryz.prog Rows.fnUseCaseRow.laid w) (fun _ _ _ hh h => h.of_heap hh) fnUseCase_own started (by kernel_rfl) Tryz.func6
    (ChangeSpec.witness_shaped (enc := enc) (C := Tryz.checked) (os := os) (X := fun w _ => laidMetH Tryz.prog Rows.fnUseCaseRow.laid w) false (World.laidAll Tryz.prog os Rows.fnUseCaseRow.laid) #[.slice none 0 0, .string ByteArray.empty, .string ByteArray.empty] 8 (World.laidAll_os _ _ _)
      (World.shaped_of_ZipB (by kernel_rfl) (by kernel_rfl)) (by kernel_rfl) (by kernel_rfl) (by kernel_rfl)
      (by rw [MakeChecks.laidMetH_plain _ _ _ (by kernel_rfl)]; exact laidMet_laidAll _ (by kernel_rfl) (by kernel_rfl))) ?_
  intro W base args ds gs before hval0 hW hcnd _ hL _
  have hval : ∀ (j : Nat) t v, Tryz.f6.params[j]? = some t → args[j]? = some v → Value.okWide Tryz.prog W .any base t v := hval0
  have hW' := hW
  obtain ⟨p, q, hA0, hV, rfl, hfz, hnd⟩ := hW
  have hA : DataW.TrodAll enc Tryz.prog W 0 (fun _ => true) true Tryz.f6.params.toList args.toList ds p := hA0
  rw [Tryz.params6] at hA hval
  obtain ⟨v0, vs0, d0, ds0, p0, q0, hargs, rfl, rfl, h0, r0⟩ := trodAll_cons hA
  obtain ⟨v1, vs1, d1, ds1, p1, q1, rfl, rfl, rfl, h1, r1⟩ := trodAll_cons r0
  obtain ⟨v2, vs2, d2, ds2, p2, q2, rfl, rfl, rfl, h2, r2⟩ := trodAll_cons r1
  obtain ⟨rfl, rfl, rfl⟩ := trodAll_nil r2
  obtain rfl : args = #[v0, v1, v2] := by cases args; simp_all
  obtain ⟨gd, rfl⟩ : ∃ gd, gs = [gd] := by
    have hn : gs.length = 1 := (show DataW.TrodVars enc Tryz.prog W (fun _ => true) Rows.fnUseCaseSpec.vars gs q → gs.length = 1 from fun h => by
      match gs, h with
      | [], h => exact h.elim
      | [_], _ => rfl
      | _ :: _ :: _, h =>
        obtain ⟨_, _, _, _, _, _, _, _, _, _, hr, _⟩ := h
        exact hr.elim) hV
    match gs, hn with
    | [gd], _ => exact ⟨gd, rfl⟩
  have k0 := h0
  have lt0 : ∀ x ∈ p0, x.block < W.heap.size := by obtain ⟨m, hm⟩ := k0; exact DataW.trod_lt m _ _ _ hm
  obtain ⟨ao0, ln0, cp0, rfl⟩ := okWide_slice Tryz.underlying30 (hval 0 30 v0 rfl rfl)
  obtain ⟨A0, c0, rs0, ev0, hc0, hC0⟩ : ∃ A c rs, (Value.slice ao0 ln0 cp0) = .slice A rs.length c ∧ rs.length ≤ c ∧ YtnchgmjeoajmiaaGreatDoorW.PrintWords.Kd.C P.k42 W A rs.length rs := by
    obtain ⟨fuel, hf⟩ := h0
    exact open_rules (by simpa [Value.cells] using hf)
  rw [ev0] at k0 hW' ⊢
  obtain ⟨a1, rfl, rfl, rfl, y1⟩ := open_string Tryz.underlying9 (hval 1 9 v1 rfl rfl) h1
  obtain ⟨a2, rfl, rfl, rfl, y2⟩ := open_string Tryz.underlying9 (hval 2 9 v2 rfl rfl) h2
  rw [MakeChecks.laidMetH_plain _ _ _ (by kernel_rfl)] at hL
  obtain ⟨p4, p6, G⟩ := gw_of hL (by simp [Rows.fnUseCaseRow]) (by simp [Rows.fnUseCaseRow]) (by simp [Rows.fnUseCaseRow]) (by simp [Rows.fnUseCaseRow]) (by simp [Rows.fnUseCaseRow])
  refine (fnUseCase_calls p4 p6 A0 c0 rs0 a1 a2 W G hc0 hC0).mono fun e W' ⟨he, bel⟩ => ?_
  subst he
  exact ⟨_, rfl, _, _, _, [], _, _, hW', trodAll_mk1 (shut_bool Tryz.underlying4 _), (trodAll_cons_mk (Below.trod fnUseCase_laidOut (by kernel_rfl) (of_decide_eq_true (by kernel_rfl)) k0 bel lt0) (trodAll_cons_mk (shut_string Tryz.underlying9 y1) (trodAll_cons_mk (shut_string Tryz.underlying9 y2) trodAll_mk0))), var_kept (t0 := 246) fnUseCase_laidOut bel table_type (by kernel_rfl) (of_decide_eq_true (by kernel_rfl)) hV, bel.frame _, fun h => by cases h⟩
set_option maxRecDepth 1000000 in
theorem fnUseCase_holds : Rows.FnUseCaseSaid :=
  OpenClaim.holds_of_wide 6 Tryz.f6 rfl rfl rfl rfl rfl rfl rfl ⟨rfl, rfl, rfl, rfl, rfl⟩ rfl rfl rfl rfl rfl (by kernel_rfl) Tryz.func6 (joined_of fnUseCase_k0 fact_laid fact_maps fnUseCase_k3 fnUseCase_k4 fnUseCase_k5 fnUseCase_k6 fnUseCase_k7 fnUseCase_k8 fnUseCase_k9 fnUseCase_k10 fnUseCase_k11 fnUseCase_k12 fnUseCase_k13 fnUseCase_k14 fnUseCase_k15 fnUseCase_k16 fnUseCase_k17 fnUseCase_k18 fnUseCase_k19 fnUseCase_k20 fnUseCase_k21 fnUseCase_k22 fnUseCase_k23 fnUseCase_k24 fnUseCase_k25 fnUseCase_k26 fnUseCase_k27 fnUseCase_k28 fnUseCase_k29 fnUseCase_k30 fnUseCase_k31)
    (of_decide_eq_true (by kernel_rfl)) (by unfold Func.isWrapper; first | (rw [if_pos (by decide +kernel)]; kernel_rfl) | (rw [if_neg (by decide +kernel)]; exact ⟨rfl, rfl⟩))
    (fun os started H enc _ => fnUseCase_lifted os started H enc)
theorem fnUseCase_card : Rows.FnUseCaseCardSaid :=
  Claim7.holds_tied_plain_at .later [] [.data, .data, .data, .data, .listed, .data, .called, .called, .data, .zero, .pinned, .pinned] true (true, "255450aa6630a7317d4c7b85c8647b543eb43c66b87a2c3c8df52c519baec2f0") false fnUseCase_holds (fun _ h => by cases h) (by kernel_rfl) (fun _ h => by cases h) fnUseCase_row_tie rfl ⟨rfl, rfl⟩ (by kernel_rfl) rfl
    (fun f fn hf hfn => by
      obtain rfl : f = 6 := Option.some.inj ((show Tryz.prog.funcNamed "loop.example/pub-g01468/laws.FnUseCase" = some 6 by kernel_rfl).symm.trans hf) |>.symm
      obtain rfl : fn = Tryz.f6 := (Option.some.inj (Tryz.func6.symm.trans hfn)).symm
      exact ⟨by kernel_rfl, fun j t ht => by
        rw [Tryz.params6] at ht
        have hm : t ∈ [30, 9, 9] := by simpa using Array.mem_of_getElem? ht
        have hall : ([30, 9, 9].all fun u => !Tryz.prog.wantsStandIn u) = true := by kernel_rfl
        exact (show Tryz.prog.wantsStandIn t = false by simpa using List.all_eq_true.1 hall t hm)⟩)
    (by kernel_rfl)
end Go.Proofs.YtnchgmjeoajmiaaGreatDoor
