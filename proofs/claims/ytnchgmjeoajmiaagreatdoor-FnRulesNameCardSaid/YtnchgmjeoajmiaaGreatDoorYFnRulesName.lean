/- A rule over names is told to match a name and a port just where it is for them: FnRulesName returns true at every input, and what came in reads behind the call as before. Here: its walk. The condition: the listed package-level variables hold, when the call begins, what their own texts lay (the tied card). -/
import Derived.Test.YtnchgmjeoajmiaaGreatDoorMc
import Derived.Test.YtnchgmjeoajmiaaGreatDoorMa
import Derived.Test.YtnchgmjeoajmiaaGreatDoorMb
import Derived.Test.YtnchgmjeoajmiaaGreatDoorUx1
/-! Lawa -/
namespace Go.Proofs.YtnchgmjeoajmiaaGreatDoor
open Go.RowKit Go.Proofs.YtnchgmjeoajmiaaGreatDoorW.PrintWords
set_option linter.unusedSimpArgs false
set_option linter.unusedVariables false

/-- What each law gives. -/
def SaysTrue (w : World) (e : Ending) (w' : World) : Prop := e = .returned (.bool true) ∧ Below w.heap.size w w'

theorem not_le_big {n : Nat} (h : ¬ (2147483647 : Int) < (n : Int)) : n ≤ 2147483647 := by omega

theorem rks_of {rs : List P.S42} (h : rs.length ≤ 30 ∧ ∀ r ∈ rs, Rk r) : Rks rs := ⟨by omega, h.2⟩

theorem addr_text (nm port : ByteArray) : ((nm ++ (⟨#[58]⟩ : ByteArray)) ++ port) = MK (BL nm ++ [58] ++ BL port) := by
  apply eq_of_BL
  rw [BL_append, BL_append]

theorem bel_drawn {w w1 w2 : World} (h : Below w.heap.size w w1) (k : Drawn0 w1 w2) : Below w.heap.size w w2 := by
  obtain ⟨n, rfl⟩ := k
  exact pw_below_drewN h n

theorem local_eq (nm : ByteArray) : (nm.toList == [108, 111, 99, 97, 108, 104, 111, 115, 116]) = (BL nm == [108, 111, 99, 97, 108, 104, 111, 115, 116]) := by rw [toList_BL]

set_option maxRecDepth 100000 in
set_option maxHeartbeats 1000000 in
theorem fnUseName_calls (p4 p6 : Addr) (A : Option Addr) (c : Nat) (rs : List P.S42) (nm port : ByteArray) (w : World) (G : GW p4 p6 w) (hc : rs.length ≤ c) (hA : Kd.C P.k42 w A rs.length rs) :
    Calls Tryz.prog 8 #[.slice A rs.length c, .string nm, .string port] w (SaysTrue w) := by
  obtain ⟨kf, bf, hf, ef⟩ := fits2_ev rs
  have HF := Aside0.mk (P.laws_zzFits2.calls kf A c rs bf w hA hc hf)
  clear hf
  cases bf with
  | false =>
    clear hA
    go_enter Tryz.func8, Tryz.ntmps8
    go_wp2_with fail
    refine HF.out.mono ?_
    rintro e w1 ⟨rfl, b1⟩
    go_wp2_with fail
    go_ret
    exact ⟨rfl, b1⟩
  | true =>
  obtain ⟨lenR, fitR⟩ := ef rfl
  by_cases c1 : 2147483647 < nm.size
  · have d1 : decide ((2147483647 : Int) < (nm.size : Int)) = true := decide_eq_true (by omega)
    clear hA ef fitR c1
    go_enter Tryz.func8, Tryz.ntmps8
    go_wp2_with fail
    refine HF.out.mono ?_
    rintro e w1 ⟨rfl, b1⟩
    go_wp2_with fail
    go_ret
    exact ⟨rfl, b1⟩
  have d1 : decide ((2147483647 : Int) < (nm.size : Int)) = false := decide_eq_false (by omega)
  by_cases c2 : 2147483647 < port.size
  · have d2 : decide ((2147483647 : Int) < (port.size : Int)) = true := decide_eq_true (by omega)
    clear hA ef fitR c1 c2
    go_enter Tryz.func8, Tryz.ntmps8
    go_wp2_with fail
    refine HF.out.mono ?_
    rintro e w1 ⟨rfl, b1⟩
    go_wp2_with fail
    go_ret
    exact ⟨rfl, b1⟩
  have d2 : decide ((2147483647 : Int) < (port.size : Int)) = false := decide_eq_false (by omega)
  obtain ⟨br, er, hr⟩ := areRules_ev rs fitR lenR
  obtain ⟨kr, er⟩ := er.at
  obtain ⟨bn, en, hn⟩ := isName_ev nm (by omega)
  obtain ⟨kn, en⟩ := en.at
  obtain ⟨bp, ep, hp⟩ := isPort_ev port (by omega)
  obtain ⟨kp, ep⟩ := ep.at
  have HR := fun w' hb => Aside0.mk (P.spec_AreRules.calls kr A c rs br w' (Kd.C_below hA hb) hc er)
  have HN := fun w' => Aside0.mk (P.spec_IsName.calls kn nm bn w' en)
  have HP := fun w' => Aside0.mk (P.spec_IsPort.calls kp port bp w' ep)
  have HA := Aside0.mk hA
  have ER := Aside0.mk hr
  have EN := Aside0.mk hn
  have EP := Aside0.mk hp
  clear hA ef fitR c1 c2 er en ep hr hn hp
  cases br with
  | false =>
    go_enter Tryz.func8, Tryz.ntmps8
    go_wp2_with fail
    refine HF.out.mono ?_
    rintro e w1 ⟨rfl, b1⟩
    go_wp2_with fail
    refine (HR w1 b1).out.mono ?_
    rintro e w2 ⟨rfl, b2⟩
    have b2 := bel_then b1 b2
    go_wp2_with fail
    refine (works_calls p4 p6 _ (G.below b2)).mono ?_
    rintro e w3 ⟨rfl, b3⟩
    have b3 := bel_then b2 b3
    go_wp2_with fail
    go_ret
    exact ⟨rfl, b3⟩
  | true =>
  go_enter Tryz.func8, Tryz.ntmps8
  go_wp2_with fail
  refine HF.out.mono ?_
  rintro e w1 ⟨rfl, b1⟩
  go_wp2_with fail
  refine (HR w1 b1).out.mono ?_
  rintro e w2 ⟨rfl, b2⟩
  have b2 := bel_then b1 b2
  go_wp2_with fail
  refine (HN _).out.mono ?_
  rintro e w3 ⟨rfl, hw3⟩
  have b3 := bel_drawn b2 hw3
  clear hw3 b1 b2
  cases bn with
  | false =>
    go_wp2_with fail
    refine (works_calls p4 p6 _ (G.below b3)).mono ?_
    rintro e wk ⟨rfl, bk⟩
    have bk := bel_then b3 bk
    go_wp2_with fail
    go_ret
    exact ⟨rfl, bk⟩
  | true =>
  go_wp2_with fail
  refine (HP _).out.mono ?_
  rintro e w4 ⟨rfl, hw4⟩
  have b4 := bel_drawn b3 hw4
  clear hw4 b3
  cases bp with
  | false =>
    go_wp2_with fail
    refine (works_calls p4 p6 _ (G.below b4)).mono ?_
    rintro e wk ⟨rfl, bk⟩
    have bk := bel_then b4 bk
    go_wp2_with fail
    go_ret
    exact ⟨rfl, bk⟩
  | true =>
  have hN := EN.out (by simp)
  have hP := EP.out (by simp)
  have hK := rks_of (ER.out (by simp))
  have US := fun w' G => Aside0.mk (by
    have := uses_rules p4 p6 w' (joinB ⟨#[44]⟩ (rs.map ruleText)) rs (BL nm) (BL port) G (listed_plain rs hK) hN hP
    rw [← addr_text, MK_BL, MK_BL] at this
    exact this)
  have LT := fun w' hb => Aside0.mk (listText_calls p4 p6 rs ⟨#[44]⟩ A c w' (G.below hb) (fun r hr => (hK.2 r hr).small) (by have := hK.1; omega) (by decide) hc (Kd.C_below HA.out hb))
  have hns : nm.size ≤ 100 := by have := hN.len; rw [BL_size] at this; exact this
  have hps : port.size ≤ 5 := by have := hP.five; rw [BL_size] at this; exact this
  have hz : (nm ++ (⟨#[58]⟩ : ByteArray)).size = nm.size + 1 := ByteArray.size_append
  have HKs := Aside0.mk hK
  clear hN hP hK
  cases hloc : (nm.toList == [108, 111, 99, 97, 108, 104, 111, 115, 116]) with
  | true =>
    go_wp2_with fail
    refine (works_calls p4 p6 _ (G.below b4)).mono ?_
    rintro e w5 ⟨rfl, b5⟩
    have b5 := bel_then b4 b5
    go_wp2_with fail
    refine (LT _ b5).out.mono ?_
    rintro e w6 ⟨rfl, b6⟩
    have b6 := bel_then b5 b6
    go_wp2_with fail
    have U6 := (US w6 (G.below b6)).out
    rw [← local_eq, hloc] at U6
    refine U6.mono ?_
    rintro e w7 ⟨rfl, b7⟩
    have b7 := bel_then b6 b7
    go_wp2_with fail
    go_ret
    exact ⟨ret_bool (by simp), b7⟩
  | false =>
    obtain ⟨ka, hany⟩ := anyName_eq rs HKs.out nm port (by omega)
    rw [show mok nm port none = mok (MK (BL nm)) (MK (BL port)) none by rw [MK_BL, MK_BL]] at hany
    generalize hval : ((lists (effsOf rs) [] []).2.any (mok (MK (BL nm)) (MK (BL port)) none)) = val at hany
    have HAN := fun w' hb => Aside0.mk (P.spec_AnyName.calls ka A c rs nm port val w' (Kd.C_below HA.out hb) hc hany)
    have HVAL := Aside0.mk hval
    clear hany hval
    go_wp2_with fail
    refine (HAN _ b4).out.mono ?_
    rintro e w4' ⟨rfl, b4'⟩
    have b4' := bel_then b4 b4'
    go_wp2_with fail
    refine (works_calls p4 p6 _ (G.below b4')).mono ?_
    rintro e w5 ⟨rfl, b5⟩
    have b5 := bel_then b4' b5
    go_wp2_with fail
    refine (LT _ b5).out.mono ?_
    rintro e w6 ⟨rfl, b6⟩
    have b6 := bel_then b5 b6
    go_wp2_with fail
    have U6 := (US w6 (G.below b6)).out
    rw [← local_eq, hloc, ← MK_BL nm, ← MK_BL port, HVAL.out] at U6
    refine U6.mono ?_
    rintro e w7 ⟨rfl, b7⟩
    have b7 := bel_then b6 b7
    go_wp2_with fail
    go_ret
    exact ⟨ret_bool (by simp), b7⟩
end Go.Proofs.YtnchgmjeoajmiaaGreatDoor

/-! Textj -/
namespace Go.Proofs.YtnchgmjeoajmiaaGreatDoor
open Go.RowKit Go.Proofs.YtnchgmjeoajmiaaGreatDoorW.PrintWords
set_option linter.unusedSimpArgs false
set_option linter.unusedVariables false

theorem joinL_append (sep : List UInt8) (xs ys : List (List UInt8)) (hx : xs ≠ []) (hy : ys ≠ []) : joinL sep (xs ++ ys) = joinL sep xs ++ sep ++ joinL sep ys := by
  cases xs with
  | nil => exact absurd rfl hx
  | cons x xs =>
    cases ys with
    | nil => exact absurd rfl hy
    | cons y ys => simp [joinL]

theorem joinB_append (sep : ByteArray) (xs ys : List ByteArray) (hx : xs ≠ []) (hy : ys ≠ []) : joinB sep (xs ++ ys) = (joinB sep xs ++ sep) ++ joinB sep ys := by
  apply eq_of_BL
  rw [BL_append, BL_append]
  unfold joinB
  simp only [BL_MK]
  rw [List.map_append, joinL_append _ _ _ (by simpa using hx) (by simpa using hy)]

theorem joinB_len (sep : ByteArray) (rs : List P.S42) (h : ∀ r ∈ rs, Rk r) (hs : sep.size ≤ 100) : (joinB sep (rs.map ruleText)).size ≤ rs.length * 2110 := by
  have := joinL_len (BL sep) ((rs.map ruleText).map BL) 2010 (fun x hx => by
    rw [List.map_map] at hx
    obtain ⟨r, hr, rfl⟩ := List.mem_map.1 hx
    exact ruleText_len (h r hr))
  unfold joinB
  rw [MK_size]
  have e : (BL sep).length = sep.size := BL_size sep
  rw [e, List.length_map, List.length_map] at this
  exact Nat.le_trans this (Nat.mul_le_mul_left _ (by omega))

theorem Rks.append {a b : List P.S42} (ha : a.length ≤ 30 ∧ ∀ r ∈ a, Rk r) (hb : b.length ≤ 30 ∧ ∀ r ∈ b, Rk r) : Rks (a ++ b) := by
  refine ⟨by rw [List.length_append]; omega, fun r hr => ?_⟩
  rcases List.mem_append.1 hr with h | h
  · exact ha.2 r h
  · exact hb.2 r h

/-- What the lists say of a name, rule by rule. -/
theorem anyN_eq (rs : List P.S42) (h p : ByteArray) : (lists (effsOf rs) [] []).2.any (mok h p none) = rs.any (fun r => sayN h p (eff r)) := by
  rw [any_names]
  unfold effsOf
  split
  · rename_i e; subst e; rfl
  · rw [List.any_map]; rfl
theorem anyN_append (a b : List P.S42) (h p : ByteArray) : (lists (effsOf (a ++ b)) [] []).2.any (mok h p none) = ((lists (effsOf a) [] []).2.any (mok h p none) || (lists (effsOf b) [] []).2.any (mok h p none)) := by
  rw [anyN_eq, anyN_eq, anyN_eq, List.any_append]
theorem anyN_reverse (a : List P.S42) (h p : ByteArray) : (lists (effsOf a.reverse) [] []).2.any (mok h p none) = (lists (effsOf a) [] []).2.any (mok h p none) := by
  rw [anyN_eq, anyN_eq, List.any_reverse]

/-- Two lists with a comma between them. -/
theorem listed_two (a b : List P.S42) (ha : a.length ≤ 30 ∧ ∀ r ∈ a, Rk r) (hb : b.length ≤ 30 ∧ ∀ r ∈ b, Rk r) (na : a ≠ []) (nb : b ≠ []) :
    Listed ((joinB ⟨#[44]⟩ (a.map ruleText) ++ (⟨#[44]⟩ : ByteArray)) ++ joinB ⟨#[44]⟩ (b.map ruleText)) (effsOf (a ++ b)) := by
  have := listed_plain (a ++ b) (Rks.append ha hb)
  rw [List.map_append, joinB_append _ _ _ (by simpa using na) (by simpa using nb)] at this
  exact this

/-- Spaces beside commas, and about the list. -/
theorem joinL_spaced (a b s : List UInt8) : ∀ (xs : List (List UInt8)), xs ≠ [] → a ++ joinL (b ++ s ++ a) xs ++ b = joinL s (xs.map fun x => a ++ x ++ b)
  | [], h => absurd rfl h
  | [x], _ => by simp [joinL]
  | x :: y :: t, _ => by
    have ih := joinL_spaced a b s (y :: t) (by simp)
    have e1 : joinL (b ++ s ++ a) (x :: y :: t) = x ++ (b ++ s ++ a) ++ joinL (b ++ s ++ a) (y :: t) := by simp [joinL]
    have e2 : joinL s ((x :: y :: t).map fun x => a ++ x ++ b) = (a ++ x ++ b) ++ s ++ joinL s ((y :: t).map fun x => a ++ x ++ b) := by simp [joinL]
    rw [e1, e2, ← ih]
    simp

theorem sps1 : Sps [32] := fun x hx => by simpa using hx
theorem listed_spaced (rs : List P.S42) (hr : Rks rs) : Listed (((⟨#[32]⟩ : ByteArray) ++ joinB ⟨#[32, 44, 32]⟩ (rs.map ruleText)) ++ (⟨#[32]⟩ : ByteArray)) (effsOf rs) := by
  have := listed_rules rs hr [32] [32] id sps1 sps1 (by simp) (by simp) (fun x hx => ⟨hx.1, hx.2.1, hx.2.2.1, by
    have := lower_map (q := [x]) (fun b hb => by simp at hb; subst hb; exact hx.2.2.2)
    simpa using this⟩)
  have e : ((⟨#[32]⟩ : ByteArray) ++ joinB ⟨#[32, 44, 32]⟩ (rs.map ruleText)) ++ (⟨#[32]⟩ : ByteArray) = MK (if rs = [] then [32] ++ [32] else joinL [44] (rs.map fun r => [32] ++ (BL (ruleText r)).map id ++ [32])) := by
    apply eq_of_BL
    rw [BL_append, BL_append, BL_MK]
    unfold joinB
    simp only [BL_MK]
    split
    · rename_i h; subst h; rfl
    · rename_i h
      have := joinL_spaced [32] [32] [44] ((rs.map ruleText).map BL) (by simpa using h)
      rw [List.map_map, List.map_map] at this
      rw [List.map_map]
      simp only [List.map_id]
      exact this
  rw [e]
  exact this

/-! ### Capitals -/
def upperB (b : UInt8) : UInt8 := if 97 ≤ b.toNat ∧ b.toNat ≤ 122 then b - 97 + 65 else b
def upperT (s : ByteArray) : ByteArray := MK ((BL s).map upperB)
theorem upper_all : ∀ i : Fin 256, ¬ (65 ≤ i.val ∧ i.val ≤ 90) → 32 < i.val → i.val < 128 → i.val ≠ 44 →
    32 < (upperB (UInt8.ofNat i.val)).toNat ∧ (upperB (UInt8.ofNat i.val)).toNat < 128 ∧ (upperB (UInt8.ofNat i.val)).toNat ≠ 44 ∧ Lib.lowerB (upperB (UInt8.ofNat i.val)) = UInt8.ofNat i.val := by decide +kernel
theorem upper_ok (x : UInt8) (hx : RuleB x) : 32 < (upperB x).toNat ∧ (upperB x).toNat < 128 ∧ (upperB x).toNat ≠ 44 ∧ Lib.lowerB (upperB x) = x := by
  have := upper_all ⟨x.toNat, x.toNat_lt⟩ hx.2.2.2 hx.1 hx.2.1 hx.2.2.1
  simpa using this
theorem upper_host : ∀ i : Fin 256, (97 ≤ i.val ∧ i.val ≤ 122) ∨ (48 ≤ i.val ∧ i.val ≤ 57) ∨ i.val = 45 ∨ i.val = 46 →
    (32 < (upperB (UInt8.ofNat i.val)).toNat ∧ (upperB (UInt8.ofNat i.val)).toNat < 128 ∧ (upperB (UInt8.ofNat i.val)).toNat ≠ 58 ∧ (upperB (UInt8.ofNat i.val)).toNat ≠ 91 ∧ (upperB (UInt8.ofNat i.val)).toNat ≠ 93 ∧ (upperB (UInt8.ofNat i.val)).toNat ≠ 37) ∧ (upperB (UInt8.ofNat i.val)).toNat ≠ 108 ∧ Lib.lowerB (upperB (UInt8.ofNat i.val)) = UInt8.ofNat i.val ∧ (97 ≤ i.val → ¬ (48 ≤ (upperB (UInt8.ofNat i.val)).toNat ∧ (upperB (UInt8.ofNat i.val)).toNat ≤ 57)) := by decide +kernel

theorem joinL_map (g : UInt8 → UInt8) (sep : List UInt8) (xs : List (List UInt8)) : (joinL sep xs).map g = joinL (sep.map g) (xs.map (·.map g)) := by
  cases xs with
  | nil => rfl
  | cons x t =>
    simp only [joinL, List.map_append, List.map_cons, List.map_flatten, List.map_map]
    congr 2
    exact List.map_congr_left fun y _ => by simp

theorem listed_upper (rs : List P.S42) (hr : Rks rs) : Listed (upperT (joinB ⟨#[44]⟩ (rs.map ruleText))) (effsOf rs) := by
  have := listed_rules rs hr [] [] upperB (fun x hx => by cases hx) (fun x hx => by cases hx) (by simp) (by simp) upper_ok
  have e : upperT (joinB ⟨#[44]⟩ (rs.map ruleText)) = MK (if rs = [] then [] ++ [] else joinL [44] (rs.map fun r => [] ++ (BL (ruleText r)).map upperB ++ [])) := by
    unfold upperT joinB
    simp only [BL_MK]
    split
    · rename_i h; subst h; rfl
    · rw [joinL_map, List.map_map, List.map_map]
      simp only [List.nil_append, List.append_nil]
      rfl
  rw [e]
  exact this

theorem Nm.upper_addr {nm p : List UInt8} (h : Nm nm) (hp : Pt p) : NameAddr (MK (nm.map upperB ++ [58] ++ p)) (MK (nm.map upperB)) (MK p) (MK nm) := by
  have hall : ∀ b ∈ nm, _ := fun b hb => upper_host ⟨b.toNat, b.toNat_lt⟩ (h.all b hb)
  simp only [UInt8.ofNat_toNat] at hall
  refine nameAddr_of (by simpa using h.ne) (by have := h.len; rw [List.length_map]; omega) (fun b hb => ?_) ?_ ?_ hp
  · obtain ⟨x, hx, rfl⟩ := List.mem_map.1 hb
    exact (hall x hx).1
  · obtain ⟨x, t, e, h1, h2⟩ := h.head
    have hx := hall x (by rw [e]; exact List.mem_cons_self)
    rw [e, List.map_cons, MK_first rfl]
    have := hx.2.2.2 h1
    omega
  · rw [List.map_map]
    conv => rhs; rw [← List.map_id nm]
    exact List.map_congr_left fun y hy => (hall y hy).2.2.1

theorem Nm.upper_local {nm : List UInt8} (h : Nm nm) : (MK (nm.map upperB)).toList ≠ [108, 111, 99, 97, 108, 104, 111, 115, 116] := by
  rw [toList_MK]
  obtain ⟨x, t, e, h1, h2⟩ := h.head
  have hx := upper_host ⟨x.toNat, x.toNat_lt⟩ (h.all x (by rw [e]; exact List.mem_cons_self))
  simp only [UInt8.ofNat_toNat] at hx
  rw [e, List.map_cons]
  intro k
  injection k with k _
  exact hx.2.1 (by rw [k]; rfl)

/-- A request to a name in capitals. -/
theorem uses_upper (p4 p6 : Addr) (w : World) (no : ByteArray) (rs : List P.S42) (nm p : List UInt8) (G : GW p4 p6 w) (hl : Listed no (effsOf rs)) (hn : Nm nm) (hp : Pt p) :
    Calls Tryz.prog 24 #[.string no, .string (MK (nm.map upperB ++ [58] ++ p))] w fun e w' => e = .returned (.bool (!((lists (effsOf rs) [] []).2.any (mok (MK nm) (MK p) none)))) ∧ Below w.heap.size w w' :=
  uses_name p4 p6 no (effsOf rs) w _ (MK (nm.map upperB)) (MK p) (MK nm) G hl (hn.upper_addr hp) hn.upper_local
end Go.Proofs.YtnchgmjeoajmiaaGreatDoor

/-! Says -/
namespace Go.Proofs.YtnchgmjeoajmiaaGreatDoor
open Go.RowKit Go.Proofs.YtnchgmjeoajmiaaGreatDoorW.PrintWords
set_option linter.unusedSimpArgs false
set_option linter.unusedVariables false

/-- Whether a request to a name and a port goes through the proxy, by rules. -/
def says (rs : List P.S42) (nm port : ByteArray) : Bool := !(nm.toList == [108, 111, 99, 97, 108, 104, 111, 115, 116]) && !((lists (effsOf rs) [] []).2.any (mok nm port none))
theorem says_append (a b : List P.S42) (nm port : ByteArray) : says (a ++ b) nm port = (says a nm port && says b nm port) := by
  unfold says
  rw [anyN_append]
  generalize (lists (effsOf a) [] []).2.any (mok nm port none) = x
  generalize (lists (effsOf b) [] []).2.any (mok nm port none) = y
  generalize (nm.toList == [108, 111, 99, 97, 108, 104, 111, 115, 116]) = z
  cases x <;> cases y <;> cases z <;> rfl
theorem says_reverse (a : List P.S42) (nm port : ByteArray) : says a.reverse nm port = says a nm port := by
  unfold says
  rw [anyN_reverse]

theorem uses_text (p4 p6 : Addr) (w : World) (no : ByteArray) (rs : List P.S42) (nm port : ByteArray) (G : GW p4 p6 w) (hl : Listed no (effsOf rs)) (hn : Nm (BL nm)) (hp : Pt (BL port)) :
    Calls Tryz.prog 24 #[.string no, .string ((nm ++ (⟨#[58]⟩ : ByteArray)) ++ port)] w fun e w' => e = .returned (.bool (says rs nm port)) ∧ Below w.heap.size w w' := by
  have := uses_rules p4 p6 w no rs (BL nm) (BL port) G hl hn hp
  rw [← addr_text, MK_BL, MK_BL, ← local_eq] at this
  exact this

theorem uses_text_upper (p4 p6 : Addr) (w : World) (no : ByteArray) (rs : List P.S42) (nm port : ByteArray) (G : GW p4 p6 w) (hl : Listed no (effsOf rs)) (hn : Nm (BL nm)) (hp : Pt (BL port)) (hloc : (nm.toList == [108, 111, 99, 97, 108, 104, 111, 115, 116]) = false) :
    Calls Tryz.prog 24 #[.string no, .string ((upperT nm ++ (⟨#[58]⟩ : ByteArray)) ++ port)] w fun e w' => e = .returned (.bool (says rs nm port)) ∧ Below w.heap.size w w' := by
  have := uses_upper p4 p6 w no rs (BL nm) (BL port) G hl hn hp
  rw [show says rs nm port = !((lists (effsOf rs) [] []).2.any (mok nm port none)) by unfold says; rw [hloc]; rfl]
  rw [MK_BL, MK_BL] at this
  rw [addr_text, show BL (upperT nm) = (BL nm).map upperB from rfl]
  exact this

theorem upperT_size (s : ByteArray) : (upperT s).size = s.size := by
  unfold upperT
  rw [MK_size, List.length_map, BL_size]
end Go.Proofs.YtnchgmjeoajmiaaGreatDoor

/-! Push -/
namespace Go.Proofs.YtnchgmjeoajmiaaGreatDoor
open Go.RowKit Go.Proofs.YtnchgmjeoajmiaaGreatDoorW.PrintWords
set_option linter.unusedSimpArgs false
set_option linter.unusedVariables false

section
variable {P : Program} {ops : Array Oper} {rest : List Oper} {o : Oper} {a : Act} {Q : Exit → Act → World → Prop} {α : Type} {R : α → List Value → Prop}
/-- What the builtin does, at two slice types of one element. -/
theorem run_rows {W : World} (base : Nat) (ty t u e : TypeId) (z : Value) (size bytes : Nat)
    (ht : P.underlying t = some (.slice e)) (hu : P.underlying u = some (.slice e)) (hinfo : (P.info? e).map (fun i => (i.zero, i.size, i.bytes)) = some (some z, size, bytes)) (hz : z.cells.size = size) (hs0 : 0 < size) (hb0 : 0 < bytes)
    (v : Value) (xs ys : List α) (A : Option Addr) (m c : Nat)
    (HO : OwnRow R e size W base v xs) (HR : ReadsRow R size W A m ys) (hone : ∀ p cs, R p cs → ∀ u ∈ cs, u.oneCell' = true)
    (hbase : base ≤ W.heap.size) (hl : (xs.length + m) * bytes ≤ 140737488355328) :
    ∃ v1 w1, (Builtin.append_ #[t, u] ty #[v, .slice A m c]).run P W = .ok v1 w1 ∧ OwnRow R e size w1 base v1 (xs ++ ys) ∧ W.grownBy w1 v.ownBlock ∧ (v1.ownBlock = v.ownBlock ∨ ∃ b, v1.ownBlock = some b ∧ W.heap.size ≤ b) := by
  have hsame : (Builtin.append_ #[t, u] ty #[v, .slice A m c]).run P W = (Builtin.append_ #[t, t] ty #[v, .slice A m c]).run P W := by
    obtain ⟨_, h, _⟩ := HO
    rcases h.2 with ⟨rfl, _⟩ | ⟨g, cap, cur, rfl, _⟩
    · simp only [Builtin.append_, Sem.run_bind, run_underlying ht, run_underlying hu, Result.andThen_ok, List.getElem?_toArray, List.getElem?_cons_zero, List.getElem?_cons_succ]
    · simp only [Builtin.append_, Sem.run_bind, run_underlying ht, run_underlying hu, Result.andThen_ok, List.getElem?_toArray, List.getElem?_cons_zero, List.getElem?_cons_succ]
  rw [hsame]
  obtain ⟨i0, hi, hzz⟩ := Option.map_eq_some_iff.1 hinfo
  simp only [Prod.mk.injEq] at hzz
  obtain ⟨hz0, hz1, hz2⟩ := hzz
  have hm : ys.length = m := HR.1
  have hlen : xs.length + m ≤ 140737488355328 := Nat.le_trans (Nat.le_mul_of_pos_right _ hb0) hl
  obtain ⟨inner, hown, hr⟩ := HO
  rcases A with _ | ad
  · have h0 : m = 0 := by
      rcases Nat.eq_zero_or_pos m with h0 | h0
      · exact h0
      · obtain ⟨ad, h, _⟩ := HR.2.2 h0
        cases h
    subst h0
    obtain rfl : ys = [] := List.eq_nil_of_length_eq_zero hm
    refine ⟨v, W, ?_, by rw [List.append_nil]; exact ⟨inner, hown, hr⟩, World.grownBy.refl W _, .inl rfl⟩
    rcases hown.2 with ⟨rfl, hn⟩ | ⟨g, cap, cur, rfl, _, _, hnc, _⟩
    · simp [Builtin.append_, run_underlying ht, sizeOf, typeInfo, hi, Builtin.lenOf, Builtin.firstCells]
    · simp [Builtin.append_, run_underlying ht, sizeOf, typeInfo, hi, Builtin.lenOf, Builtin.firstCells, hnc, storeCells]
  · obtain ⟨news, hnM, hnc⟩ := ReadsRow.inner_ HR
    have hone : ∀ u ∈ news, u.oneCell' = true := by
      intro u hu
      obtain ⟨q, hq, rfl⟩ := List.mem_iff_getElem.1 hu
      have hql : q / size < ys.length := by
        rw [Nat.div_lt_iff_lt_mul hs0]
        rw [← hnM.1]
        exact hq
      have hc := hnM.2 (q / size) _ (List.getElem?_eq_getElem hql)
      refine hone _ _ hc _ ?_
      rw [List.mem_iff_getElem?]
      refine ⟨q % size, ?_⟩
      rw [List.getElem?_take, if_pos (Nat.mod_lt _ hs0), List.getElem?_drop, Nat.mul_comm, Nat.div_add_mod, List.getElem?_eq_getElem hq]
    obtain ⟨v1, w1, hrun, h2, hg, _, hat⟩ := run_append_own_at (P := P) W base t ty e i0 z size bytes ht hi hz0 hz1 hz2 hz hs0 v xs.length inner hown ad m c news (by rw [hnM.1, hm]) hnc hone (by simp only [maxLen]; omega) hl hbase
    refine ⟨v1, w1, hrun, ⟨inner ++ news, by rw [List.length_append, hm]; exact h2, Kd.reps_append hr hnM⟩, hg, ?_⟩
    rcases hat with hat | hat
    · exact .inl hat
    · exact .inr ⟨_, hat, Nat.le_refl _⟩

theorem own_rows {w0 W : World} (base : Nat) (hgd : o.guard = none) (s x : Operand) (t u e : TypeId) (z : Value) (size bytes : Nat)
    (ho : o.op = .call { callee := .builtin .append, args := #[s, x], argTypes := #[t, u] })
    (ht : P.underlying t = some (.slice e)) (hu : P.underlying u = some (.slice e)) (hinfo : (P.info? e).map (fun i => (i.zero, i.size, i.bytes)) = some (some z, size, bytes)) (hz : z.cells.size = size) (hs0 : 0 < size) (hb0 : 0 < bytes)
    (v : Value) (xs ys : List α) (A : Option Addr) (m c : Nat) (hs : a.eval s = v) (hx : a.eval x = .slice A m c)
    (HO : OwnRow R e size W base v xs) (HR : ReadsRow R size W A m ys) (hone : ∀ p cs, R p cs → ∀ u ∈ cs, u.oneCell' = true)
    (HB : Below base w0 W) (hbase : base ≤ W.heap.size) (hl : (xs.length + m) * bytes ≤ 140737488355328)
    (h : ∀ v1 w1, OwnRow R e size w1 base v1 (xs ++ ys) → Below base w0 w1 → W.grownBy w1 v.ownBlock → (v1.ownBlock = v.ownBlock ∨ ∃ b, v1.ownBlock = some b ∧ W.heap.size ≤ b) → wpList P ops Q rest (a.put o.dst v1) w1) :
    wpList P ops Q (o :: rest) a W := by
  obtain ⟨v1, w1, hr1, h1, hg, hat⟩ := run_rows (P := P) (W := W) base o.type t u e z size bytes ht hu hinfo hz hs0 hb0 v xs ys A m c HO HR hone hbase hl
  obtain ⟨inner, hown, hr⟩ := HO
  refine wpList_plain hgd fun K hK => ?_
  unfold Oper.wp execOp
  simp only [ho, resolve, invoke, builtin, Sem.run_bind, Sem.run_pure, Result.andThen_ok, List.map_toArray, List.map_cons, List.map_nil, hs, hx, hr1]
  exact hK _ _ (h v1 w1 h1 (HB.grown hg hbase (own_base hown)) hg hat)
end
end Go.Proofs.YtnchgmjeoajmiaaGreatDoor

/-! Zzrules -/
namespace Go.Proofs.YtnchgmjeoajmiaaGreatDoor
open Go.RowKit Go.Proofs.YtnchgmjeoajmiaaGreatDoorW.PrintWords
set_option linter.unusedSimpArgs false
set_option linter.unusedVariables false

theorem info4b : (Tryz.prog.info? 4).map (fun i => (i.zero, i.size, i.bytes)) = some (some (.bool false), 1, 1) := by kernel_rfl
/-- A row of bools of the call's own. -/
abbrev OwnB (w W : World) (v : Value) (bs : List Bool) : Prop := OwnRow (fun (b : Bool) cs => cs = [.bool b]) 4 1 w W.heap.size v bs

set_option maxRecDepth 100000 in
set_option maxHeartbeats 1000000 in
theorem zzRules_calls (p4 p6 : Addr) (no : ByteArray) (effs : List Eff) (w : World) (host port : ByteArray) (x : Option (Int × Int × Int × Int)) (ipv : Value) (ips doms : List Mt) (hei : (lists effs [] []).1 = ips) (hed : (lists effs [] []).2 = doms) (G : GW p4 p6 w) (hl : Listed no effs) (hlow : host.size ≤ 9223372036854775807) (hx : IpV w x ipv) :
    Calls Tryz.prog 42 #[.string no, .string host, .string port, ipv] w fun e w' => ∃ v1 v2, e = .returned (.tuple #[v1, v2]) ∧ OwnB w' w v1 (ips.map (mok host port x)) ∧ OwnB w' w v2 (doms.map (mok host port x)) ∧ Below w.heap.size w w' := by
  have hgood := hl.good
  have hlen := hl.len
  have HL := Aside0.mk hl
  have HX0 := Aside0.mk hx
  clear hx hl
  go_enter Tryz.func42, Tryz.ntmps42
  go_wp2_with fail
  refine (init_listed p4 p6 no effs w G HL.out).mono ?_
  rintro e W ⟨rfl, hc, hb⟩
  rw [hei] at hgood hlen hc
  rw [hed] at hgood hlen hc
  clear hei hed
  obtain ⟨vi, vd, hcb, hvi, hvd, _⟩ := hc
  obtain ⟨A, cap, hvl⟩ := hvd.len
  obtain ⟨A', capI, hvlI⟩ := hvi.len
  subst hvl
  subst hvlI
  have q := blk_lt hcb
  have HC := Aside0.mk hcb
  have HD := Aside0.mk hvd
  have HI := Aside0.mk hvi
  have HGI := Aside0.mk hgood.1
  have HG := Aside0.mk hgood.2
  have HB := Aside0.mk hb
  have lI := hlen.1
  have lD := hlen.2
  have HX := Aside0.mk (show IpV W x ipv from by
    have hx := HX0.out
    match x, hx with
    | none, hx => exact hx
    | some (a, b, c, d), ⟨g, cap, e, h4, e0, e1, e2, e3⟩ => exact ⟨g, cap, e, h4, cell_on hb e0, cell_on hb e1, cell_on hb e2, cell_on hb e3⟩)
  have d6 := blk_cell hcb 6
  simp only [List.getElem?_toArray, List.getElem?_cons_zero, List.getElem?_cons_succ] at d6
  clear hvi hvd hgood hlen hcb hb HX0
  go_wp2_with fail
  go_loopg [8, 26] ips.length (fun kq vo v w' => ∃ i : Nat, v = .int .i64 i ∧ Aside0 (i ≤ ips.length ∧ kq + i = ips.length ∧ OwnB w' W vo ((ips.map (mok host port x)).take i) ∧ Below W.heap.size W w'))
  case atStart => exact ⟨0, rfl, Aside0.mk ⟨Nat.zero_le _, by omega, OwnRow.none_ _ _ _ _ _, Below.refl _ _⟩⟩
  case round =>
    obtain ⟨i, rfl, HA⟩ := hrel
    have hle := HA.out.1
    have hk := HA.out.2.1
    rcases Nat.lt_or_ge i ips.length with hi | hge
    · have HM := Aside0.mk (show ips[i]? = some (ips[i]'hi) from List.getElem?_eq_getElem hi)
      have hgood := HGI.out _ (List.getElem_mem hi)
      obtain ⟨g, cap', u, hv, hcell, hmt⟩ := HI.out.cell HA.out.2.2.2 HM.out
      injection hv with hA _ hcap
      subst hA
      subst hcap
      have htk : (ips.map (mok host port x)).take (i + 1) = (ips.map (mok host port x)).take i ++ [mok host port x (ips[i]'hi)] := by rw [List.take_succ_eq_append_getElem (by rw [List.length_map]; exact hi), List.getElem_map]
      have HTK := Aside0.mk htk
      clear htk
      generalize ips[i]'hi = m at HM hmt hgood HTK
      have hby := HA.out.2.2.2
      have HXn := HX.out
      cases m with
      | all =>
        obtain ⟨rfl, hcall⟩ := say_all (w := wr) hmt host port ipv x
        have HCALL := Aside0.mk hcall
        clear hcall hmt hgood hby HXn
        go_wp2_with fail
        refine HCALL.out.mono ?_
        rintro e wc ⟨rfl, bc⟩
        have HBC := Aside0.mk bc
        clear HCALL bc
        generalize mok host port x (.all) = r at HTK ⊢
        go_wp2_with (at_builtin; refine OwnRow.append (R := fun (b : Bool) cs => cs = [.bool b]) (w0 := W) W.heap.size rfl (.tmp 30) (.tmp 36) 47 4 (.bool false) 1 1 rfl Tryz.underlying47 info4b rfl (by decide) (by decide) _ ((ips.map (mok host port x)).take i) r [.bool r] rfl rfl rfl rfl (by simp [Value.oneCell']) (OwnRow.below HA.out.2.2.1 HBC.out) (bel_then HA.out.2.2.2 HBC.out) (Nat.le_trans HA.out.2.2.2.size HBC.out.size) (by rw [List.length_take, List.length_map]; omega) ?_)
        intro vn wn hn1 hn2 hn3 hn4
        have HN1 := Aside0.mk hn1
        have HN2 := Aside0.mk hn2
        clear hn1 hn2 hn3 hn4
        go_wp2_with fail
        go_roundg (gk - 1)
        case measure => omega
        case rel => exact ⟨i + 1, by simp, Aside0.mk ⟨by omega, by omega, by rw [HTK.out]; exact HN1.out, HN2.out⟩⟩
      | net ml mm =>
        obtain ⟨q, rfl, hcall⟩ := say_net (w := wr) hmt hgood hby HXn host port
        have HCALL := Aside0.mk hcall
        clear hcall hmt hgood hby HXn
        go_wp2_with fail
        refine HCALL.out.mono ?_
        rintro e wc ⟨rfl, bc⟩
        have HBC := Aside0.mk bc
        clear HCALL bc
        generalize mok host port x (.net ml mm) = r at HTK ⊢
        go_wp2_with (at_builtin; refine OwnRow.append (R := fun (b : Bool) cs => cs = [.bool b]) (w0 := W) W.heap.size rfl (.tmp 30) (.tmp 36) 47 4 (.bool false) 1 1 rfl Tryz.underlying47 info4b rfl (by decide) (by decide) _ ((ips.map (mok host port x)).take i) r [.bool r] rfl rfl rfl rfl (by simp [Value.oneCell']) (OwnRow.below HA.out.2.2.1 HBC.out) (bel_then HA.out.2.2.2 HBC.out) (Nat.le_trans HA.out.2.2.2.size HBC.out.size) (by rw [List.length_take, List.length_map]; omega) ?_)
        intro vn wn hn1 hn2 hn3 hn4
        have HN1 := Aside0.mk hn1
        have HN2 := Aside0.mk hn2
        clear hn1 hn2 hn3 hn4
        go_wp2_with fail
        go_roundg (gk - 1)
        case measure => omega
        case rel => exact ⟨i + 1, by simp, Aside0.mk ⟨by omega, by omega, by rw [HTK.out]; exact HN1.out, HN2.out⟩⟩
      | ip e0 e1 e2 e3 mp =>
        obtain ⟨q, rfl, hcall⟩ := say_ip (w := wr) hmt hby HXn host port
        have HCALL := Aside0.mk hcall
        clear hcall hmt hgood hby HXn
        go_wp2_with fail
        refine HCALL.out.mono ?_
        rintro e wc ⟨rfl, bc⟩
        have HBC := Aside0.mk bc
        clear HCALL bc
        generalize mok host port x (.ip e0 e1 e2 e3 mp) = r at HTK ⊢
        go_wp2_with (at_builtin; refine OwnRow.append (R := fun (b : Bool) cs => cs = [.bool b]) (w0 := W) W.heap.size rfl (.tmp 30) (.tmp 36) 47 4 (.bool false) 1 1 rfl Tryz.underlying47 info4b rfl (by decide) (by decide) _ ((ips.map (mok host port x)).take i) r [.bool r] rfl rfl rfl rfl (by simp [Value.oneCell']) (OwnRow.below HA.out.2.2.1 HBC.out) (bel_then HA.out.2.2.2 HBC.out) (Nat.le_trans HA.out.2.2.2.size HBC.out.size) (by rw [List.length_take, List.length_map]; omega) ?_)
        intro vn wn hn1 hn2 hn3 hn4
        have HN1 := Aside0.mk hn1
        have HN2 := Aside0.mk hn2
        clear hn1 hn2 hn3 hn4
        go_wp2_with fail
        go_roundg (gk - 1)
        case measure => omega
        case rel => exact ⟨i + 1, by simp, Aside0.mk ⟨by omega, by omega, by rw [HTK.out]; exact HN1.out, HN2.out⟩⟩
      | dom dh dp mh =>
        obtain ⟨rfl, hcall⟩ := say_dom (w := wr) hmt hgood HXn host port hlow
        have HCALL := Aside0.mk hcall
        clear hcall hmt hgood hby HXn
        go_wp2_with fail
        refine HCALL.out.mono ?_
        rintro e wc ⟨rfl, bc⟩
        have HBC := Aside0.mk bc
        clear HCALL bc
        generalize mok host port x (.dom dh dp mh) = r at HTK ⊢
        go_wp2_with (at_builtin; refine OwnRow.append (R := fun (b : Bool) cs => cs = [.bool b]) (w0 := W) W.heap.size rfl (.tmp 30) (.tmp 36) 47 4 (.bool false) 1 1 rfl Tryz.underlying47 info4b rfl (by decide) (by decide) _ ((ips.map (mok host port x)).take i) r [.bool r] rfl rfl rfl rfl (by simp [Value.oneCell']) (OwnRow.below HA.out.2.2.1 HBC.out) (bel_then HA.out.2.2.2 HBC.out) (Nat.le_trans HA.out.2.2.2.size HBC.out.size) (by rw [List.length_take, List.length_map]; omega) ?_)
        intro vn wn hn1 hn2 hn3 hn4
        have HN1 := Aside0.mk hn1
        have HN2 := Aside0.mk hn2
        clear hn1 hn2 hn3 hn4
        go_wp2_with fail
        go_roundg (gk - 1)
        case measure => omega
        case rel => exact ⟨i + 1, by simp, Aside0.mk ⟨by omega, by omega, by rw [HTK.out]; exact HN1.out, HN2.out⟩⟩
    · have hil : i = ips.length := by omega
      subst hil
      clear hge hle hk
      have HO1 := Aside0.mk (show OwnB wr W _ (ips.map (mok host port x)) by have := HA.out.2.2.1; rw [List.take_of_length_le (by rw [List.length_map]; omega)] at this; exact this)
      have HB1 := Aside0.mk HA.out.2.2.2
      clear HA HI HGI d6
      have HXold := Aside0.mk HX.out
      clear HX
      generalize wr = W2 at *
      have hcb := (HB1.out.block _ q).trans HC.out
      have HD2 := Aside0.mk (HD.out.kept (Kp.below HB1.out) (fun g hg => by
        obtain ⟨_, cs, hc⟩ := HD.out.typed g hg
        exact HB1.out.block g (blk_lt hc)))
      have d7 := blk_cell hcb 7
      simp only [List.getElem?_toArray, List.getElem?_cons_zero, List.getElem?_cons_succ] at d7
      have HX := Aside0.mk (show IpV W2 x ipv from by
        have hx := HXold.out
        have hb := HB1.out
        match x, hx with
        | none, hx => exact hx
        | some (a, b, c, d), ⟨g, cap, e, h4, e0, e1, e2, e3⟩ => exact ⟨g, cap, e, h4, cell_on hb e0, cell_on hb e1, cell_on hb e2, cell_on hb e3⟩)
      clear HD HXold hcb
      go_wp2_with fail
      go_loopg [9, 44] doms.length (fun kq vo v w' => ∃ i : Nat, v = .int .i64 i ∧ Aside0 (i ≤ doms.length ∧ kq + i = doms.length ∧ OwnB w' W2 vo ((doms.map (mok host port x)).take i) ∧ Below W2.heap.size W2 w'))
      case atStart => exact ⟨0, rfl, Aside0.mk ⟨Nat.zero_le _, by omega, OwnRow.none_ _ _ _ _ _, Below.refl _ _⟩⟩
      case round =>
        obtain ⟨i, rfl, HA⟩ := hrel
        have hle := HA.out.1
        have hk := HA.out.2.1
        rcases Nat.lt_or_ge i doms.length with hi | hge
        · have HM := Aside0.mk (show doms[i]? = some (doms[i]'hi) from List.getElem?_eq_getElem hi)
          have hgood := HG.out _ (List.getElem_mem hi)
          obtain ⟨g, cap', u, hv, hcell, hmt⟩ := HD2.out.cell HA.out.2.2.2 HM.out
          injection hv with hA _ hcap
          subst hA
          subst hcap
          have htk : (doms.map (mok host port x)).take (i + 1) = (doms.map (mok host port x)).take i ++ [mok host port x (doms[i]'hi)] := by rw [List.take_succ_eq_append_getElem (by rw [List.length_map]; exact hi), List.getElem_map]
          have HTK := Aside0.mk htk
          clear htk
          generalize doms[i]'hi = m at HM hmt hgood HTK
          have hby := HA.out.2.2.2
          have HXn := HX.out
          cases m with
          | all =>
            obtain ⟨rfl, hcall⟩ := say_all (w := wr) hmt host port ipv x
            have HCALL := Aside0.mk hcall
            clear hcall hmt hgood hby HXn
            go_wp2_with fail
            refine HCALL.out.mono ?_
            rintro e wc ⟨rfl, bc⟩
            have HBC := Aside0.mk bc
            clear HCALL bc
            generalize mok host port x (.all) = r at HTK ⊢
            go_wp2_with (at_builtin; refine OwnRow.append (R := fun (b : Bool) cs => cs = [.bool b]) (w0 := W2) W2.heap.size rfl (.tmp 48) (.tmp 54) 47 4 (.bool false) 1 1 rfl Tryz.underlying47 info4b rfl (by decide) (by decide) _ ((doms.map (mok host port x)).take i) r [.bool r] rfl rfl rfl rfl (by simp [Value.oneCell']) (OwnRow.below HA.out.2.2.1 HBC.out) (bel_then HA.out.2.2.2 HBC.out) (Nat.le_trans HA.out.2.2.2.size HBC.out.size) (by rw [List.length_take, List.length_map]; omega) ?_)
            intro vn wn hn1 hn2 hn3 hn4
            have HN1 := Aside0.mk hn1
            have HN2 := Aside0.mk hn2
            clear hn1 hn2 hn3 hn4
            go_wp2_with fail
            go_roundg (gk - 1)
            case measure => omega
            case rel => exact ⟨i + 1, by simp, Aside0.mk ⟨by omega, by omega, by rw [HTK.out]; exact HN1.out, HN2.out⟩⟩
          | net ml mm =>
            obtain ⟨q, rfl, hcall⟩ := say_net (w := wr) hmt hgood hby HXn host port
            have HCALL := Aside0.mk hcall
            clear hcall hmt hgood hby HXn
            go_wp2_with fail
            refine HCALL.out.mono ?_
            rintro e wc ⟨rfl, bc⟩
            have HBC := Aside0.mk bc
            clear HCALL bc
            generalize mok host port x (.net ml mm) = r at HTK ⊢
            go_wp2_with (at_builtin; refine OwnRow.append (R := fun (b : Bool) cs => cs = [.bool b]) (w0 := W2) W2.heap.size rfl (.tmp 48) (.tmp 54) 47 4 (.bool false) 1 1 rfl Tryz.underlying47 info4b rfl (by decide) (by decide) _ ((doms.map (mok host port x)).take i) r [.bool r] rfl rfl rfl rfl (by simp [Value.oneCell']) (OwnRow.below HA.out.2.2.1 HBC.out) (bel_then HA.out.2.2.2 HBC.out) (Nat.le_trans HA.out.2.2.2.size HBC.out.size) (by rw [List.length_take, List.length_map]; omega) ?_)
            intro vn wn hn1 hn2 hn3 hn4
            have HN1 := Aside0.mk hn1
            have HN2 := Aside0.mk hn2
            clear hn1 hn2 hn3 hn4
            go_wp2_with fail
            go_roundg (gk - 1)
            case measure => omega
            case rel => exact ⟨i + 1, by simp, Aside0.mk ⟨by omega, by omega, by rw [HTK.out]; exact HN1.out, HN2.out⟩⟩
          | ip e0 e1 e2 e3 mp =>
            obtain ⟨q, rfl, hcall⟩ := say_ip (w := wr) hmt hby HXn host port
            have HCALL := Aside0.mk hcall
            clear hcall hmt hgood hby HXn
            go_wp2_with fail
            refine HCALL.out.mono ?_
            rintro e wc ⟨rfl, bc⟩
            have HBC := Aside0.mk bc
            clear HCALL bc
            generalize mok host port x (.ip e0 e1 e2 e3 mp) = r at HTK ⊢
            go_wp2_with (at_builtin; refine OwnRow.append (R := fun (b : Bool) cs => cs = [.bool b]) (w0 := W2) W2.heap.size rfl (.tmp 48) (.tmp 54) 47 4 (.bool false) 1 1 rfl Tryz.underlying47 info4b rfl (by decide) (by decide) _ ((doms.map (mok host port x)).take i) r [.bool r] rfl rfl rfl rfl (by simp [Value.oneCell']) (OwnRow.below HA.out.2.2.1 HBC.out) (bel_then HA.out.2.2.2 HBC.out) (Nat.le_trans HA.out.2.2.2.size HBC.out.size) (by rw [List.length_take, List.length_map]; omega) ?_)
            intro vn wn hn1 hn2 hn3 hn4
            have HN1 := Aside0.mk hn1
            have HN2 := Aside0.mk hn2
            clear hn1 hn2 hn3 hn4
            go_wp2_with fail
            go_roundg (gk - 1)
            case measure => omega
            case rel => exact ⟨i + 1, by simp, Aside0.mk ⟨by omega, by omega, by rw [HTK.out]; exact HN1.out, HN2.out⟩⟩
          | dom dh dp mh =>
            obtain ⟨rfl, hcall⟩ := say_dom (w := wr) hmt hgood HXn host port hlow
            have HCALL := Aside0.mk hcall
            clear hcall hmt hgood hby HXn
            go_wp2_with fail
            refine HCALL.out.mono ?_
            rintro e wc ⟨rfl, bc⟩
            have HBC := Aside0.mk bc
            clear HCALL bc
            generalize mok host port x (.dom dh dp mh) = r at HTK ⊢
            go_wp2_with (at_builtin; refine OwnRow.append (R := fun (b : Bool) cs => cs = [.bool b]) (w0 := W2) W2.heap.size rfl (.tmp 48) (.tmp 54) 47 4 (.bool false) 1 1 rfl Tryz.underlying47 info4b rfl (by decide) (by decide) _ ((doms.map (mok host port x)).take i) r [.bool r] rfl rfl rfl rfl (by simp [Value.oneCell']) (OwnRow.below HA.out.2.2.1 HBC.out) (bel_then HA.out.2.2.2 HBC.out) (Nat.le_trans HA.out.2.2.2.size HBC.out.size) (by rw [List.length_take, List.length_map]; omega) ?_)
            intro vn wn hn1 hn2 hn3 hn4
            have HN1 := Aside0.mk hn1
            have HN2 := Aside0.mk hn2
            clear hn1 hn2 hn3 hn4
            go_wp2_with fail
            go_roundg (gk - 1)
            case measure => omega
            case rel => exact ⟨i + 1, by simp, Aside0.mk ⟨by omega, by omega, by rw [HTK.out]; exact HN1.out, HN2.out⟩⟩
        · have hil : i = doms.length := by omega
          subst hil
          clear hge hle hk
          have HA2 := Aside0.mk (show OwnB wr W2 _ (doms.map (mok host port x)) by have := HA.out.2.2.1; rw [List.take_of_length_le (by rw [List.length_map]; omega)] at this; exact this)
          have HB2 := Aside0.mk HA.out.2.2.2
          go_wp2_with fail
          go_ret2
          exact ⟨_, _, rfl, OwnRow.lower (OwnRow.below HO1.out HB2.out) HB.out.size, OwnRow.lower HA2.out (Nat.le_trans HB.out.size HB1.out.size), bel_then HB.out (bel_then HB1.out HB2.out)⟩
          
end Go.Proofs.YtnchgmjeoajmiaaGreatDoor

/-! Rulz -/
namespace Go.Proofs.YtnchgmjeoajmiaaGreatDoor
open Go.RowKit Go.Proofs.YtnchgmjeoajmiaaGreatDoorW.PrintWords
set_option linter.unusedSimpArgs false
set_option linter.unusedVariables false

theorem any_f (l : List Bool) (hl : l.length ≤ 1000000000) : ∀ (d k i : Nat), l.length = i + d → d < k → U.spec_Any.l0 k l (l.length : Int) (i : Int) = some ((l.drop i).any id) := by
  intro d
  induction d with
  | zero =>
    intro k i hi hk
    obtain ⟨k, rfl⟩ : ∃ m, k = m + 1 := ⟨k - 1, by omega⟩
    simp only [U.spec_Any.l0]
    rw [if_neg (by omega), List.drop_of_length_le (by omega)]
    rfl
  | succ d ih =>
    intro k i hi hk
    obtain ⟨k, rfl⟩ : ∃ m, k = m + 1 := ⟨k - 1, by omega⟩
    have hlt : i < l.length := by omega
    have ew : wrap64 ((i : Int) + 1) = ((i + 1 : Nat) : Int) := by unfold wrap64; omega
    have er : rdOf false l (i : Int) = l[i]'hlt := by simp [rdOf, hlt]
    simp only [U.spec_Any.l0]
    rw [if_pos (by omega), if_pos (by omega), if_pos (by omega), er, ew, List.drop_eq_getElem_cons hlt, List.any_cons, ih k (i + 1) (by omega) (by omega)]
    cases l[i]'hlt <;> rfl
theorem any_calls (l : List Bool) (A : Option Addr) (c : Nat) (w : World) (hl : l.length ≤ 1000000000) (hA : Kd.C Kd.bool w A l.length l) (hc : l.length ≤ c) :
    Calls Tryz.prog 34 #[.slice A l.length c] w fun e w' => e = .returned (.bool (l.any id)) ∧ Drawn0 w w' := by
  refine U.spec_Any.calls (l.length + 1) A c l _ w hA hc ?_
  have := any_f l hl l.length (l.length + 1) 0 (by omega) (by omega)
  rw [List.drop_zero] at this
  exact this

/-- What Rules returns: two lists of bools. -/
def TwoB (w : World) (l1 l2 : List Bool) (e : Ending) (w' : World) : Prop := ∃ A1 c1 A2 c2, e = .returned (.tuple #[.slice A1 l1.length c1, .slice A2 l2.length c2]) ∧ l1.length ≤ c1 ∧ l2.length ≤ c2 ∧ Kd.C Kd.bool w' A1 l1.length l1 ∧ Kd.C Kd.bool w' A2 l2.length l2 ∧ Below w.heap.size w w'

set_option maxRecDepth 100000 in
set_option maxHeartbeats 1000000 in
theorem rules_nil (p4 p6 : Addr) (no : ByteArray) (effs : List Eff) (w : World) (host port : ByteArray) (A : Option Addr) (c : Nat) (ips doms : List Mt) (hei : (lists effs [] []).1 = ips) (hed : (lists effs [] []).2 = doms) (G : GW p4 p6 w) (hl : Listed no effs) (hlow : host.size ≤ 9223372036854775807) (hs1 : ips.length ≤ 100000) (hs2 : doms.length ≤ 100000) :
    Calls Tryz.prog 32 #[.string no, .string host, .string port, .slice A 0 c] w (TwoB w (ips.map (mok host port none)) (doms.map (mok host port none))) := by
  have HL := Aside0.mk hl
  clear hl
  go_enter Tryz.func32, Tryz.ntmps32
  go_wp2_with fail
  refine (zzRules_calls p4 p6 no effs w host port none (.slice none 0 0) ips doms hei hed G HL.out hlow rfl).mono ?_
  rintro e W1 ⟨v1, v2, rfl, ho1, ho2, hb⟩
  obtain ⟨A1, c1, rfl, k1, r1⟩ := ho1.reads
  obtain ⟨A2, c2, rfl, k2, r2⟩ := ho2.reads
  simp only [List.length_map] at k1 k2 r1 r2
  have R1 := Aside0.mk r1
  have R2 := Aside0.mk r2
  have HB := Aside0.mk hb
  clear ho1 ho2 r1 r2 hb
  have e1 := Aside0.mk (show OwnRow (fun (b : Bool) cs => cs = [.bool b]) 4 1 (W1.alloc (.cells #[] 4)) W1.heap.size (.slice (some ⟨W1.heap.size, 0, none⟩) 0 0) [] from OwnRow.lit (ps := []) W1 W1.heap.size (Reps.none _ _) (Nat.le_refl _) (by decide))
  have e2 := Aside0.mk (show Below W1.heap.size W1 (W1.alloc (.cells #[] 4)) by go_grown)
  go_wp2_with (at_builtin; refine own_rows (R := fun (b : Bool) cs => cs = [.bool b]) (w0 := W1) W1.heap.size rfl (.tmp 27) (.tmp 28) 47 47 4 (.bool false) 1 1 rfl Tryz.underlying47 Tryz.underlying47 info4b rfl (by decide) (by decide) _ [] (ips.map (mok host port none)) A1 ips.length c1 rfl rfl e1.out (R1.out.imp_ e2.out (fun _ _ h => h)) (by rintro p cs rfl u hu; simp at hu; subst hu; rfl) e2.out e2.out.size (by simp; omega) ?_)
  intro va wa ha1 ha2 ha3 ha4
  have HA1 := Aside0.mk ha1
  have HA2 := Aside0.mk ha2
  have R3 := Aside0.mk (R2.out.imp_ (R' := fun (b : Bool) cs => cs = [.bool b]) ha2 (fun _ _ h => h))
  have e3 := Aside0.mk (show OwnRow (fun (b : Bool) cs => cs = [.bool b]) 4 1 (wa.alloc (.cells #[] 4)) wa.heap.size (.slice (some ⟨wa.heap.size, 0, none⟩) 0 0) [] from OwnRow.lit (ps := []) wa wa.heap.size (Reps.none _ _) (Nat.le_refl _) (by decide))
  have e4 := Aside0.mk (show Below wa.heap.size wa (wa.alloc (.cells #[] 4)) by go_grown)
  clear ha1 ha2 ha3 ha4
  go_wp2_with (at_builtin; refine own_rows (R := fun (b : Bool) cs => cs = [.bool b]) (w0 := wa) wa.heap.size rfl (.tmp 30) (.tmp 31) 47 47 4 (.bool false) 1 1 rfl Tryz.underlying47 Tryz.underlying47 info4b rfl (by decide) (by decide) _ [] (doms.map (mok host port none)) A2 doms.length c2 rfl rfl e3.out (R3.out.imp_ e4.out (fun _ _ h => h)) (by rintro p cs rfl u hu; simp at hu; subst hu; rfl) e4.out e4.out.size (by simp; omega) ?_)
  intro vb wb hb1 hb2 hb3 hb4
  obtain ⟨A3, c3, rfl, k3, r3⟩ := (OwnRow.below HA1.out hb2).reads
  obtain ⟨A4, c4, rfl, k4, r4⟩ := hb1.reads
  have F3 := Aside0.mk r3
  have F4 := Aside0.mk r4
  have K3 := Aside0.mk k3
  have K4 := Aside0.mk k4
  have FB := Aside0.mk (bel_then HB.out (bel_then HA2.out hb2))
  clear r3 r4 hb1 hb2 hb3 hb4 k3 k4
  go_wp2_with fail
  go_ret2
  exact ⟨A3, c3, A4, c4, rfl, K3.out, K4.out, F3.out, F4.out, FB.out⟩

theorem info5b : (Tryz.prog.info? 5).map (fun i => (i.zero, i.size, i.bytes)) = some (some (.int .u8 0), 1, 1) := by kernel_rfl
theorem ip_of_row {w : World} {B : Nat} {v : Value} {a b c d : Int} (h : OwnRow (fun (x : Int) cs => cs = [.int .u8 x]) 5 1 w B v [a, b, c, d]) : IpV w (some (a, b, c, d)) v := by
  obtain ⟨inner, ho, hr⟩ := h
  rcases ho.2 with ⟨_, h0⟩ | ⟨g, cap, cur, rfl, hb, hg, hn, hc, hs, ht⟩
  · simp at h0
  · have h4 : inner.length = 4 := hr.1
    have at_ : ∀ j p, ([a, b, c, d] : List Int)[j]? = some p → w.cell? ⟨g, j, none⟩ = some (.int .u8 p) := fun j p hj => by
      have h1 := hr.2 j p hj
      have hlt : j < 4 := (List.getElem?_eq_some_iff.1 hj).1
      rw [blk_cell hg]
      have h2 : inner[j]? = some (.int .u8 p) := by
        have := congrArg (fun l => l[0]?) h1
        simp only [List.getElem?_take, List.getElem?_drop, Nat.mul_one, Nat.add_zero, List.getElem?_cons_zero] at this
        simpa using this
      rw [← ht, List.getElem?_take] at h2
      split at h2
      · simpa using h2
      · cases h2
    exact ⟨g, cap, rfl, hn, at_ 0 a rfl, at_ 1 b rfl, at_ 2 c rfl, at_ 3 d rfl⟩

set_option maxRecDepth 100000 in
set_option maxHeartbeats 1000000 in
theorem rules_four (p4 p6 : Addr) (no : ByteArray) (effs : List Eff) (w : World) (host port : ByteArray) (A : Option Addr) (c : Nat) (x0 x1 x2 x3 : Int) (ips doms : List Mt) (hei : (lists effs [] []).1 = ips) (hed : (lists effs [] []).2 = doms) (G : GW p4 p6 w) (hl : Listed no effs) (hlow : host.size ≤ 9223372036854775807) (hs1 : ips.length ≤ 100000) (hs2 : doms.length ≤ 100000)
    (hA : Kd.C (Kd.int .u8) w A 4 [x0, x1, x2, x3]) :
    Calls Tryz.prog 32 #[.string no, .string host, .string port, .slice A 4 c] w (TwoB w (ips.map (mok host port (some (x0, x1, x2, x3)))) (doms.map (mok host port (some (x0, x1, x2, x3))))) := by
  have HL := Aside0.mk hl
  have HC := Aside0.mk hA
  clear hl hA
  go_enter Tryz.func32, Tryz.ntmps32
  go_wp2_with (at_builtin; refine own_rows (R := fun (x : Int) cs => cs = [.int .u8 x]) (w0 := w) w.heap.size rfl (.tmp 16) (.tmp 17) 63 46 5 (.int .u8 0) 1 1 rfl Tryz.underlying63 Tryz.underlying46 info5b rfl (by decide) (by decide) _ [] [x0, x1, x2, x3] A 4 c rfl rfl (OwnRow.none_ _ _ _ _ _) HC.out (by rintro p cs rfl u hu; simp at hu; subst hu; rfl) (Below.refl _ _) (Nat.le_refl _) (by simp) ?_)
  intro vip wip hi1 hi2 hi3 hi4
  have HI := Aside0.mk (ip_of_row hi1)
  have HIB := Aside0.mk hi2
  clear hi1 hi2 hi3 hi4
  go_wp2_with fail
  refine (zzRules_calls p4 p6 no effs wip host port (some (x0, x1, x2, x3)) vip ips doms hei hed (G.below HIB.out) HL.out hlow HI.out).mono ?_
  rintro e W1 ⟨v1, v2, rfl, ho1, ho2, hb⟩
  replace hb := bel_then HIB.out hb
  obtain ⟨A1, c1, rfl, k1, r1⟩ := ho1.reads
  obtain ⟨A2, c2, rfl, k2, r2⟩ := ho2.reads
  simp only [List.length_map] at k1 k2 r1 r2
  have R1 := Aside0.mk r1
  have R2 := Aside0.mk r2
  have HB := Aside0.mk hb
  clear ho1 ho2 r1 r2 hb
  have e1 := Aside0.mk (show OwnRow (fun (b : Bool) cs => cs = [.bool b]) 4 1 (W1.alloc (.cells #[] 4)) W1.heap.size (.slice (some ⟨W1.heap.size, 0, none⟩) 0 0) [] from OwnRow.lit (ps := []) W1 W1.heap.size (Reps.none _ _) (Nat.le_refl _) (by decide))
  have e2 := Aside0.mk (show Below W1.heap.size W1 (W1.alloc (.cells #[] 4)) by go_grown)
  go_wp2_with (at_builtin; refine own_rows (R := fun (b : Bool) cs => cs = [.bool b]) (w0 := W1) W1.heap.size rfl (.tmp 27) (.tmp 28) 47 47 4 (.bool false) 1 1 rfl Tryz.underlying47 Tryz.underlying47 info4b rfl (by decide) (by decide) _ [] (ips.map (mok host port (some (x0, x1, x2, x3)))) A1 ips.length c1 rfl rfl e1.out (R1.out.imp_ e2.out (fun _ _ h => h)) (by rintro p cs rfl u hu; simp at hu; subst hu; rfl) e2.out e2.out.size (by simp; omega) ?_)
  intro va wa ha1 ha2 ha3 ha4
  have HA1 := Aside0.mk ha1
  have HA2 := Aside0.mk ha2
  have R3 := Aside0.mk (R2.out.imp_ (R' := fun (b : Bool) cs => cs = [.bool b]) ha2 (fun _ _ h => h))
  have e3 := Aside0.mk (show OwnRow (fun (b : Bool) cs => cs = [.bool b]) 4 1 (wa.alloc (.cells #[] 4)) wa.heap.size (.slice (some ⟨wa.heap.size, 0, none⟩) 0 0) [] from OwnRow.lit (ps := []) wa wa.heap.size (Reps.none _ _) (Nat.le_refl _) (by decide))
  have e4 := Aside0.mk (show Below wa.heap.size wa (wa.alloc (.cells #[] 4)) by go_grown)
  clear ha1 ha2 ha3 ha4
  go_wp2_with (at_builtin; refine own_rows (R := fun (b : Bool) cs => cs = [.bool b]) (w0 := wa) wa.heap.size rfl (.tmp 30) (.tmp 31) 47 47 4 (.bool false) 1 1 rfl Tryz.underlying47 Tryz.underlying47 info4b rfl (by decide) (by decide) _ [] (doms.map (mok host port (some (x0, x1, x2, x3)))) A2 doms.length c2 rfl rfl e3.out (R3.out.imp_ e4.out (fun _ _ h => h)) (by rintro p cs rfl u hu; simp at hu; subst hu; rfl) e4.out e4.out.size (by simp; omega) ?_)
  intro vb wb hb1 hb2 hb3 hb4
  obtain ⟨A3, c3, rfl, k3, r3⟩ := (OwnRow.below HA1.out hb2).reads
  obtain ⟨A4, c4, rfl, k4, r4⟩ := hb1.reads
  have F3 := Aside0.mk r3
  have F4 := Aside0.mk r4
  have K3 := Aside0.mk k3
  have K4 := Aside0.mk k4
  have FB := Aside0.mk (bel_then HB.out (bel_then HA2.out hb2))
  clear r3 r4 hb1 hb2 hb3 hb4 k3 k4
  go_wp2_with fail
  go_ret2
  exact ⟨A3, c3, A4, c4, rfl, K3.out, K4.out, F3.out, F4.out, FB.out⟩
end Go.Proofs.YtnchgmjeoajmiaaGreatDoor

/-! One -/
namespace Go.Proofs.YtnchgmjeoajmiaaGreatDoor
open Go.RowKit Go.Proofs.YtnchgmjeoajmiaaGreatDoorW.PrintWords
set_option linter.unusedSimpArgs false
set_option linter.unusedVariables false

theorem one_listed {r : P.S42} (h : Rk r) : Listed (ruleText r) (effsOf [r]) := by
  have := listed_plain [r] ⟨by simp, fun x hx => by simp at hx; subst hx; exact h⟩
  rw [List.map_cons, List.map_nil, joinB_one] at this
  exact this
theorem one_names (r : P.S42) (h p : ByteArray) : (lists (effsOf [r]) [] []).2.any (mok h p none) = sayN h p (eff r) := by
  rw [anyN_eq]
  simp
theorem one_addrs (r : P.S42) (h p : ByteArray) (x : Int × Int × Int × Int) : (lists (effsOf [r]) [] []).1.any (mok h p (some x)) = sayA h p x (eff r) := by
  rw [(lists_any (mok h p (some x)) rfl (effsOf [r]) [] []).1]
  simp [effsOf, sayA]
end Go.Proofs.YtnchgmjeoajmiaaGreatDoor

/-! Lawrname -/
namespace Go.Proofs.YtnchgmjeoajmiaaGreatDoor
open Go.RowKit Go.Proofs.YtnchgmjeoajmiaaGreatDoorW.PrintWords
set_option linter.unusedSimpArgs false
set_option linter.unusedVariables false

set_option maxRecDepth 100000 in
set_option maxHeartbeats 1000000 in
/-- A rule over names. -/
theorem fnRulesName_calls (p4 p6 : Addr) (A_r : Option Addr) (c_r : Nat) (r : P.S42) (nm : ByteArray) (port : ByteArray) (w : World) (G : GW p4 p6 w) (hc_r : r.f2.length ≤ c_r) (hA_r : Kd.C (Kd.int .i64) w A_r r.f2.length r.f2) :
    Calls Tryz.prog 13 #[.agg #[.int .i64 r.f0, .string r.f1, .slice A_r r.f2.length c_r, .int .i64 r.f3, .string r.f4], .string nm, .string port] w (SaysTrue w) := by
  have hb0 : Below w.heap.size w (w.alloc (.cells #[.int .i64 r.f0, .string r.f1, .slice A_r r.f2.length c_r, .int .i64 r.f3, .string r.f4] 42)) := by go_grown
  have FB := Aside0.mk hb0
  have BOX := Aside0.mk (heap1 w (.cells #[.int .i64 r.f0, .string r.f1, .slice A_r r.f2.length c_r, .int .i64 r.f3, .string r.f4] 42))
  have b0 : Below (w.alloc (.cells #[.int .i64 r.f0, .string r.f1, .slice A_r r.f2.length c_r, .int .i64 r.f3, .string r.f4] 42)).heap.size (w.alloc (.cells #[.int .i64 r.f0, .string r.f1, .slice A_r r.f2.length c_r, .int .i64 r.f3, .string r.f4] 42)) (w.alloc (.cells #[.int .i64 r.f0, .string r.f1, .slice A_r r.f2.length c_r, .int .i64 r.f3, .string r.f4] 42)) := Below.refl _ _
  have HLT := Aside0.mk (blk_lt BOX.out)
  replace G := G.below hb0
  have HA_r := Aside0.mk (Kd.C_below hA_r hb0)
  clear hA_r
  clear hb0
  have row := (b0.block _ HLT.out).trans BOX.out
  have d0 := blk_cell row 0
  have d1 := blk_cell row 1
  have d2 := blk_cell row 2
  have d3 := blk_cell row 3
  have d4 := blk_cell row 4
  simp only [List.getElem?_toArray, List.getElem?_cons_zero, List.getElem?_cons_succ] at d0 d1 d2 d3 d4
  clear row
  go_enter Tryz.func13, Tryz.ntmps13
  go_wp2_with fail
  generalize hW0 : (w.alloc (.cells #[.int .i64 r.f0, .string r.f1, .slice A_r r.f2.length c_r, .int .i64 r.f3, .string r.f4] 42)) = W0 at *
  clear hW0
  obtain ⟨bf_r, hf_r, ef_r⟩ := fits3_f r
  have EF_r := Aside0.mk ef_r
  have HF_r := Aside0.mk hf_r
  clear ef_r hf_r
  refine (P.laws_zzFits3.calls r.f0 r.f1 A_r c_r r.f2 r.f3 r.f4 bf_r _ (Kd.C_below HA_r.out b0) hc_r HF_r.out).mono ?_
  rintro e w1 ⟨rfl, c1⟩
  have b1 := bel_then b0 c1
  clear c1
  have row := (b1.block _ HLT.out).trans BOX.out
  have d0 := blk_cell row 0
  have d1 := blk_cell row 1
  have d2 := blk_cell row 2
  have d3 := blk_cell row 3
  have d4 := blk_cell row 4
  simp only [List.getElem?_toArray, List.getElem?_cons_zero, List.getElem?_cons_succ] at d0 d1 d2 d3 d4
  clear row
  cases bf_r with
  | false =>
    go_wp2_with fail
    go_ret
    exact ⟨rfl, bel_then FB.out b1⟩
  | true =>
  have FIT_r := Aside0.mk (EF_r.out rfl)
  cases d_nm : decide ((2147483647 : Int) < (nm.size : Int)) with
  | true =>
    go_wp2_with fail
    go_ret
    exact ⟨rfl, bel_then FB.out b1⟩
  | false =>
  have sz_nm : nm.size ≤ 2147483647 := not_le_big (of_decide_eq_false d_nm)
  cases d_port : decide ((2147483647 : Int) < (port.size : Int)) with
  | true =>
    go_wp2_with fail
    go_ret
    exact ⟨rfl, bel_then FB.out b1⟩
  | false =>
  have sz_port : port.size ≤ 2147483647 := not_le_big (of_decide_eq_false d_port)
  obtain ⟨br_r, er_r, hr_r⟩ := isRule_ev r FIT_r.out
  obtain ⟨kr_r, er_r⟩ := er_r.at
  have HE_r := Aside0.mk er_r
  have OK_r := Aside0.mk hr_r
  clear er_r hr_r
  go_wp2_with fail
  refine (P.spec_IsRule.calls kr_r r.f0 r.f1 A_r c_r r.f2 r.f3 r.f4 br_r _ (Kd.C_below HA_r.out b1) hc_r HE_r.out).mono ?_
  rintro e w2 ⟨rfl, c2⟩
  have b2 := bel_then b1 c2
  clear c2
  have row := (b2.block _ HLT.out).trans BOX.out
  have d0 := blk_cell row 0
  have d1 := blk_cell row 1
  have d2 := blk_cell row 2
  have d3 := blk_cell row 3
  have d4 := blk_cell row 4
  simp only [List.getElem?_toArray, List.getElem?_cons_zero, List.getElem?_cons_succ] at d0 d1 d2 d3 d4
  clear row
  cases br_r with
  | false =>
    go_wp2_with fail
    refine (works_calls p4 p6 _ (G.below b2)).mono ?_
    rintro e w3 ⟨rfl, c3⟩
    have b3 := bel_then b2 c3
    clear c3
    have row := (b3.block _ HLT.out).trans BOX.out
    have d0 := blk_cell row 0
    have d1 := blk_cell row 1
    have d2 := blk_cell row 2
    have d3 := blk_cell row 3
    have d4 := blk_cell row 4
    simp only [List.getElem?_toArray, List.getElem?_cons_zero, List.getElem?_cons_succ] at d0 d1 d2 d3 d4
    clear row
    go_wp2_with fail
    go_ret
    exact ⟨rfl, bel_then FB.out b3⟩
  | true =>
  replace OK_r := Aside0.mk (OK_r.out rfl)
  obtain ⟨br_nm, er_nm, hr_nm⟩ := isName_ev nm sz_nm
  obtain ⟨kr_nm, er_nm⟩ := er_nm.at
  have HE_nm := Aside0.mk er_nm
  have OK_nm := Aside0.mk hr_nm
  clear er_nm hr_nm
  go_wp2_with fail
  refine (P.spec_IsName.calls kr_nm nm br_nm _ HE_nm.out).mono ?_
  rintro e w3 ⟨rfl, c3⟩
  have b3 := bel_drawn b2 c3
  clear c3
  have row := (b3.block _ HLT.out).trans BOX.out
  have d0 := blk_cell row 0
  have d1 := blk_cell row 1
  have d2 := blk_cell row 2
  have d3 := blk_cell row 3
  have d4 := blk_cell row 4
  simp only [List.getElem?_toArray, List.getElem?_cons_zero, List.getElem?_cons_succ] at d0 d1 d2 d3 d4
  clear row
  cases br_nm with
  | false =>
    go_wp2_with fail
    refine (works_calls p4 p6 _ (G.below b3)).mono ?_
    rintro e w4 ⟨rfl, c4⟩
    have b4 := bel_then b3 c4
    clear c4
    have row := (b4.block _ HLT.out).trans BOX.out
    have d0 := blk_cell row 0
    have d1 := blk_cell row 1
    have d2 := blk_cell row 2
    have d3 := blk_cell row 3
    have d4 := blk_cell row 4
    simp only [List.getElem?_toArray, List.getElem?_cons_zero, List.getElem?_cons_succ] at d0 d1 d2 d3 d4
    clear row
    go_wp2_with fail
    go_ret
    exact ⟨rfl, bel_then FB.out b4⟩
  | true =>
  replace OK_nm := Aside0.mk (OK_nm.out rfl)
  obtain ⟨br_port, er_port, hr_port⟩ := isPort_ev port sz_port
  obtain ⟨kr_port, er_port⟩ := er_port.at
  have HE_port := Aside0.mk er_port
  have OK_port := Aside0.mk hr_port
  clear er_port hr_port
  go_wp2_with fail
  refine (P.spec_IsPort.calls kr_port port br_port _ HE_port.out).mono ?_
  rintro e w4 ⟨rfl, c4⟩
  have b4 := bel_drawn b3 c4
  clear c4
  have row := (b4.block _ HLT.out).trans BOX.out
  have d0 := blk_cell row 0
  have d1 := blk_cell row 1
  have d2 := blk_cell row 2
  have d3 := blk_cell row 3
  have d4 := blk_cell row 4
  simp only [List.getElem?_toArray, List.getElem?_cons_zero, List.getElem?_cons_succ] at d0 d1 d2 d3 d4
  clear row
  cases br_port with
  | false =>
    go_wp2_with fail
    refine (works_calls p4 p6 _ (G.below b4)).mono ?_
    rintro e w5 ⟨rfl, c5⟩
    have b5 := bel_then b4 c5
    clear c5
    have row := (b5.block _ HLT.out).trans BOX.out
    have d0 := blk_cell row 0
    have d1 := blk_cell row 1
    have d2 := blk_cell row 2
    have d3 := blk_cell row 3
    have d4 := blk_cell row 4
    simp only [List.getElem?_toArray, List.getElem?_cons_zero, List.getElem?_cons_succ] at d0 d1 d2 d3 d4
    clear row
    go_wp2_with fail
    go_ret
    exact ⟨rfl, bel_then FB.out b5⟩
  | true =>
  replace OK_port := Aside0.mk (OK_port.out rfl)
  have hns : nm.size ≤ 100 := by have := OK_nm.out.len; rw [BL_size] at this; exact this
  have hps : port.size ≤ 5 := by have := OK_port.out.five; rw [BL_size] at this; exact this
  have hz : (nm ++ (⟨#[58]⟩ : ByteArray)).size = nm.size + 1 := ByteArray.size_append
  have HL := Aside0.mk (one_listed OK_r.out)
  have hlen := lists_len (effsOf [r]) [] []
  have hef : (effsOf [r]).length = 1 := rfl
  simp only [List.length_nil] at hlen
  obtain ⟨ips, hei⟩ : ∃ l, (lists (effsOf [r]) [] []).1 = l := ⟨_, rfl⟩
  obtain ⟨doms, hed⟩ : ∃ l, (lists (effsOf [r]) [] []).2 = l := ⟨_, rfl⟩
  rw [hei, hed] at hlen
  have l1 : ips.length ≤ 100 := by omega
  have l2 : doms.length ≤ 100 := by omega
  clear hlen hef
  have hsay : doms.any (mok nm port none) = sayN nm port (eff r) := by rw [← hed]; exact one_names r nm port
  have RU := fun w' g => Aside0.mk (rules_nil p4 p6 _ (effsOf [r]) w' nm port none 0 ips doms hei hed g HL.out (by omega) (by omega) (by omega))
  have ANY := fun A c w' hA hc => Aside0.mk (any_calls (doms.map (mok nm port none)) A c w' (by rw [List.length_map]; omega) hA hc)
  have hev : (doms.map (mok nm port none)).any id = sayN nm port (eff r) := by rw [List.any_map]; exact hsay
  rw [hev] at ANY
  have hm := matches_eq r OK_r.out nm port (by omega)
  generalize sayN nm port (eff r) = v at *
  have HM := Aside0.mk hm
  clear hm hev hsay hei hed
  go_wp2_with fail
  refine (ruleText_calls p4 p6 r A_r c_r _ (G.below b4) OK_r.out.small hc_r (Kd.C_below HA_r.out b4)).mono ?_
  rintro e w5 ⟨rfl, c5⟩
  have b5 := bel_then b4 c5
  clear c5
  have row := (b5.block _ HLT.out).trans BOX.out
  have d0 := blk_cell row 0
  have d1 := blk_cell row 1
  have d2 := blk_cell row 2
  have d3 := blk_cell row 3
  have d4 := blk_cell row 4
  simp only [List.getElem?_toArray, List.getElem?_cons_zero, List.getElem?_cons_succ] at d0 d1 d2 d3 d4
  clear row
  go_wp2_with fail
  refine ((RU _ (G.below b5)).out).mono ?_
  rintro e w6 ⟨A1, c1, A2, c2, rfl, k1, k2, r1, r2, c6⟩
  have b6 := bel_then b5 c6
  clear c6
  have row := (b6.block _ HLT.out).trans BOX.out
  have d0 := blk_cell row 0
  have d1 := blk_cell row 1
  have d2 := blk_cell row 2
  have d3 := blk_cell row 3
  have d4 := blk_cell row 4
  simp only [List.getElem?_toArray, List.getElem?_cons_zero, List.getElem?_cons_succ] at d0 d1 d2 d3 d4
  clear row
  simp only [List.length_map] at k1 k2 r1 r2 ANY
  have R2 := Aside0.mk r2
  have GK := Aside0.mk (G.below b6)
  have HAK := Aside0.mk (Kd.C_below HA_r.out b6)
  have BK := Aside0.mk b6
  clear r1 r2
  go_wp2_with fail
  go_region_held3 (fun w' => w'.cell? ⟨w.heap.size, 0, none⟩ = some (.int .i64 r.f0) ∧ w'.cell? ⟨w.heap.size, 1, none⟩ = some (.string r.f1) ∧ w'.cell? ⟨w.heap.size, 2, none⟩ = some (.slice A_r r.f2.length c_r) ∧ w'.cell? ⟨w.heap.size, 3, none⟩ = some (.int .i64 r.f3) ∧ w'.cell? ⟨w.heap.size, 4, none⟩ = some (.string r.f4)) (first | exact D2.out | exact D1.out | exact ⟨d0, d1, d2, d3, d4⟩) (first
    | (go_at_call 22; refine (works_calls p4 p6 _ (by exact GK.out.below (by go_grown))).mono ?_; rintro e v1 ⟨rfl, q1⟩; have Q1 := Aside0.mk (bel_then (show Below w6.heap.size w6 _ by go_grown) q1); have D1 := Aside0.mk (show (fun w' => w'.cell? ⟨w.heap.size, 0, none⟩ = some (.int .i64 r.f0) ∧ w'.cell? ⟨w.heap.size, 1, none⟩ = some (.string r.f1) ∧ w'.cell? ⟨w.heap.size, 2, none⟩ = some (.slice A_r r.f2.length c_r) ∧ w'.cell? ⟨w.heap.size, 3, none⟩ = some (.int .i64 r.f3) ∧ w'.cell? ⟨w.heap.size, 4, none⟩ = some (.string r.f4)) v1 from ⟨cell_on q1 d0, cell_on q1 d1, cell_on q1 d2, cell_on q1 d3, cell_on q1 d4⟩); clear q1)
    | (go_at_call 34; refine (ANY A2 c2 _ (by exact Kd.C_below (Kd.C_below R2.out Q1.out) (by go_grown)) k2).out.mono ?_; rintro e v2 ⟨rfl, ⟨m2, rfl⟩⟩)
    | (go_at_call 36; refine (P.spec_MatchesName.calls r.f0 r.f1 A_r c_r r.f2 r.f3 r.f4 nm port v _ (by exact Kd.C_below (Kd.C_below HAK.out Q1.out) (pw_below_drewN (Below.refl _ _) _)) hc_r HM.out).mono ?_; rintro e v3 ⟨rfl, q3⟩; have Q3 := Aside0.mk q3; have D2 := Aside0.mk (show (fun w' => w'.cell? ⟨w.heap.size, 0, none⟩ = some (.int .i64 r.f0) ∧ w'.cell? ⟨w.heap.size, 1, none⟩ = some (.string r.f1) ∧ w'.cell? ⟨w.heap.size, 2, none⟩ = some (.slice A_r r.f2.length c_r) ∧ w'.cell? ⟨w.heap.size, 3, none⟩ = some (.int .i64 r.f3) ∧ w'.cell? ⟨w.heap.size, 4, none⟩ = some (.string r.f4)) v3 from ⟨cell_on q3 D1.out.1, cell_on q3 D1.out.2.1, cell_on q3 D1.out.2.2.1, cell_on q3 D1.out.2.2.2.1, cell_on q3 D1.out.2.2.2.2⟩); clear q3))
  rename_i hh
  clear hh
  have bz := bel_then BK.out (bel_then (pw_below_drewN Q1.out m2) Q3.out)
  go_wp2_with fail
  go_ret
  exact ⟨ret_bool (by simp), bel_then FB.out bz⟩
end Go.Proofs.YtnchgmjeoajmiaaGreatDoor
