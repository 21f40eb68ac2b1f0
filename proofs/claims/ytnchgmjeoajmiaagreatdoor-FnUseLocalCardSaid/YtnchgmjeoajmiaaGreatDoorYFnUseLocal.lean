/- Requests to localhost and to loopback addresses never go through the proxy: FnUseLocal returns true at every input, and what came in reads behind the call as before. Here: its walk. The condition: the listed package-level variables hold, when the call begins, what their own texts lay (the tied card). -/
import Derived.Test.YtnchgmjeoajmiaaGreatDoorMc
import Derived.Laws.BitsLemmas
import Derived.Test.YtnchgmjeoajmiaaGreatDoorMa
import Derived.Test.YtnchgmjeoajmiaaGreatDoorMb
import Derived.Test.YtnchgmjeoajmiaaGreatDoorSx1
import Derived.Lib.SliceRun
/-! Lawa -/
namespace Go.Proofs.YtnchgmjeoajmiaaGreatDoor
open Go.RowKit Go.Proofs.YtnchgmjeoajmiaaGreatDoorW.PrintWords
set_option linter.unusedSimpArgs false
set_option linter.unusedVariables false

/-- What each law gives. -/
def SaysTrue (w : World) (e : Ending) (w' : World) : Prop := e = .returned (.bool true) ∧ Below w.heap.size w w'

theorem not_le_big {n : Nat} (h : ¬ (2147483647 : Int) < (n : Int)) : n ≤ 2147483647 := by omega

theorem rks_of {rs : List P.S42} (h : rs.length ≤ 30 ∧ ∀ r ∈ rs, Rk r) : Rks rs := ⟨by omega, h.2⟩

theorem addr_text (nm port : ByteArray) : ((nm ++ (⟨#[58]⟩ : ByteArray)) ++ port) = MK (BL nm ++ [58] ++ BL port) := by
  apply eq_of_BL
  rw [BL_append, BL_append]

theorem bel_drawn {w w1 w2 : World} (h : Below w.heap.size w w1) (k : Drawn0 w1 w2) : Below w.heap.size w w2 := by
  obtain ⟨n, rfl⟩ := k
  exact pw_below_drewN h n

theorem local_eq (nm : ByteArray) : (nm.toList == [108, 111, 99, 97, 108, 104, 111, 115, 116]) = (BL nm == [108, 111, 99, 97, 108, 104, 111, 115, 116]) := by rw [toList_BL]

set_option maxRecDepth 100000 in
set_option maxHeartbeats 1000000 in
theorem fnUseName_calls (p4 p6 : Addr) (A : Option Addr) (c : Nat) (rs : List P.S42) (nm port : ByteArray) (w : World) (G : GW p4 p6 w) (hc : rs.length ≤ c) (hA : Kd.C P.k42 w A rs.length rs) :
    Calls Tryz.prog 8 #[.slice A rs.length c, .string nm, .string port] w (SaysTrue w) := by
  obtain ⟨kf, bf, hf, ef⟩ := fits2_ev rs
  have HF := Aside0.mk (P.laws_zzFits2.calls kf A c rs bf w hA hc hf)
  clear hf
  cases bf with
  | false =>
    clear hA
    go_enter Tryz.func8, Tryz.ntmps8
    go_wp2_with fail
    refine HF.out.mono ?_
    rintro e w1 ⟨rfl, b1⟩
    go_wp2_with fail
    go_ret
    exact ⟨rfl, b1⟩
  | true =>
  obtain ⟨lenR, fitR⟩ := ef rfl
  by_cases c1 : 2147483647 < nm.size
  · have d1 : decide ((2147483647 : Int) < (nm.size : Int)) = true := decide_eq_true (by omega)
    clear hA ef fitR c1
    go_enter Tryz.func8, Tryz.ntmps8
    go_wp2_with fail
    refine HF.out.mono ?_
    rintro e w1 ⟨rfl, b1⟩
    go_wp2_with fail
    go_ret
    exact ⟨rfl, b1⟩
  have d1 : decide ((2147483647 : Int) < (nm.size : Int)) = false := decide_eq_false (by omega)
  by_cases c2 : 2147483647 < port.size
  · have d2 : decide ((2147483647 : Int) < (port.size : Int)) = true := decide_eq_true (by omega)
    clear hA ef fitR c1 c2
    go_enter Tryz.func8, Tryz.ntmps8
    go_wp2_with fail
    refine HF.out.mono ?_
    rintro e w1 ⟨rfl, b1⟩
    go_wp2_with fail
    go_ret
    exact ⟨rfl, b1⟩
  have d2 : decide ((2147483647 : Int) < (port.size : Int)) = false := decide_eq_false (by omega)
  obtain ⟨br, er, hr⟩ := areRules_ev rs fitR lenR
  obtain ⟨kr, er⟩ := er.at
  obtain ⟨bn, en, hn⟩ := isName_ev nm (by omega)
  obtain ⟨kn, en⟩ := en.at
  obtain ⟨bp, ep, hp⟩ := isPort_ev port (by omega)
  obtain ⟨kp, ep⟩ := ep.at
  have HR := fun w' hb => Aside0.mk (P.spec_AreRules.calls kr A c rs br w' (Kd.C_below hA hb) hc er)
  have HN := fun w' => Aside0.mk (P.spec_IsName.calls kn nm bn w' en)
  have HP := fun w' => Aside0.mk (P.spec_IsPort.calls kp port bp w' ep)
  have HA := Aside0.mk hA
  have ER := Aside0.mk hr
  have EN := Aside0.mk hn
  have EP := Aside0.mk hp
  clear hA ef fitR c1 c2 er en ep hr hn hp
  cases br with
  | false =>
    go_enter Tryz.func8, Tryz.ntmps8
    go_wp2_with fail
    refine HF.out.mono ?_
    rintro e w1 ⟨rfl, b1⟩
    go_wp2_with fail
    refine (HR w1 b1).out.mono ?_
    rintro e w2 ⟨rfl, b2⟩
    have b2 := bel_then b1 b2
    go_wp2_with fail
    refine (works_calls p4 p6 _ (G.below b2)).mono ?_
    rintro e w3 ⟨rfl, b3⟩
    have b3 := bel_then b2 b3
    go_wp2_with fail
    go_ret
    exact ⟨rfl, b3⟩
  | true =>
  go_enter Tryz.func8, Tryz.ntmps8
  go_wp2_with fail
  refine HF.out.mono ?_
  rintro e w1 ⟨rfl, b1⟩
  go_wp2_with fail
  refine (HR w1 b1).out.mono ?_
  rintro e w2 ⟨rfl, b2⟩
  have b2 := bel_then b1 b2
  go_wp2_with fail
  refine (HN _).out.mono ?_
  rintro e w3 ⟨rfl, hw3⟩
  have b3 := bel_drawn b2 hw3
  clear hw3 b1 b2
  cases bn with
  | false =>
    go_wp2_with fail
    refine (works_calls p4 p6 _ (G.below b3)).mono ?_
    rintro e wk ⟨rfl, bk⟩
    have bk := bel_then b3 bk
    go_wp2_with fail
    go_ret
    exact ⟨rfl, bk⟩
  | true =>
  go_wp2_with fail
  refine (HP _).out.mono ?_
  rintro e w4 ⟨rfl, hw4⟩
  have b4 := bel_drawn b3 hw4
  clear hw4 b3
  cases bp with
  | false =>
    go_wp2_with fail
    refine (works_calls p4 p6 _ (G.below b4)).mono ?_
    rintro e wk ⟨rfl, bk⟩
    have bk := bel_then b4 bk
    go_wp2_with fail
    go_ret
    exact ⟨rfl, bk⟩
  | true =>
  have hN := EN.out (by simp)
  have hP := EP.out (by simp)
  have hK := rks_of (ER.out (by simp))
  have US := fun w' G => Aside0.mk (by
    have := uses_rules p4 p6 w' (joinB ⟨#[44]⟩ (rs.map ruleText)) rs (BL nm) (BL port) G (listed_plain rs hK) hN hP
    rw [← addr_text, MK_BL, MK_BL] at this
    exact this)
  have LT := fun w' hb => Aside0.mk (listText_calls p4 p6 rs ⟨#[44]⟩ A c w' (G.below hb) (fun r hr => (hK.2 r hr).small) (by have := hK.1; omega) (by decide) hc (Kd.C_below HA.out hb))
  have hns : nm.size ≤ 100 := by have := hN.len; rw [BL_size] at this; exact this
  have hps : port.size ≤ 5 := by have := hP.five; rw [BL_size] at this; exact this
  have hz : (nm ++ (⟨#[58]⟩ : ByteArray)).size = nm.size + 1 := ByteArray.size_append
  have HKs := Aside0.mk hK
  clear hN hP hK
  cases hloc : (nm.toList == [108, 111, 99, 97, 108, 104, 111, 115, 116]) with
  | true =>
    go_wp2_with fail
    refine (works_calls p4 p6 _ (G.below b4)).mono ?_
    rintro e w5 ⟨rfl, b5⟩
    have b5 := bel_then b4 b5
    go_wp2_with fail
    refine (LT _ b5).out.mono ?_
    rintro e w6 ⟨rfl, b6⟩
    have b6 := bel_then b5 b6
    go_wp2_with fail
    have U6 := (US w6 (G.below b6)).out
    rw [← local_eq, hloc] at U6
    refine U6.mono ?_
    rintro e w7 ⟨rfl, b7⟩
    have b7 := bel_then b6 b7
    go_wp2_with fail
    go_ret
    exact ⟨ret_bool (by simp), b7⟩
  | false =>
    obtain ⟨ka, hany⟩ := anyName_eq rs HKs.out nm port (by omega)
    rw [show mok nm port none = mok (MK (BL nm)) (MK (BL port)) none by rw [MK_BL, MK_BL]] at hany
    generalize hval : ((lists (effsOf rs) [] []).2.any (mok (MK (BL nm)) (MK (BL port)) none)) = val at hany
    have HAN := fun w' hb => Aside0.mk (P.spec_AnyName.calls ka A c rs nm port val w' (Kd.C_below HA.out hb) hc hany)
    have HVAL := Aside0.mk hval
    clear hany hval
    go_wp2_with fail
    refine (HAN _ b4).out.mono ?_
    rintro e w4' ⟨rfl, b4'⟩
    have b4' := bel_then b4 b4'
    go_wp2_with fail
    refine (works_calls p4 p6 _ (G.below b4')).mono ?_
    rintro e w5 ⟨rfl, b5⟩
    have b5 := bel_then b4' b5
    go_wp2_with fail
    refine (LT _ b5).out.mono ?_
    rintro e w6 ⟨rfl, b6⟩
    have b6 := bel_then b5 b6
    go_wp2_with fail
    have U6 := (US w6 (G.below b6)).out
    rw [← local_eq, hloc, ← MK_BL nm, ← MK_BL port, HVAL.out] at U6
    refine U6.mono ?_
    rintro e w7 ⟨rfl, b7⟩
    have b7 := bel_then b6 b7
    go_wp2_with fail
    go_ret
    exact ⟨ret_bool (by simp), b7⟩
end Go.Proofs.YtnchgmjeoajmiaaGreatDoor

/-! Textj -/
namespace Go.Proofs.YtnchgmjeoajmiaaGreatDoor
open Go.RowKit Go.Proofs.YtnchgmjeoajmiaaGreatDoorW.PrintWords
set_option linter.unusedSimpArgs false
set_option linter.unusedVariables false

theorem joinL_append (sep : List UInt8) (xs ys : List (List UInt8)) (hx : xs ≠ []) (hy : ys ≠ []) : joinL sep (xs ++ ys) = joinL sep xs ++ sep ++ joinL sep ys := by
  cases xs with
  | nil => exact absurd rfl hx
  | cons x xs =>
    cases ys with
    | nil => exact absurd rfl hy
    | cons y ys => simp [joinL]

theorem joinB_append (sep : ByteArray) (xs ys : List ByteArray) (hx : xs ≠ []) (hy : ys ≠ []) : joinB sep (xs ++ ys) = (joinB sep xs ++ sep) ++ joinB sep ys := by
  apply eq_of_BL
  rw [BL_append, BL_append]
  unfold joinB
  simp only [BL_MK]
  rw [List.map_append, joinL_append _ _ _ (by simpa using hx) (by simpa using hy)]

theorem joinB_len (sep : ByteArray) (rs : List P.S42) (h : ∀ r ∈ rs, Rk r) (hs : sep.size ≤ 100) : (joinB sep (rs.map ruleText)).size ≤ rs.length * 2110 := by
  have := joinL_len (BL sep) ((rs.map ruleText).map BL) 2010 (fun x hx => by
    rw [List.map_map] at hx
    obtain ⟨r, hr, rfl⟩ := List.mem_map.1 hx
    exact ruleText_len (h r hr))
  unfold joinB
  rw [MK_size]
  have e : (BL sep).length = sep.size := BL_size sep
  rw [e, List.length_map, List.length_map] at this
  exact Nat.le_trans this (Nat.mul_le_mul_left _ (by omega))

theorem Rks.append {a b : List P.S42} (ha : a.length ≤ 30 ∧ ∀ r ∈ a, Rk r) (hb : b.length ≤ 30 ∧ ∀ r ∈ b, Rk r) : Rks (a ++ b) := by
  refine ⟨by rw [List.length_append]; omega, fun r hr => ?_⟩
  rcases List.mem_append.1 hr with h | h
  · exact ha.2 r h
  · exact hb.2 r h

/-- What the lists say of a name, rule by rule. -/
theorem anyN_eq (rs : List P.S42) (h p : ByteArray) : (lists (effsOf rs) [] []).2.any (mok h p none) = rs.any (fun r => sayN h p (eff r)) := by
  rw [any_names]
  unfold effsOf
  split
  · rename_i e; subst e; rfl
  · rw [List.any_map]; rfl
theorem anyN_append (a b : List P.S42) (h p : ByteArray) : (lists (effsOf (a ++ b)) [] []).2.any (mok h p none) = ((lists (effsOf a) [] []).2.any (mok h p none) || (lists (effsOf b) [] []).2.any (mok h p none)) := by
  rw [anyN_eq, anyN_eq, anyN_eq, List.any_append]
theorem anyN_reverse (a : List P.S42) (h p : ByteArray) : (lists (effsOf a.reverse) [] []).2.any (mok h p none) = (lists (effsOf a) [] []).2.any (mok h p none) := by
  rw [anyN_eq, anyN_eq, List.any_reverse]

/-- Two lists with a comma between them. -/
theorem listed_two (a b : List P.S42) (ha : a.length ≤ 30 ∧ ∀ r ∈ a, Rk r) (hb : b.length ≤ 30 ∧ ∀ r ∈ b, Rk r) (na : a ≠ []) (nb : b ≠ []) :
    Listed ((joinB ⟨#[44]⟩ (a.map ruleText) ++ (⟨#[44]⟩ : ByteArray)) ++ joinB ⟨#[44]⟩ (b.map ruleText)) (effsOf (a ++ b)) := by
  have := listed_plain (a ++ b) (Rks.append ha hb)
  rw [List.map_append, joinB_append _ _ _ (by simpa using na) (by simpa using nb)] at this
  exact this

/-- Spaces beside commas, and about the list. -/
theorem joinL_spaced (a b s : List UInt8) : ∀ (xs : List (List UInt8)), xs ≠ [] → a ++ joinL (b ++ s ++ a) xs ++ b = joinL s (xs.map fun x => a ++ x ++ b)
  | [], h => absurd rfl h
  | [x], _ => by simp [joinL]
  | x :: y :: t, _ => by
    have ih := joinL_spaced a b s (y :: t) (by simp)
    have e1 : joinL (b ++ s ++ a) (x :: y :: t) = x ++ (b ++ s ++ a) ++ joinL (b ++ s ++ a) (y :: t) := by simp [joinL]
    have e2 : joinL s ((x :: y :: t).map fun x => a ++ x ++ b) = (a ++ x ++ b) ++ s ++ joinL s ((y :: t).map fun x => a ++ x ++ b) := by simp [joinL]
    rw [e1, e2, ← ih]
    simp

theorem sps1 : Sps [32] := fun x hx => by simpa using hx
theorem listed_spaced (rs : List P.S42) (hr : Rks rs) : Listed (((⟨#[32]⟩ : ByteArray) ++ joinB ⟨#[32, 44, 32]⟩ (rs.map ruleText)) ++ (⟨#[32]⟩ : ByteArray)) (effsOf rs) := by
  have := listed_rules rs hr [32] [32] id sps1 sps1 (by simp) (by simp) (fun x hx => ⟨hx.1, hx.2.1, hx.2.2.1, by
    have := lower_map (q := [x]) (fun b hb => by simp at hb; subst hb; exact hx.2.2.2)
    simpa using this⟩)
  have e : ((⟨#[32]⟩ : ByteArray) ++ joinB ⟨#[32, 44, 32]⟩ (rs.map ruleText)) ++ (⟨#[32]⟩ : ByteArray) = MK (if rs = [] then [32] ++ [32] else joinL [44] (rs.map fun r => [32] ++ (BL (ruleText r)).map id ++ [32])) := by
    apply eq_of_BL
    rw [BL_append, BL_append, BL_MK]
    unfold joinB
    simp only [BL_MK]
    split
    · rename_i h; subst h; rfl
    · rename_i h
      have := joinL_spaced [32] [32] [44] ((rs.map ruleText).map BL) (by simpa using h)
      rw [List.map_map, List.map_map] at this
      rw [List.map_map]
      simp only [List.map_id]
      exact this
  rw [e]
  exact this

/-! ### Capitals -/
def upperB (b : UInt8) : UInt8 := if 97 ≤ b.toNat ∧ b.toNat ≤ 122 then b - 97 + 65 else b
def upperT (s : ByteArray) : ByteArray := MK ((BL s).map upperB)
theorem upper_all : ∀ i : Fin 256, ¬ (65 ≤ i.val ∧ i.val ≤ 90) → 32 < i.val → i.val < 128 → i.val ≠ 44 →
    32 < (upperB (UInt8.ofNat i.val)).toNat ∧ (upperB (UInt8.ofNat i.val)).toNat < 128 ∧ (upperB (UInt8.ofNat i.val)).toNat ≠ 44 ∧ Lib.lowerB (upperB (UInt8.ofNat i.val)) = UInt8.ofNat i.val := by decide +kernel
theorem upper_ok (x : UInt8) (hx : RuleB x) : 32 < (upperB x).toNat ∧ (upperB x).toNat < 128 ∧ (upperB x).toNat ≠ 44 ∧ Lib.lowerB (upperB x) = x := by
  have := upper_all ⟨x.toNat, x.toNat_lt⟩ hx.2.2.2 hx.1 hx.2.1 hx.2.2.1
  simpa using this
theorem upper_host : ∀ i : Fin 256, (97 ≤ i.val ∧ i.val ≤ 122) ∨ (48 ≤ i.val ∧ i.val ≤ 57) ∨ i.val = 45 ∨ i.val = 46 →
    (32 < (upperB (UInt8.ofNat i.val)).toNat ∧ (upperB (UInt8.ofNat i.val)).toNat < 128 ∧ (upperB (UInt8.ofNat i.val)).toNat ≠ 58 ∧ (upperB (UInt8.ofNat i.val)).toNat ≠ 91 ∧ (upperB (UInt8.ofNat i.val)).toNat ≠ 93 ∧ (upperB (UInt8.ofNat i.val)).toNat ≠ 37) ∧ (upperB (UInt8.ofNat i.val)).toNat ≠ 108 ∧ Lib.lowerB (upperB (UInt8.ofNat i.val)) = UInt8.ofNat i.val ∧ (97 ≤ i.val → ¬ (48 ≤ (upperB (UInt8.ofNat i.val)).toNat ∧ (upperB (UInt8.ofNat i.val)).toNat ≤ 57)) := by decide +kernel

theorem joinL_map (g : UInt8 → UInt8) (sep : List UInt8) (xs : List (List UInt8)) : (joinL sep xs).map g = joinL (sep.map g) (xs.map (·.map g)) := by
  cases xs with
  | nil => rfl
  | cons x t =>
    simp only [joinL, List.map_append, List.map_cons, List.map_flatten, List.map_map]
    congr 2
    exact List.map_congr_left fun y _ => by simp

theorem listed_upper (rs : List P.S42) (hr : Rks rs) : Listed (upperT (joinB ⟨#[44]⟩ (rs.map ruleText))) (effsOf rs) := by
  have := listed_rules rs hr [] [] upperB (fun x hx => by cases hx) (fun x hx => by cases hx) (by simp) (by simp) upper_ok
  have e : upperT (joinB ⟨#[44]⟩ (rs.map ruleText)) = MK (if rs = [] then [] ++ [] else joinL [44] (rs.map fun r => [] ++ (BL (ruleText r)).map upperB ++ [])) := by
    unfold upperT joinB
    simp only [BL_MK]
    split
    · rename_i h; subst h; rfl
    · rw [joinL_map, List.map_map, List.map_map]
      simp only [List.nil_append, List.append_nil]
      rfl
  rw [e]
  exact this

theorem Nm.upper_addr {nm p : List UInt8} (h : Nm nm) (hp : Pt p) : NameAddr (MK (nm.map upperB ++ [58] ++ p)) (MK (nm.map upperB)) (MK p) (MK nm) := by
  have hall : ∀ b ∈ nm, _ := fun b hb => upper_host ⟨b.toNat, b.toNat_lt⟩ (h.all b hb)
  simp only [UInt8.ofNat_toNat] at hall
  refine nameAddr_of (by simpa using h.ne) (by have := h.len; rw [List.length_map]; omega) (fun b hb => ?_) ?_ ?_ hp
  · obtain ⟨x, hx, rfl⟩ := List.mem_map.1 hb
    exact (hall x hx).1
  · obtain ⟨x, t, e, h1, h2⟩ := h.head
    have hx := hall x (by rw [e]; exact List.mem_cons_self)
    rw [e, List.map_cons, MK_first rfl]
    have := hx.2.2.2 h1
    omega
  · rw [List.map_map]
    conv => rhs; rw [← List.map_id nm]
    exact List.map_congr_left fun y hy => (hall y hy).2.2.1

theorem Nm.upper_local {nm : List UInt8} (h : Nm nm) : (MK (nm.map upperB)).toList ≠ [108, 111, 99, 97, 108, 104, 111, 115, 116] := by
  rw [toList_MK]
  obtain ⟨x, t, e, h1, h2⟩ := h.head
  have hx := upper_host ⟨x.toNat, x.toNat_lt⟩ (h.all x (by rw [e]; exact List.mem_cons_self))
  simp only [UInt8.ofNat_toNat] at hx
  rw [e, List.map_cons]
  intro k
  injection k with k _
  exact hx.2.1 (by rw [k]; rfl)

/-- A request to a name in capitals. -/
theorem uses_upper (p4 p6 : Addr) (w : World) (no : ByteArray) (rs : List P.S42) (nm p : List UInt8) (G : GW p4 p6 w) (hl : Listed no (effsOf rs)) (hn : Nm nm) (hp : Pt p) :
    Calls Tryz.prog 24 #[.string no, .string (MK (nm.map upperB ++ [58] ++ p))] w fun e w' => e = .returned (.bool (!((lists (effsOf rs) [] []).2.any (mok (MK nm) (MK p) none)))) ∧ Below w.heap.size w w' :=
  uses_name p4 p6 no (effsOf rs) w _ (MK (nm.map upperB)) (MK p) (MK nm) G hl (hn.upper_addr hp) hn.upper_local
end Go.Proofs.YtnchgmjeoajmiaaGreatDoor

/-! Says -/
namespace Go.Proofs.YtnchgmjeoajmiaaGreatDoor
open Go.RowKit Go.Proofs.YtnchgmjeoajmiaaGreatDoorW.PrintWords
set_option linter.unusedSimpArgs false
set_option linter.unusedVariables false

/-- Whether a request to a name and a port goes through the proxy, by rules. -/
def says (rs : List P.S42) (nm port : ByteArray) : Bool := !(nm.toList == [108, 111, 99, 97, 108, 104, 111, 115, 116]) && !((lists (effsOf rs) [] []).2.any (mok nm port none))
theorem says_append (a b : List P.S42) (nm port : ByteArray) : says (a ++ b) nm port = (says a nm port && says b nm port) := by
  unfold says
  rw [anyN_append]
  generalize (lists (effsOf a) [] []).2.any (mok nm port none) = x
  generalize (lists (effsOf b) [] []).2.any (mok nm port none) = y
  generalize (nm.toList == [108, 111, 99, 97, 108, 104, 111, 115, 116]) = z
  cases x <;> cases y <;> cases z <;> rfl
theorem says_reverse (a : List P.S42) (nm port : ByteArray) : says a.reverse nm port = says a nm port := by
  unfold says
  rw [anyN_reverse]

theorem uses_text (p4 p6 : Addr) (w : World) (no : ByteArray) (rs : List P.S42) (nm port : ByteArray) (G : GW p4 p6 w) (hl : Listed no (effsOf rs)) (hn : Nm (BL nm)) (hp : Pt (BL port)) :
    Calls Tryz.prog 24 #[.string no, .string ((nm ++ (⟨#[58]⟩ : ByteArray)) ++ port)] w fun e w' => e = .returned (.bool (says rs nm port)) ∧ Below w.heap.size w w' := by
  have := uses_rules p4 p6 w no rs (BL nm) (BL port) G hl hn hp
  rw [← addr_text, MK_BL, MK_BL, ← local_eq] at this
  exact this

theorem uses_text_upper (p4 p6 : Addr) (w : World) (no : ByteArray) (rs : List P.S42) (nm port : ByteArray) (G : GW p4 p6 w) (hl : Listed no (effsOf rs)) (hn : Nm (BL nm)) (hp : Pt (BL port)) (hloc : (nm.toList == [108, 111, 99, 97, 108, 104, 111, 115, 116]) = false) :
    Calls Tryz.prog 24 #[.string no, .string ((upperT nm ++ (⟨#[58]⟩ : ByteArray)) ++ port)] w fun e w' => e = .returned (.bool (says rs nm port)) ∧ Below w.heap.size w w' := by
  have := uses_upper p4 p6 w no rs (BL nm) (BL port) G hl hn hp
  rw [show says rs nm port = !((lists (effsOf rs) [] []).2.any (mok nm port none)) by unfold says; rw [hloc]; rfl]
  rw [MK_BL, MK_BL] at this
  rw [addr_text, show BL (upperT nm) = (BL nm).map upperB from rfl]
  exact this

theorem upperT_size (s : ByteArray) : (upperT s).size = s.size := by
  unfold upperT
  rw [MK_size, List.length_map, BL_size]
end Go.Proofs.YtnchgmjeoajmiaaGreatDoor

/-! Textk -/
namespace Go.Proofs.YtnchgmjeoajmiaaGreatDoor
open Go.RowKit Go.Proofs.YtnchgmjeoajmiaaGreatDoorW.PrintWords
set_option linter.unusedSimpArgs false
set_option linter.unusedVariables false

theorem byte_fin {a : Int} (h : Byte a) : ∃ i : Fin 256, a = (i.val : Int) := by
  unfold Byte at h
  exact ⟨⟨a.toNat, by omega⟩, by simp; omega⟩
theorem and_f0 : ∀ i : Fin 256, bits .and .u8 (i.val : Int) 255 = (i.val : Int) / 1 * 1 := by decide +kernel
theorem top_255 {a x : Int} (ha : Byte a) (hx : Byte x) : (bits .and .u8 (bits .and .u8 a 255) 255 == bits .and .u8 x 255) = decide (a / 1 = x / 1) := by
  obtain ⟨i, rfl⟩ := byte_fin ha
  obtain ⟨j, rfl⟩ := byte_fin hx
  have hi := i.isLt
  rw [and_f0 i, and_f0 j]
  have e : (i.val : Int) / 1 * 1 = (((i.val / 1 * 1 : Nat)) : Int) := by omega
  rw [e, and_f0 ⟨i.val / 1 * 1, by omega⟩, Bool.eq_iff_iff, beq_iff_eq, decide_eq_true_eq]
  simp only []
  omega
theorem and_f1 : ∀ i : Fin 256, bits .and .u8 (i.val : Int) 254 = (i.val : Int) / 2 * 2 := by decide +kernel
theorem top_254 {a x : Int} (ha : Byte a) (hx : Byte x) : (bits .and .u8 (bits .and .u8 a 254) 254 == bits .and .u8 x 254) = decide (a / 2 = x / 2) := by
  obtain ⟨i, rfl⟩ := byte_fin ha
  obtain ⟨j, rfl⟩ := byte_fin hx
  have hi := i.isLt
  rw [and_f1 i, and_f1 j]
  have e : (i.val : Int) / 2 * 2 = (((i.val / 2 * 2 : Nat)) : Int) := by omega
  rw [e, and_f1 ⟨i.val / 2 * 2, by omega⟩, Bool.eq_iff_iff, beq_iff_eq, decide_eq_true_eq]
  simp only []
  omega
theorem and_f2 : ∀ i : Fin 256, bits .and .u8 (i.val : Int) 252 = (i.val : Int) / 4 * 4 := by decide +kernel
theorem top_252 {a x : Int} (ha : Byte a) (hx : Byte x) : (bits .and .u8 (bits .and .u8 a 252) 252 == bits .and .u8 x 252) = decide (a / 4 = x / 4) := by
  obtain ⟨i, rfl⟩ := byte_fin ha
  obtain ⟨j, rfl⟩ := byte_fin hx
  have hi := i.isLt
  rw [and_f2 i, and_f2 j]
  have e : (i.val : Int) / 4 * 4 = (((i.val / 4 * 4 : Nat)) : Int) := by omega
  rw [e, and_f2 ⟨i.val / 4 * 4, by omega⟩, Bool.eq_iff_iff, beq_iff_eq, decide_eq_true_eq]
  simp only []
  omega
theorem and_f3 : ∀ i : Fin 256, bits .and .u8 (i.val : Int) 248 = (i.val : Int) / 8 * 8 := by decide +kernel
theorem top_248 {a x : Int} (ha : Byte a) (hx : Byte x) : (bits .and .u8 (bits .and .u8 a 248) 248 == bits .and .u8 x 248) = decide (a / 8 = x / 8) := by
  obtain ⟨i, rfl⟩ := byte_fin ha
  obtain ⟨j, rfl⟩ := byte_fin hx
  have hi := i.isLt
  rw [and_f3 i, and_f3 j]
  have e : (i.val : Int) / 8 * 8 = (((i.val / 8 * 8 : Nat)) : Int) := by omega
  rw [e, and_f3 ⟨i.val / 8 * 8, by omega⟩, Bool.eq_iff_iff, beq_iff_eq, decide_eq_true_eq]
  simp only []
  omega
theorem and_f4 : ∀ i : Fin 256, bits .and .u8 (i.val : Int) 240 = (i.val : Int) / 16 * 16 := by decide +kernel
theorem top_240 {a x : Int} (ha : Byte a) (hx : Byte x) : (bits .and .u8 (bits .and .u8 a 240) 240 == bits .and .u8 x 240) = decide (a / 16 = x / 16) := by
  obtain ⟨i, rfl⟩ := byte_fin ha
  obtain ⟨j, rfl⟩ := byte_fin hx
  have hi := i.isLt
  rw [and_f4 i, and_f4 j]
  have e : (i.val : Int) / 16 * 16 = (((i.val / 16 * 16 : Nat)) : Int) := by omega
  rw [e, and_f4 ⟨i.val / 16 * 16, by omega⟩, Bool.eq_iff_iff, beq_iff_eq, decide_eq_true_eq]
  simp only []
  omega
theorem and_f5 : ∀ i : Fin 256, bits .and .u8 (i.val : Int) 224 = (i.val : Int) / 32 * 32 := by decide +kernel
theorem top_224 {a x : Int} (ha : Byte a) (hx : Byte x) : (bits .and .u8 (bits .and .u8 a 224) 224 == bits .and .u8 x 224) = decide (a / 32 = x / 32) := by
  obtain ⟨i, rfl⟩ := byte_fin ha
  obtain ⟨j, rfl⟩ := byte_fin hx
  have hi := i.isLt
  rw [and_f5 i, and_f5 j]
  have e : (i.val : Int) / 32 * 32 = (((i.val / 32 * 32 : Nat)) : Int) := by omega
  rw [e, and_f5 ⟨i.val / 32 * 32, by omega⟩, Bool.eq_iff_iff, beq_iff_eq, decide_eq_true_eq]
  simp only []
  omega
theorem and_f6 : ∀ i : Fin 256, bits .and .u8 (i.val : Int) 192 = (i.val : Int) / 64 * 64 := by decide +kernel
theorem top_192 {a x : Int} (ha : Byte a) (hx : Byte x) : (bits .and .u8 (bits .and .u8 a 192) 192 == bits .and .u8 x 192) = decide (a / 64 = x / 64) := by
  obtain ⟨i, rfl⟩ := byte_fin ha
  obtain ⟨j, rfl⟩ := byte_fin hx
  have hi := i.isLt
  rw [and_f6 i, and_f6 j]
  have e : (i.val : Int) / 64 * 64 = (((i.val / 64 * 64 : Nat)) : Int) := by omega
  rw [e, and_f6 ⟨i.val / 64 * 64, by omega⟩, Bool.eq_iff_iff, beq_iff_eq, decide_eq_true_eq]
  simp only []
  omega
theorem and_f7 : ∀ i : Fin 256, bits .and .u8 (i.val : Int) 128 = (i.val : Int) / 128 * 128 := by decide +kernel
theorem top_128 {a x : Int} (ha : Byte a) (hx : Byte x) : (bits .and .u8 (bits .and .u8 a 128) 128 == bits .and .u8 x 128) = decide (a / 128 = x / 128) := by
  obtain ⟨i, rfl⟩ := byte_fin ha
  obtain ⟨j, rfl⟩ := byte_fin hx
  have hi := i.isLt
  rw [and_f7 i, and_f7 j]
  have e : (i.val : Int) / 128 * 128 = (((i.val / 128 * 128 : Nat)) : Int) := by omega
  rw [e, and_f7 ⟨i.val / 128 * 128, by omega⟩, Bool.eq_iff_iff, beq_iff_eq, decide_eq_true_eq]
  simp only []
  omega
theorem and_f8 : ∀ i : Fin 256, bits .and .u8 (i.val : Int) 0 = (i.val : Int) / 256 * 256 := by decide +kernel
theorem top_0 {a x : Int} (ha : Byte a) (hx : Byte x) : (bits .and .u8 (bits .and .u8 a 0) 0 == bits .and .u8 x 0) = decide (a / 256 = x / 256) := by
  obtain ⟨i, rfl⟩ := byte_fin ha
  obtain ⟨j, rfl⟩ := byte_fin hx
  have hi := i.isLt
  rw [and_f8 i, and_f8 j]
  have e : (i.val : Int) / 256 * 256 = (((i.val / 256 * 256 : Nat)) : Int) := by omega
  rw [e, and_f8 ⟨i.val / 256 * 256, by omega⟩, Bool.eq_iff_iff, beq_iff_eq, decide_eq_true_eq]
  simp only []
  omega
def num4 (a b c d : Int) : Int := a * 16777216 + b * 65536 + c * 256 + d
theorem under_four (n0 n1 n2 n3 m0 m1 m2 m3 x0 x1 x2 x3 : Int) : under [n0, n1, n2, n3] [m0, m1, m2, m3] [x0, x1, x2, x3] = ((bits .and .u8 n0 m0 == bits .and .u8 x0 m0) && ((bits .and .u8 n1 m1 == bits .and .u8 x1 m1) && ((bits .and .u8 n2 m2 == bits .and .u8 x2 m2) && (bits .and .u8 n3 m3 == bits .and .u8 x3 m3)))) := by
  simp [under, List.zip, List.zipWith]

theorem net_0 {a b c d x0 x1 x2 x3 : Int} (ha : Byte a) (hb : Byte b) (hc : Byte c) (hd : Byte d) (h0 : Byte x0) (h1 : Byte x1) (h2 : Byte x2) (h3 : Byte x3) :
    mask4 0 = [0, 0, 0, 0] ∧ under [bits .and .u8 a 0, bits .and .u8 b 0, bits .and .u8 c 0, bits .and .u8 d 0] [0, 0, 0, 0] [x0, x1, x2, x3] = (num4 x0 x1 x2 x3 / 4294967296 == num4 a b c d / 4294967296) := by
  refine ⟨by decide +kernel, ?_⟩
  rw [under_four, top_0 ha h0, top_0 hb h1, top_0 hc h2, top_0 hd h3, Bool.eq_iff_iff]
  simp only [Bool.and_eq_true, decide_eq_true_eq, beq_iff_eq]
  unfold Byte at *
  unfold num4
  omega
theorem net_1 {a b c d x0 x1 x2 x3 : Int} (ha : Byte a) (hb : Byte b) (hc : Byte c) (hd : Byte d) (h0 : Byte x0) (h1 : Byte x1) (h2 : Byte x2) (h3 : Byte x3) :
    mask4 1 = [128, 0, 0, 0] ∧ under [bits .and .u8 a 128, bits .and .u8 b 0, bits .and .u8 c 0, bits .and .u8 d 0] [128, 0, 0, 0] [x0, x1, x2, x3] = (num4 x0 x1 x2 x3 / 2147483648 == num4 a b c d / 2147483648) := by
  refine ⟨by decide +kernel, ?_⟩
  rw [under_four, top_128 ha h0, top_0 hb h1, top_0 hc h2, top_0 hd h3, Bool.eq_iff_iff]
  simp only [Bool.and_eq_true, decide_eq_true_eq, beq_iff_eq]
  unfold Byte at *
  unfold num4
  omega
theorem net_2 {a b c d x0 x1 x2 x3 : Int} (ha : Byte a) (hb : Byte b) (hc : Byte c) (hd : Byte d) (h0 : Byte x0) (h1 : Byte x1) (h2 : Byte x2) (h3 : Byte x3) :
    mask4 2 = [192, 0, 0, 0] ∧ under [bits .and .u8 a 192, bits .and .u8 b 0, bits .and .u8 c 0, bits .and .u8 d 0] [192, 0, 0, 0] [x0, x1, x2, x3] = (num4 x0 x1 x2 x3 / 1073741824 == num4 a b c d / 1073741824) := by
  refine ⟨by decide +kernel, ?_⟩
  rw [under_four, top_192 ha h0, top_0 hb h1, top_0 hc h2, top_0 hd h3, Bool.eq_iff_iff]
  simp only [Bool.and_eq_true, decide_eq_true_eq, beq_iff_eq]
  unfold Byte at *
  unfold num4
  omega
theorem net_3 {a b c d x0 x1 x2 x3 : Int} (ha : Byte a) (hb : Byte b) (hc : Byte c) (hd : Byte d) (h0 : Byte x0) (h1 : Byte x1) (h2 : Byte x2) (h3 : Byte x3) :
    mask4 3 = [224, 0, 0, 0] ∧ under [bits .and .u8 a 224, bits .and .u8 b 0, bits .and .u8 c 0, bits .and .u8 d 0] [224, 0, 0, 0] [x0, x1, x2, x3] = (num4 x0 x1 x2 x3 / 536870912 == num4 a b c d / 536870912) := by
  refine ⟨by decide +kernel, ?_⟩
  rw [under_four, top_224 ha h0, top_0 hb h1, top_0 hc h2, top_0 hd h3, Bool.eq_iff_iff]
  simp only [Bool.and_eq_true, decide_eq_true_eq, beq_iff_eq]
  unfold Byte at *
  unfold num4
  omega
theorem net_4 {a b c d x0 x1 x2 x3 : Int} (ha : Byte a) (hb : Byte b) (hc : Byte c) (hd : Byte d) (h0 : Byte x0) (h1 : Byte x1) (h2 : Byte x2) (h3 : Byte x3) :
    mask4 4 = [240, 0, 0, 0] ∧ under [bits .and .u8 a 240, bits .and .u8 b 0, bits .and .u8 c 0, bits .and .u8 d 0] [240, 0, 0, 0] [x0, x1, x2, x3] = (num4 x0 x1 x2 x3 / 268435456 == num4 a b c d / 268435456) := by
  refine ⟨by decide +kernel, ?_⟩
  rw [under_four, top_240 ha h0, top_0 hb h1, top_0 hc h2, top_0 hd h3, Bool.eq_iff_iff]
  simp only [Bool.and_eq_true, decide_eq_true_eq, beq_iff_eq]
  unfold Byte at *
  unfold num4
  omega
theorem net_5 {a b c d x0 x1 x2 x3 : Int} (ha : Byte a) (hb : Byte b) (hc : Byte c) (hd : Byte d) (h0 : Byte x0) (h1 : Byte x1) (h2 : Byte x2) (h3 : Byte x3) :
    mask4 5 = [248, 0, 0, 0] ∧ under [bits .and .u8 a 248, bits .and .u8 b 0, bits .and .u8 c 0, bits .and .u8 d 0] [248, 0, 0, 0] [x0, x1, x2, x3] = (num4 x0 x1 x2 x3 / 134217728 == num4 a b c d / 134217728) := by
  refine ⟨by decide +kernel, ?_⟩
  rw [under_four, top_248 ha h0, top_0 hb h1, top_0 hc h2, top_0 hd h3, Bool.eq_iff_iff]
  simp only [Bool.and_eq_true, decide_eq_true_eq, beq_iff_eq]
  unfold Byte at *
  unfold num4
  omega
theorem net_6 {a b c d x0 x1 x2 x3 : Int} (ha : Byte a) (hb : Byte b) (hc : Byte c) (hd : Byte d) (h0 : Byte x0) (h1 : Byte x1) (h2 : Byte x2) (h3 : Byte x3) :
    mask4 6 = [252, 0, 0, 0] ∧ under [bits .and .u8 a 252, bits .and .u8 b 0, bits .and .u8 c 0, bits .and .u8 d 0] [252, 0, 0, 0] [x0, x1, x2, x3] = (num4 x0 x1 x2 x3 / 67108864 == num4 a b c d / 67108864) := by
  refine ⟨by decide +kernel, ?_⟩
  rw [under_four, top_252 ha h0, top_0 hb h1, top_0 hc h2, top_0 hd h3, Bool.eq_iff_iff]
  simp only [Bool.and_eq_true, decide_eq_true_eq, beq_iff_eq]
  unfold Byte at *
  unfold num4
  omega
theorem net_7 {a b c d x0 x1 x2 x3 : Int} (ha : Byte a) (hb : Byte b) (hc : Byte c) (hd : Byte d) (h0 : Byte x0) (h1 : Byte x1) (h2 : Byte x2) (h3 : Byte x3) :
    mask4 7 = [254, 0, 0, 0] ∧ under [bits .and .u8 a 254, bits .and .u8 b 0, bits .and .u8 c 0, bits .and .u8 d 0] [254, 0, 0, 0] [x0, x1, x2, x3] = (num4 x0 x1 x2 x3 / 33554432 == num4 a b c d / 33554432) := by
  refine ⟨by decide +kernel, ?_⟩
  rw [under_four, top_254 ha h0, top_0 hb h1, top_0 hc h2, top_0 hd h3, Bool.eq_iff_iff]
  simp only [Bool.and_eq_true, decide_eq_true_eq, beq_iff_eq]
  unfold Byte at *
  unfold num4
  omega
theorem net_8 {a b c d x0 x1 x2 x3 : Int} (ha : Byte a) (hb : Byte b) (hc : Byte c) (hd : Byte d) (h0 : Byte x0) (h1 : Byte x1) (h2 : Byte x2) (h3 : Byte x3) :
    mask4 8 = [255, 0, 0, 0] ∧ under [bits .and .u8 a 255, bits .and .u8 b 0, bits .and .u8 c 0, bits .and .u8 d 0] [255, 0, 0, 0] [x0, x1, x2, x3] = (num4 x0 x1 x2 x3 / 16777216 == num4 a b c d / 16777216) := by
  refine ⟨by decide +kernel, ?_⟩
  rw [under_four, top_255 ha h0, top_0 hb h1, top_0 hc h2, top_0 hd h3, Bool.eq_iff_iff]
  simp only [Bool.and_eq_true, decide_eq_true_eq, beq_iff_eq]
  unfold Byte at *
  unfold num4
  omega
theorem net_9 {a b c d x0 x1 x2 x3 : Int} (ha : Byte a) (hb : Byte b) (hc : Byte c) (hd : Byte d) (h0 : Byte x0) (h1 : Byte x1) (h2 : Byte x2) (h3 : Byte x3) :
    mask4 9 = [255, 128, 0, 0] ∧ under [bits .and .u8 a 255, bits .and .u8 b 128, bits .and .u8 c 0, bits .and .u8 d 0] [255, 128, 0, 0] [x0, x1, x2, x3] = (num4 x0 x1 x2 x3 / 8388608 == num4 a b c d / 8388608) := by
  refine ⟨by decide +kernel, ?_⟩
  rw [under_four, top_255 ha h0, top_128 hb h1, top_0 hc h2, top_0 hd h3, Bool.eq_iff_iff]
  simp only [Bool.and_eq_true, decide_eq_true_eq, beq_iff_eq]
  unfold Byte at *
  unfold num4
  omega
theorem net_10 {a b c d x0 x1 x2 x3 : Int} (ha : Byte a) (hb : Byte b) (hc : Byte c) (hd : Byte d) (h0 : Byte x0) (h1 : Byte x1) (h2 : Byte x2) (h3 : Byte x3) :
    mask4 10 = [255, 192, 0, 0] ∧ under [bits .and .u8 a 255, bits .and .u8 b 192, bits .and .u8 c 0, bits .and .u8 d 0] [255, 192, 0, 0] [x0, x1, x2, x3] = (num4 x0 x1 x2 x3 / 4194304 == num4 a b c d / 4194304) := by
  refine ⟨by decide +kernel, ?_⟩
  rw [under_four, top_255 ha h0, top_192 hb h1, top_0 hc h2, top_0 hd h3, Bool.eq_iff_iff]
  simp only [Bool.and_eq_true, decide_eq_true_eq, beq_iff_eq]
  unfold Byte at *
  unfold num4
  omega
theorem net_11 {a b c d x0 x1 x2 x3 : Int} (ha : Byte a) (hb : Byte b) (hc : Byte c) (hd : Byte d) (h0 : Byte x0) (h1 : Byte x1) (h2 : Byte x2) (h3 : Byte x3) :
    mask4 11 = [255, 224, 0, 0] ∧ under [bits .and .u8 a 255, bits .and .u8 b 224, bits .and .u8 c 0, bits .and .u8 d 0] [255, 224, 0, 0] [x0, x1, x2, x3] = (num4 x0 x1 x2 x3 / 2097152 == num4 a b c d / 2097152) := by
  refine ⟨by decide +kernel, ?_⟩
  rw [under_four, top_255 ha h0, top_224 hb h1, top_0 hc h2, top_0 hd h3, Bool.eq_iff_iff]
  simp only [Bool.and_eq_true, decide_eq_true_eq, beq_iff_eq]
  unfold Byte at *
  unfold num4
  omega
theorem net_12 {a b c d x0 x1 x2 x3 : Int} (ha : Byte a) (hb : Byte b) (hc : Byte c) (hd : Byte d) (h0 : Byte x0) (h1 : Byte x1) (h2 : Byte x2) (h3 : Byte x3) :
    mask4 12 = [255, 240, 0, 0] ∧ under [bits .and .u8 a 255, bits .and .u8 b 240, bits .and .u8 c 0, bits .and .u8 d 0] [255, 240, 0, 0] [x0, x1, x2, x3] = (num4 x0 x1 x2 x3 / 1048576 == num4 a b c d / 1048576) := by
  refine ⟨by decide +kernel, ?_⟩
  rw [under_four, top_255 ha h0, top_240 hb h1, top_0 hc h2, top_0 hd h3, Bool.eq_iff_iff]
  simp only [Bool.and_eq_true, decide_eq_true_eq, beq_iff_eq]
  unfold Byte at *
  unfold num4
  omega
theorem net_13 {a b c d x0 x1 x2 x3 : Int} (ha : Byte a) (hb : Byte b) (hc : Byte c) (hd : Byte d) (h0 : Byte x0) (h1 : Byte x1) (h2 : Byte x2) (h3 : Byte x3) :
    mask4 13 = [255, 248, 0, 0] ∧ under [bits .and .u8 a 255, bits .and .u8 b 248, bits .and .u8 c 0, bits .and .u8 d 0] [255, 248, 0, 0] [x0, x1, x2, x3] = (num4 x0 x1 x2 x3 / 524288 == num4 a b c d / 524288) := by
  refine ⟨by decide +kernel, ?_⟩
  rw [under_four, top_255 ha h0, top_248 hb h1, top_0 hc h2, top_0 hd h3, Bool.eq_iff_iff]
  simp only [Bool.and_eq_true, decide_eq_true_eq, beq_iff_eq]
  unfold Byte at *
  unfold num4
  omega
theorem net_14 {a b c d x0 x1 x2 x3 : Int} (ha : Byte a) (hb : Byte b) (hc : Byte c) (hd : Byte d) (h0 : Byte x0) (h1 : Byte x1) (h2 : Byte x2) (h3 : Byte x3) :
    mask4 14 = [255, 252, 0, 0] ∧ under [bits .and .u8 a 255, bits .and .u8 b 252, bits .and .u8 c 0, bits .and .u8 d 0] [255, 252, 0, 0] [x0, x1, x2, x3] = (num4 x0 x1 x2 x3 / 262144 == num4 a b c d / 262144) := by
  refine ⟨by decide +kernel, ?_⟩
  rw [under_four, top_255 ha h0, top_252 hb h1, top_0 hc h2, top_0 hd h3, Bool.eq_iff_iff]
  simp only [Bool.and_eq_true, decide_eq_true_eq, beq_iff_eq]
  unfold Byte at *
  unfold num4
  omega
theorem net_15 {a b c d x0 x1 x2 x3 : Int} (ha : Byte a) (hb : Byte b) (hc : Byte c) (hd : Byte d) (h0 : Byte x0) (h1 : Byte x1) (h2 : Byte x2) (h3 : Byte x3) :
    mask4 15 = [255, 254, 0, 0] ∧ under [bits .and .u8 a 255, bits .and .u8 b 254, bits .and .u8 c 0, bits .and .u8 d 0] [255, 254, 0, 0] [x0, x1, x2, x3] = (num4 x0 x1 x2 x3 / 131072 == num4 a b c d / 131072) := by
  refine ⟨by decide +kernel, ?_⟩
  rw [under_four, top_255 ha h0, top_254 hb h1, top_0 hc h2, top_0 hd h3, Bool.eq_iff_iff]
  simp only [Bool.and_eq_true, decide_eq_true_eq, beq_iff_eq]
  unfold Byte at *
  unfold num4
  omega
theorem net_16 {a b c d x0 x1 x2 x3 : Int} (ha : Byte a) (hb : Byte b) (hc : Byte c) (hd : Byte d) (h0 : Byte x0) (h1 : Byte x1) (h2 : Byte x2) (h3 : Byte x3) :
    mask4 16 = [255, 255, 0, 0] ∧ under [bits .and .u8 a 255, bits .and .u8 b 255, bits .and .u8 c 0, bits .and .u8 d 0] [255, 255, 0, 0] [x0, x1, x2, x3] = (num4 x0 x1 x2 x3 / 65536 == num4 a b c d / 65536) := by
  refine ⟨by decide +kernel, ?_⟩
  rw [under_four, top_255 ha h0, top_255 hb h1, top_0 hc h2, top_0 hd h3, Bool.eq_iff_iff]
  simp only [Bool.and_eq_true, decide_eq_true_eq, beq_iff_eq]
  unfold Byte at *
  unfold num4
  omega
theorem net_17 {a b c d x0 x1 x2 x3 : Int} (ha : Byte a) (hb : Byte b) (hc : Byte c) (hd : Byte d) (h0 : Byte x0) (h1 : Byte x1) (h2 : Byte x2) (h3 : Byte x3) :
    mask4 17 = [255, 255, 128, 0] ∧ under [bits .and .u8 a 255, bits .and .u8 b 255, bits .and .u8 c 128, bits .and .u8 d 0] [255, 255, 128, 0] [x0, x1, x2, x3] = (num4 x0 x1 x2 x3 / 32768 == num4 a b c d / 32768) := by
  refine ⟨by decide +kernel, ?_⟩
  rw [under_four, top_255 ha h0, top_255 hb h1, top_128 hc h2, top_0 hd h3, Bool.eq_iff_iff]
  simp only [Bool.and_eq_true, decide_eq_true_eq, beq_iff_eq]
  unfold Byte at *
  unfold num4
  omega
theorem net_18 {a b c d x0 x1 x2 x3 : Int} (ha : Byte a) (hb : Byte b) (hc : Byte c) (hd : Byte d) (h0 : Byte x0) (h1 : Byte x1) (h2 : Byte x2) (h3 : Byte x3) :
    mask4 18 = [255, 255, 192, 0] ∧ under [bits .and .u8 a 255, bits .and .u8 b 255, bits .and .u8 c 192, bits .and .u8 d 0] [255, 255, 192, 0] [x0, x1, x2, x3] = (num4 x0 x1 x2 x3 / 16384 == num4 a b c d / 16384) := by
  refine ⟨by decide +kernel, ?_⟩
  rw [under_four, top_255 ha h0, top_255 hb h1, top_192 hc h2, top_0 hd h3, Bool.eq_iff_iff]
  simp only [Bool.and_eq_true, decide_eq_true_eq, beq_iff_eq]
  unfold Byte at *
  unfold num4
  omega
theorem net_19 {a b c d x0 x1 x2 x3 : Int} (ha : Byte a) (hb : Byte b) (hc : Byte c) (hd : Byte d) (h0 : Byte x0) (h1 : Byte x1) (h2 : Byte x2) (h3 : Byte x3) :
    mask4 19 = [255, 255, 224, 0] ∧ under [bits .and .u8 a 255, bits .and .u8 b 255, bits .and .u8 c 224, bits .and .u8 d 0] [255, 255, 224, 0] [x0, x1, x2, x3] = (num4 x0 x1 x2 x3 / 8192 == num4 a b c d / 8192) := by
  refine ⟨by decide +kernel, ?_⟩
  rw [under_four, top_255 ha h0, top_255 hb h1, top_224 hc h2, top_0 hd h3, Bool.eq_iff_iff]
  simp only [Bool.and_eq_true, decide_eq_true_eq, beq_iff_eq]
  unfold Byte at *
  unfold num4
  omega
theorem net_20 {a b c d x0 x1 x2 x3 : Int} (ha : Byte a) (hb : Byte b) (hc : Byte c) (hd : Byte d) (h0 : Byte x0) (h1 : Byte x1) (h2 : Byte x2) (h3 : Byte x3) :
    mask4 20 = [255, 255, 240, 0] ∧ under [bits .and .u8 a 255, bits .and .u8 b 255, bits .and .u8 c 240, bits .and .u8 d 0] [255, 255, 240, 0] [x0, x1, x2, x3] = (num4 x0 x1 x2 x3 / 4096 == num4 a b c d / 4096) := by
  refine ⟨by decide +kernel, ?_⟩
  rw [under_four, top_255 ha h0, top_255 hb h1, top_240 hc h2, top_0 hd h3, Bool.eq_iff_iff]
  simp only [Bool.and_eq_true, decide_eq_true_eq, beq_iff_eq]
  unfold Byte at *
  unfold num4
  omega
theorem net_21 {a b c d x0 x1 x2 x3 : Int} (ha : Byte a) (hb : Byte b) (hc : Byte c) (hd : Byte d) (h0 : Byte x0) (h1 : Byte x1) (h2 : Byte x2) (h3 : Byte x3) :
    mask4 21 = [255, 255, 248, 0] ∧ under [bits .and .u8 a 255, bits .and .u8 b 255, bits .and .u8 c 248, bits .and .u8 d 0] [255, 255, 248, 0] [x0, x1, x2, x3] = (num4 x0 x1 x2 x3 / 2048 == num4 a b c d / 2048) := by
  refine ⟨by decide +kernel, ?_⟩
  rw [under_four, top_255 ha h0, top_255 hb h1, top_248 hc h2, top_0 hd h3, Bool.eq_iff_iff]
  simp only [Bool.and_eq_true, decide_eq_true_eq, beq_iff_eq]
  unfold Byte at *
  unfold num4
  omega
theorem net_22 {a b c d x0 x1 x2 x3 : Int} (ha : Byte a) (hb : Byte b) (hc : Byte c) (hd : Byte d) (h0 : Byte x0) (h1 : Byte x1) (h2 : Byte x2) (h3 : Byte x3) :
    mask4 22 = [255, 255, 252, 0] ∧ under [bits .and .u8 a 255, bits .and .u8 b 255, bits .and .u8 c 252, bits .and .u8 d 0] [255, 255, 252, 0] [x0, x1, x2, x3] = (num4 x0 x1 x2 x3 / 1024 == num4 a b c d / 1024) := by
  refine ⟨by decide +kernel, ?_⟩
  rw [under_four, top_255 ha h0, top_255 hb h1, top_252 hc h2, top_0 hd h3, Bool.eq_iff_iff]
  simp only [Bool.and_eq_true, decide_eq_true_eq, beq_iff_eq]
  unfold Byte at *
  unfold num4
  omega
theorem net_23 {a b c d x0 x1 x2 x3 : Int} (ha : Byte a) (hb : Byte b) (hc : Byte c) (hd : Byte d) (h0 : Byte x0) (h1 : Byte x1) (h2 : Byte x2) (h3 : Byte x3) :
    mask4 23 = [255, 255, 254, 0] ∧ under [bits .and .u8 a 255, bits .and .u8 b 255, bits .and .u8 c 254, bits .and .u8 d 0] [255, 255, 254, 0] [x0, x1, x2, x3] = (num4 x0 x1 x2 x3 / 512 == num4 a b c d / 512) := by
  refine ⟨by decide +kernel, ?_⟩
  rw [under_four, top_255 ha h0, top_255 hb h1, top_254 hc h2, top_0 hd h3, Bool.eq_iff_iff]
  simp only [Bool.and_eq_true, decide_eq_true_eq, beq_iff_eq]
  unfold Byte at *
  unfold num4
  omega
theorem net_24 {a b c d x0 x1 x2 x3 : Int} (ha : Byte a) (hb : Byte b) (hc : Byte c) (hd : Byte d) (h0 : Byte x0) (h1 : Byte x1) (h2 : Byte x2) (h3 : Byte x3) :
    mask4 24 = [255, 255, 255, 0] ∧ under [bits .and .u8 a 255, bits .and .u8 b 255, bits .and .u8 c 255, bits .and .u8 d 0] [255, 255, 255, 0] [x0, x1, x2, x3] = (num4 x0 x1 x2 x3 / 256 == num4 a b c d / 256) := by
  refine ⟨by decide +kernel, ?_⟩
  rw [under_four, top_255 ha h0, top_255 hb h1, top_255 hc h2, top_0 hd h3, Bool.eq_iff_iff]
  simp only [Bool.and_eq_true, decide_eq_true_eq, beq_iff_eq]
  unfold Byte at *
  unfold num4
  omega
theorem net_25 {a b c d x0 x1 x2 x3 : Int} (ha : Byte a) (hb : Byte b) (hc : Byte c) (hd : Byte d) (h0 : Byte x0) (h1 : Byte x1) (h2 : Byte x2) (h3 : Byte x3) :
    mask4 25 = [255, 255, 255, 128] ∧ under [bits .and .u8 a 255, bits .and .u8 b 255, bits .and .u8 c 255, bits .and .u8 d 128] [255, 255, 255, 128] [x0, x1, x2, x3] = (num4 x0 x1 x2 x3 / 128 == num4 a b c d / 128) := by
  refine ⟨by decide +kernel, ?_⟩
  rw [under_four, top_255 ha h0, top_255 hb h1, top_255 hc h2, top_128 hd h3, Bool.eq_iff_iff]
  simp only [Bool.and_eq_true, decide_eq_true_eq, beq_iff_eq]
  unfold Byte at *
  unfold num4
  omega
theorem net_26 {a b c d x0 x1 x2 x3 : Int} (ha : Byte a) (hb : Byte b) (hc : Byte c) (hd : Byte d) (h0 : Byte x0) (h1 : Byte x1) (h2 : Byte x2) (h3 : Byte x3) :
    mask4 26 = [255, 255, 255, 192] ∧ under [bits .and .u8 a 255, bits .and .u8 b 255, bits .and .u8 c 255, bits .and .u8 d 192] [255, 255, 255, 192] [x0, x1, x2, x3] = (num4 x0 x1 x2 x3 / 64 == num4 a b c d / 64) := by
  refine ⟨by decide +kernel, ?_⟩
  rw [under_four, top_255 ha h0, top_255 hb h1, top_255 hc h2, top_192 hd h3, Bool.eq_iff_iff]
  simp only [Bool.and_eq_true, decide_eq_true_eq, beq_iff_eq]
  unfold Byte at *
  unfold num4
  omega
theorem net_27 {a b c d x0 x1 x2 x3 : Int} (ha : Byte a) (hb : Byte b) (hc : Byte c) (hd : Byte d) (h0 : Byte x0) (h1 : Byte x1) (h2 : Byte x2) (h3 : Byte x3) :
    mask4 27 = [255, 255, 255, 224] ∧ under [bits .and .u8 a 255, bits .and .u8 b 255, bits .and .u8 c 255, bits .and .u8 d 224] [255, 255, 255, 224] [x0, x1, x2, x3] = (num4 x0 x1 x2 x3 / 32 == num4 a b c d / 32) := by
  refine ⟨by decide +kernel, ?_⟩
  rw [under_four, top_255 ha h0, top_255 hb h1, top_255 hc h2, top_224 hd h3, Bool.eq_iff_iff]
  simp only [Bool.and_eq_true, decide_eq_true_eq, beq_iff_eq]
  unfold Byte at *
  unfold num4
  omega
theorem net_28 {a b c d x0 x1 x2 x3 : Int} (ha : Byte a) (hb : Byte b) (hc : Byte c) (hd : Byte d) (h0 : Byte x0) (h1 : Byte x1) (h2 : Byte x2) (h3 : Byte x3) :
    mask4 28 = [255, 255, 255, 240] ∧ under [bits .and .u8 a 255, bits .and .u8 b 255, bits .and .u8 c 255, bits .and .u8 d 240] [255, 255, 255, 240] [x0, x1, x2, x3] = (num4 x0 x1 x2 x3 / 16 == num4 a b c d / 16) := by
  refine ⟨by decide +kernel, ?_⟩
  rw [under_four, top_255 ha h0, top_255 hb h1, top_255 hc h2, top_240 hd h3, Bool.eq_iff_iff]
  simp only [Bool.and_eq_true, decide_eq_true_eq, beq_iff_eq]
  unfold Byte at *
  unfold num4
  omega
theorem net_29 {a b c d x0 x1 x2 x3 : Int} (ha : Byte a) (hb : Byte b) (hc : Byte c) (hd : Byte d) (h0 : Byte x0) (h1 : Byte x1) (h2 : Byte x2) (h3 : Byte x3) :
    mask4 29 = [255, 255, 255, 248] ∧ under [bits .and .u8 a 255, bits .and .u8 b 255, bits .and .u8 c 255, bits .and .u8 d 248] [255, 255, 255, 248] [x0, x1, x2, x3] = (num4 x0 x1 x2 x3 / 8 == num4 a b c d / 8) := by
  refine ⟨by decide +kernel, ?_⟩
  rw [under_four, top_255 ha h0, top_255 hb h1, top_255 hc h2, top_248 hd h3, Bool.eq_iff_iff]
  simp only [Bool.and_eq_true, decide_eq_true_eq, beq_iff_eq]
  unfold Byte at *
  unfold num4
  omega
theorem net_30 {a b c d x0 x1 x2 x3 : Int} (ha : Byte a) (hb : Byte b) (hc : Byte c) (hd : Byte d) (h0 : Byte x0) (h1 : Byte x1) (h2 : Byte x2) (h3 : Byte x3) :
    mask4 30 = [255, 255, 255, 252] ∧ under [bits .and .u8 a 255, bits .and .u8 b 255, bits .and .u8 c 255, bits .and .u8 d 252] [255, 255, 255, 252] [x0, x1, x2, x3] = (num4 x0 x1 x2 x3 / 4 == num4 a b c d / 4) := by
  refine ⟨by decide +kernel, ?_⟩
  rw [under_four, top_255 ha h0, top_255 hb h1, top_255 hc h2, top_252 hd h3, Bool.eq_iff_iff]
  simp only [Bool.and_eq_true, decide_eq_true_eq, beq_iff_eq]
  unfold Byte at *
  unfold num4
  omega
theorem net_31 {a b c d x0 x1 x2 x3 : Int} (ha : Byte a) (hb : Byte b) (hc : Byte c) (hd : Byte d) (h0 : Byte x0) (h1 : Byte x1) (h2 : Byte x2) (h3 : Byte x3) :
    mask4 31 = [255, 255, 255, 254] ∧ under [bits .and .u8 a 255, bits .and .u8 b 255, bits .and .u8 c 255, bits .and .u8 d 254] [255, 255, 255, 254] [x0, x1, x2, x3] = (num4 x0 x1 x2 x3 / 2 == num4 a b c d / 2) := by
  refine ⟨by decide +kernel, ?_⟩
  rw [under_four, top_255 ha h0, top_255 hb h1, top_255 hc h2, top_254 hd h3, Bool.eq_iff_iff]
  simp only [Bool.and_eq_true, decide_eq_true_eq, beq_iff_eq]
  unfold Byte at *
  unfold num4
  omega
theorem net_32 {a b c d x0 x1 x2 x3 : Int} (ha : Byte a) (hb : Byte b) (hc : Byte c) (hd : Byte d) (h0 : Byte x0) (h1 : Byte x1) (h2 : Byte x2) (h3 : Byte x3) :
    mask4 32 = [255, 255, 255, 255] ∧ under [bits .and .u8 a 255, bits .and .u8 b 255, bits .and .u8 c 255, bits .and .u8 d 255] [255, 255, 255, 255] [x0, x1, x2, x3] = (num4 x0 x1 x2 x3 / 1 == num4 a b c d / 1) := by
  refine ⟨by decide +kernel, ?_⟩
  rw [under_four, top_255 ha h0, top_255 hb h1, top_255 hc h2, top_255 hd h3, Bool.eq_iff_iff]
  simp only [Bool.and_eq_true, decide_eq_true_eq, beq_iff_eq]
  unfold Byte at *
  unfold num4
  omega
theorem shr_0 (X : Int) : shr .i64 X (wrap64 (32 - 0)) = X / 4294967296 := by
  unfold shr
  rw [show (2 : Int) ^ min (wrap64 (32 - 0)).toNat IntKind.i64.bits = 4294967296 from by decide +kernel]
theorem shr_1 (X : Int) : shr .i64 X (wrap64 (32 - 1)) = X / 2147483648 := by
  unfold shr
  rw [show (2 : Int) ^ min (wrap64 (32 - 1)).toNat IntKind.i64.bits = 2147483648 from by decide +kernel]
theorem shr_2 (X : Int) : shr .i64 X (wrap64 (32 - 2)) = X / 1073741824 := by
  unfold shr
  rw [show (2 : Int) ^ min (wrap64 (32 - 2)).toNat IntKind.i64.bits = 1073741824 from by decide +kernel]
theorem shr_3 (X : Int) : shr .i64 X (wrap64 (32 - 3)) = X / 536870912 := by
  unfold shr
  rw [show (2 : Int) ^ min (wrap64 (32 - 3)).toNat IntKind.i64.bits = 536870912 from by decide +kernel]
theorem shr_4 (X : Int) : shr .i64 X (wrap64 (32 - 4)) = X / 268435456 := by
  unfold shr
  rw [show (2 : Int) ^ min (wrap64 (32 - 4)).toNat IntKind.i64.bits = 268435456 from by decide +kernel]
theorem shr_5 (X : Int) : shr .i64 X (wrap64 (32 - 5)) = X / 134217728 := by
  unfold shr
  rw [show (2 : Int) ^ min (wrap64 (32 - 5)).toNat IntKind.i64.bits = 134217728 from by decide +kernel]
theorem shr_6 (X : Int) : shr .i64 X (wrap64 (32 - 6)) = X / 67108864 := by
  unfold shr
  rw [show (2 : Int) ^ min (wrap64 (32 - 6)).toNat IntKind.i64.bits = 67108864 from by decide +kernel]
theorem shr_7 (X : Int) : shr .i64 X (wrap64 (32 - 7)) = X / 33554432 := by
  unfold shr
  rw [show (2 : Int) ^ min (wrap64 (32 - 7)).toNat IntKind.i64.bits = 33554432 from by decide +kernel]
theorem shr_8 (X : Int) : shr .i64 X (wrap64 (32 - 8)) = X / 16777216 := by
  unfold shr
  rw [show (2 : Int) ^ min (wrap64 (32 - 8)).toNat IntKind.i64.bits = 16777216 from by decide +kernel]
theorem shr_9 (X : Int) : shr .i64 X (wrap64 (32 - 9)) = X / 8388608 := by
  unfold shr
  rw [show (2 : Int) ^ min (wrap64 (32 - 9)).toNat IntKind.i64.bits = 8388608 from by decide +kernel]
theorem shr_10 (X : Int) : shr .i64 X (wrap64 (32 - 10)) = X / 4194304 := by
  unfold shr
  rw [show (2 : Int) ^ min (wrap64 (32 - 10)).toNat IntKind.i64.bits = 4194304 from by decide +kernel]
theorem shr_11 (X : Int) : shr .i64 X (wrap64 (32 - 11)) = X / 2097152 := by
  unfold shr
  rw [show (2 : Int) ^ min (wrap64 (32 - 11)).toNat IntKind.i64.bits = 2097152 from by decide +kernel]
theorem shr_12 (X : Int) : shr .i64 X (wrap64 (32 - 12)) = X / 1048576 := by
  unfold shr
  rw [show (2 : Int) ^ min (wrap64 (32 - 12)).toNat IntKind.i64.bits = 1048576 from by decide +kernel]
theorem shr_13 (X : Int) : shr .i64 X (wrap64 (32 - 13)) = X / 524288 := by
  unfold shr
  rw [show (2 : Int) ^ min (wrap64 (32 - 13)).toNat IntKind.i64.bits = 524288 from by decide +kernel]
theorem shr_14 (X : Int) : shr .i64 X (wrap64 (32 - 14)) = X / 262144 := by
  unfold shr
  rw [show (2 : Int) ^ min (wrap64 (32 - 14)).toNat IntKind.i64.bits = 262144 from by decide +kernel]
theorem shr_15 (X : Int) : shr .i64 X (wrap64 (32 - 15)) = X / 131072 := by
  unfold shr
  rw [show (2 : Int) ^ min (wrap64 (32 - 15)).toNat IntKind.i64.bits = 131072 from by decide +kernel]
theorem shr_16 (X : Int) : shr .i64 X (wrap64 (32 - 16)) = X / 65536 := by
  unfold shr
  rw [show (2 : Int) ^ min (wrap64 (32 - 16)).toNat IntKind.i64.bits = 65536 from by decide +kernel]
theorem shr_17 (X : Int) : shr .i64 X (wrap64 (32 - 17)) = X / 32768 := by
  unfold shr
  rw [show (2 : Int) ^ min (wrap64 (32 - 17)).toNat IntKind.i64.bits = 32768 from by decide +kernel]
theorem shr_18 (X : Int) : shr .i64 X (wrap64 (32 - 18)) = X / 16384 := by
  unfold shr
  rw [show (2 : Int) ^ min (wrap64 (32 - 18)).toNat IntKind.i64.bits = 16384 from by decide +kernel]
theorem shr_19 (X : Int) : shr .i64 X (wrap64 (32 - 19)) = X / 8192 := by
  unfold shr
  rw [show (2 : Int) ^ min (wrap64 (32 - 19)).toNat IntKind.i64.bits = 8192 from by decide +kernel]
theorem shr_20 (X : Int) : shr .i64 X (wrap64 (32 - 20)) = X / 4096 := by
  unfold shr
  rw [show (2 : Int) ^ min (wrap64 (32 - 20)).toNat IntKind.i64.bits = 4096 from by decide +kernel]
theorem shr_21 (X : Int) : shr .i64 X (wrap64 (32 - 21)) = X / 2048 := by
  unfold shr
  rw [show (2 : Int) ^ min (wrap64 (32 - 21)).toNat IntKind.i64.bits = 2048 from by decide +kernel]
theorem shr_22 (X : Int) : shr .i64 X (wrap64 (32 - 22)) = X / 1024 := by
  unfold shr
  rw [show (2 : Int) ^ min (wrap64 (32 - 22)).toNat IntKind.i64.bits = 1024 from by decide +kernel]
theorem shr_23 (X : Int) : shr .i64 X (wrap64 (32 - 23)) = X / 512 := by
  unfold shr
  rw [show (2 : Int) ^ min (wrap64 (32 - 23)).toNat IntKind.i64.bits = 512 from by decide +kernel]
theorem shr_24 (X : Int) : shr .i64 X (wrap64 (32 - 24)) = X / 256 := by
  unfold shr
  rw [show (2 : Int) ^ min (wrap64 (32 - 24)).toNat IntKind.i64.bits = 256 from by decide +kernel]
theorem shr_25 (X : Int) : shr .i64 X (wrap64 (32 - 25)) = X / 128 := by
  unfold shr
  rw [show (2 : Int) ^ min (wrap64 (32 - 25)).toNat IntKind.i64.bits = 128 from by decide +kernel]
theorem shr_26 (X : Int) : shr .i64 X (wrap64 (32 - 26)) = X / 64 := by
  unfold shr
  rw [show (2 : Int) ^ min (wrap64 (32 - 26)).toNat IntKind.i64.bits = 64 from by decide +kernel]
theorem shr_27 (X : Int) : shr .i64 X (wrap64 (32 - 27)) = X / 32 := by
  unfold shr
  rw [show (2 : Int) ^ min (wrap64 (32 - 27)).toNat IntKind.i64.bits = 32 from by decide +kernel]
theorem shr_28 (X : Int) : shr .i64 X (wrap64 (32 - 28)) = X / 16 := by
  unfold shr
  rw [show (2 : Int) ^ min (wrap64 (32 - 28)).toNat IntKind.i64.bits = 16 from by decide +kernel]
theorem shr_29 (X : Int) : shr .i64 X (wrap64 (32 - 29)) = X / 8 := by
  unfold shr
  rw [show (2 : Int) ^ min (wrap64 (32 - 29)).toNat IntKind.i64.bits = 8 from by decide +kernel]
theorem shr_30 (X : Int) : shr .i64 X (wrap64 (32 - 30)) = X / 4 := by
  unfold shr
  rw [show (2 : Int) ^ min (wrap64 (32 - 30)).toNat IntKind.i64.bits = 4 from by decide +kernel]
theorem shr_31 (X : Int) : shr .i64 X (wrap64 (32 - 31)) = X / 2 := by
  unfold shr
  rw [show (2 : Int) ^ min (wrap64 (32 - 31)).toNat IntKind.i64.bits = 2 from by decide +kernel]
theorem shr_32 (X : Int) : shr .i64 X (wrap64 (32 - 32)) = X / 1 := by
  unfold shr
  rw [show (2 : Int) ^ min (wrap64 (32 - 32)).toNat IntKind.i64.bits = 1 from by decide +kernel]

theorem net_all {n : Int} (k0 : 0 ≤ n) (k1 : n ≤ 32) {a b c d x0 x1 x2 x3 : Int} (ha : Byte a) (hb : Byte b) (hc : Byte c) (hd : Byte d) (h0 : Byte x0) (h1 : Byte x1) (h2 : Byte x2) (h3 : Byte x3) :
    ∃ m0 m1 m2 m3, mask4 n = [m0, m1, m2, m3] ∧ under [bits .and .u8 a m0, bits .and .u8 b m1, bits .and .u8 c m2, bits .and .u8 d m3] [m0, m1, m2, m3] [x0, x1, x2, x3] = (shr .i64 (num4 x0 x1 x2 x3) (wrap64 (32 - n)) == shr .i64 (num4 a b c d) (wrap64 (32 - n))) := by
  rcases (by omega : n = 0 ∨ n = 1 ∨ n = 2 ∨ n = 3 ∨ n = 4 ∨ n = 5 ∨ n = 6 ∨ n = 7 ∨ n = 8 ∨ n = 9 ∨ n = 10 ∨ n = 11 ∨ n = 12 ∨ n = 13 ∨ n = 14 ∨ n = 15 ∨ n = 16 ∨ n = 17 ∨ n = 18 ∨ n = 19 ∨ n = 20 ∨ n = 21 ∨ n = 22 ∨ n = 23 ∨ n = 24 ∨ n = 25 ∨ n = 26 ∨ n = 27 ∨ n = 28 ∨ n = 29 ∨ n = 30 ∨ n = 31 ∨ n = 32) with rfl | rfl | rfl | rfl | rfl | rfl | rfl | rfl | rfl | rfl | rfl | rfl | rfl | rfl | rfl | rfl | rfl | rfl | rfl | rfl | rfl | rfl | rfl | rfl | rfl | rfl | rfl | rfl | rfl | rfl | rfl | rfl | rfl
  · exact ⟨_, _, _, _, (net_0 ha hb hc hd h0 h1 h2 h3).1, by rw [shr_0, shr_0]; exact (net_0 ha hb hc hd h0 h1 h2 h3).2⟩
  · exact ⟨_, _, _, _, (net_1 ha hb hc hd h0 h1 h2 h3).1, by rw [shr_1, shr_1]; exact (net_1 ha hb hc hd h0 h1 h2 h3).2⟩
  · exact ⟨_, _, _, _, (net_2 ha hb hc hd h0 h1 h2 h3).1, by rw [shr_2, shr_2]; exact (net_2 ha hb hc hd h0 h1 h2 h3).2⟩
  · exact ⟨_, _, _, _, (net_3 ha hb hc hd h0 h1 h2 h3).1, by rw [shr_3, shr_3]; exact (net_3 ha hb hc hd h0 h1 h2 h3).2⟩
  · exact ⟨_, _, _, _, (net_4 ha hb hc hd h0 h1 h2 h3).1, by rw [shr_4, shr_4]; exact (net_4 ha hb hc hd h0 h1 h2 h3).2⟩
  · exact ⟨_, _, _, _, (net_5 ha hb hc hd h0 h1 h2 h3).1, by rw [shr_5, shr_5]; exact (net_5 ha hb hc hd h0 h1 h2 h3).2⟩
  · exact ⟨_, _, _, _, (net_6 ha hb hc hd h0 h1 h2 h3).1, by rw [shr_6, shr_6]; exact (net_6 ha hb hc hd h0 h1 h2 h3).2⟩
  · exact ⟨_, _, _, _, (net_7 ha hb hc hd h0 h1 h2 h3).1, by rw [shr_7, shr_7]; exact (net_7 ha hb hc hd h0 h1 h2 h3).2⟩
  · exact ⟨_, _, _, _, (net_8 ha hb hc hd h0 h1 h2 h3).1, by rw [shr_8, shr_8]; exact (net_8 ha hb hc hd h0 h1 h2 h3).2⟩
  · exact ⟨_, _, _, _, (net_9 ha hb hc hd h0 h1 h2 h3).1, by rw [shr_9, shr_9]; exact (net_9 ha hb hc hd h0 h1 h2 h3).2⟩
  · exact ⟨_, _, _, _, (net_10 ha hb hc hd h0 h1 h2 h3).1, by rw [shr_10, shr_10]; exact (net_10 ha hb hc hd h0 h1 h2 h3).2⟩
  · exact ⟨_, _, _, _, (net_11 ha hb hc hd h0 h1 h2 h3).1, by rw [shr_11, shr_11]; exact (net_11 ha hb hc hd h0 h1 h2 h3).2⟩
  · exact ⟨_, _, _, _, (net_12 ha hb hc hd h0 h1 h2 h3).1, by rw [shr_12, shr_12]; exact (net_12 ha hb hc hd h0 h1 h2 h3).2⟩
  · exact ⟨_, _, _, _, (net_13 ha hb hc hd h0 h1 h2 h3).1, by rw [shr_13, shr_13]; exact (net_13 ha hb hc hd h0 h1 h2 h3).2⟩
  · exact ⟨_, _, _, _, (net_14 ha hb hc hd h0 h1 h2 h3).1, by rw [shr_14, shr_14]; exact (net_14 ha hb hc hd h0 h1 h2 h3).2⟩
  · exact ⟨_, _, _, _, (net_15 ha hb hc hd h0 h1 h2 h3).1, by rw [shr_15, shr_15]; exact (net_15 ha hb hc hd h0 h1 h2 h3).2⟩
  · exact ⟨_, _, _, _, (net_16 ha hb hc hd h0 h1 h2 h3).1, by rw [shr_16, shr_16]; exact (net_16 ha hb hc hd h0 h1 h2 h3).2⟩
  · exact ⟨_, _, _, _, (net_17 ha hb hc hd h0 h1 h2 h3).1, by rw [shr_17, shr_17]; exact (net_17 ha hb hc hd h0 h1 h2 h3).2⟩
  · exact ⟨_, _, _, _, (net_18 ha hb hc hd h0 h1 h2 h3).1, by rw [shr_18, shr_18]; exact (net_18 ha hb hc hd h0 h1 h2 h3).2⟩
  · exact ⟨_, _, _, _, (net_19 ha hb hc hd h0 h1 h2 h3).1, by rw [shr_19, shr_19]; exact (net_19 ha hb hc hd h0 h1 h2 h3).2⟩
  · exact ⟨_, _, _, _, (net_20 ha hb hc hd h0 h1 h2 h3).1, by rw [shr_20, shr_20]; exact (net_20 ha hb hc hd h0 h1 h2 h3).2⟩
  · exact ⟨_, _, _, _, (net_21 ha hb hc hd h0 h1 h2 h3).1, by rw [shr_21, shr_21]; exact (net_21 ha hb hc hd h0 h1 h2 h3).2⟩
  · exact ⟨_, _, _, _, (net_22 ha hb hc hd h0 h1 h2 h3).1, by rw [shr_22, shr_22]; exact (net_22 ha hb hc hd h0 h1 h2 h3).2⟩
  · exact ⟨_, _, _, _, (net_23 ha hb hc hd h0 h1 h2 h3).1, by rw [shr_23, shr_23]; exact (net_23 ha hb hc hd h0 h1 h2 h3).2⟩
  · exact ⟨_, _, _, _, (net_24 ha hb hc hd h0 h1 h2 h3).1, by rw [shr_24, shr_24]; exact (net_24 ha hb hc hd h0 h1 h2 h3).2⟩
  · exact ⟨_, _, _, _, (net_25 ha hb hc hd h0 h1 h2 h3).1, by rw [shr_25, shr_25]; exact (net_25 ha hb hc hd h0 h1 h2 h3).2⟩
  · exact ⟨_, _, _, _, (net_26 ha hb hc hd h0 h1 h2 h3).1, by rw [shr_26, shr_26]; exact (net_26 ha hb hc hd h0 h1 h2 h3).2⟩
  · exact ⟨_, _, _, _, (net_27 ha hb hc hd h0 h1 h2 h3).1, by rw [shr_27, shr_27]; exact (net_27 ha hb hc hd h0 h1 h2 h3).2⟩
  · exact ⟨_, _, _, _, (net_28 ha hb hc hd h0 h1 h2 h3).1, by rw [shr_28, shr_28]; exact (net_28 ha hb hc hd h0 h1 h2 h3).2⟩
  · exact ⟨_, _, _, _, (net_29 ha hb hc hd h0 h1 h2 h3).1, by rw [shr_29, shr_29]; exact (net_29 ha hb hc hd h0 h1 h2 h3).2⟩
  · exact ⟨_, _, _, _, (net_30 ha hb hc hd h0 h1 h2 h3).1, by rw [shr_30, shr_30]; exact (net_30 ha hb hc hd h0 h1 h2 h3).2⟩
  · exact ⟨_, _, _, _, (net_31 ha hb hc hd h0 h1 h2 h3).1, by rw [shr_31, shr_31]; exact (net_31 ha hb hc hd h0 h1 h2 h3).2⟩
  · exact ⟨_, _, _, _, (net_32 ha hb hc hd h0 h1 h2 h3).1, by rw [shr_32, shr_32]; exact (net_32 ha hb hc hd h0 h1 h2 h3).2⟩

theorem or_low (x n : Int) (hx : 0 ≤ x) (hm : x % 256 = 0) (hx1 : x < 4294967296) (hn : Byte n) : bits .or .i64 x n = x + n := by
  unfold Byte at hn
  exact bits_join .i64 63 (by decide) (fun n h0 h1 => by have h1 : n < 9223372036854775808 := h1; rw [IntKind.wrap_i64]; omega) 8 x n hx (by omega) (by omega) (by omega) (by omega) (by omega)

theorem number_four (k : Nat) {a b c d : Int} (ha : Byte a) (hb : Byte b) (hc : Byte c) (hd : Byte d) : P.spec_number.f (k + 5) [a, b, c, d] = some (num4 a b c d) := by
  unfold P.spec_number.f
  have e0 : wrap64 ((0 : Int) * 256) = 0 := by unfold wrap64; omega
  have e1 : wrap64 ((0 : Int) + 1) = 1 := by unfold wrap64; omega
  have e2 : wrap64 ((1 : Int) + 1) = 2 := by unfold wrap64; omega
  have e3 : wrap64 ((2 : Int) + 1) = 3 := by unfold wrap64; omega
  have e4 : wrap64 ((3 : Int) + 1) = 4 := by unfold wrap64; omega
  have hl : (([a, b, c, d] : List Int).length : Int) = 4 := rfl
  have f1 : wrap64 ((0 + a) * 256) = a * 256 := by unfold wrap64; unfold Byte at *; omega
  have f2 : wrap64 ((a * 256 + b) * 256) = (a * 256 + b) * 256 := by unfold wrap64; unfold Byte at *; omega
  have f3 : wrap64 (((a * 256 + b) * 256 + c) * 256) = ((a * 256 + b) * 256 + c) * 256 := by unfold wrap64; unfold Byte at *; omega
  have r0 : rd [a, b, c, d] 0 = a := rfl
  have r1 : rd [a, b, c, d] 1 = b := rfl
  have r2 : rd [a, b, c, d] 2 = c := rfl
  have r3 : rd [a, b, c, d] 3 = d := rfl
  simp only [P.spec_number.l0, hl, e0, e1, e2, e3, e4, r0, r1, r2, r3]
  rw [or_low 0 a (by omega) (by omega) (by omega) ha, f1, or_low (a * 256) b (by unfold Byte at *; omega) (by omega) (by unfold Byte at *; omega) hb, f2, or_low ((a * 256 + b) * 256) c (by unfold Byte at *; omega) (by omega) (by unfold Byte at *; omega) hc, f3, or_low (((a * 256 + b) * 256 + c) * 256) d (by unfold Byte at *; omega) (by omega) (by unfold Byte at *; omega) hd]
  simp only [show ((0 : Int) < 4) = True by simp, show ((1 : Int) < 4) = True by simp, show ((2 : Int) < 4) = True by simp, show ((3 : Int) < 4) = True by simp, show ((4 : Int) < 4) = False by simp, show ((0 : Int) ≤ 0) = True by simp, show ((0 : Int) ≤ 1) = True by simp, show ((0 : Int) ≤ 2) = True by simp, show ((0 : Int) ≤ 3) = True by simp, if_true, if_false]
  congr 1
  unfold num4
  omega

/-- Four bytes as bytes. -/
theorem str_four {a b c d x0 x1 x2 x3 : Int} (ha : Byte a) (hb : Byte b) (hc : Byte c) (hd : Byte d) (h0 : Byte x0) (h1 : Byte x1) (h2 : Byte x2) (h3 : Byte x3) :
    ((strOfNums [a, b, c, d]).toList == (strOfNums [x0, x1, x2, x3]).toList) = (num4 x0 x1 x2 x3 == num4 a b c d) := by
  have u : ∀ {x y : Int}, Byte x → Byte y → (UInt8.ofNat x.toNat = UInt8.ofNat y.toNat ↔ x = y) := fun {x y} hx hy => by
    unfold Byte at hx hy
    rw [← UInt8.toNat_inj]
    simp
    omega
  rw [Bool.eq_iff_iff, beq_iff_eq, beq_iff_eq, toList_BL, toList_BL]
  have e : ∀ p q r s : Int, BL (strOfNums [p, q, r, s]) = [UInt8.ofNat p.toNat, UInt8.ofNat q.toNat, UInt8.ofNat r.toNat, UInt8.ofNat s.toNat] := fun p q r s => rfl
  rw [e, e]
  simp only [List.cons.injEq, and_true, u ha h0, u hb h1, u hc h2, u hd h3]
  unfold Byte at *
  unfold num4
  omega

theorem matchesA_eq (r : P.S42) (h : Rk r) {x0 x1 x2 x3 : Int} (h0 : Byte x0) (h1 : Byte x1) (h2 : Byte x2) (h3 : Byte x3) (hh p : ByteArray) (k : Nat) :
    P.spec_MatchesAddress.f (k + 5) r.f0 r.f1 r.f2 r.f3 r.f4 [x0, x1, x2, x3] p = some (sayA hh p (x0, x1, x2, x3) (eff r)) := by
  have hp : (if r.f4.toList = ([] : List UInt8) then some true else some (r.f4.toList == p.toList)) = some (portOk r.f4 p) := by
    unfold portOk
    rw [empty_iff]
    split
    · rename_i h; simp [h]
    · rename_i h; simp [h]
  unfold P.spec_MatchesAddress.f eff
  by_cases k0 : r.f0 = 0
  · rw [if_pos k0, k0]; rfl
  rw [if_neg k0]
  by_cases k1 : r.f0 = 1
  · rw [if_pos k1, k1]; rfl
  rw [if_neg k1]
  by_cases k2 : r.f0 = 2
  · obtain ⟨a, b, c, d, hl, ha, hb, hc, hd⟩ := h.addr (.inl k2)
    rw [if_pos k2, if_pos k2, hl, number_four k h0 h1 h2 h3, number_four k ha hb hc hd, hp]
    simp only [Option.bind_some, sayA, isStar, ipF, mok, Bool.false_or]
    rw [str_four ha hb hc hd h0 h1 h2 h3]
    by_cases e : num4 x0 x1 x2 x3 = num4 a b c d
    · rw [if_pos e, e]; simp
    · rw [if_neg e, beq_eq_false_iff_ne.2 e]; rfl
  rw [if_neg k2, if_neg k2]
  by_cases k3 : r.f0 = 3
  · obtain ⟨a, b, c, d, hl, ha, hb, hc, hd⟩ := h.addr (.inr k3)
    obtain ⟨n0, n1⟩ := h.bits k3
    obtain ⟨m0, m1, m2, m3, hm, hu⟩ := net_all n0 n1 ha hb hc hd h0 h1 h2 h3
    rw [if_pos k3, if_pos k3, hl, hm, number_four k h0 h1 h2 h3, number_four k ha hb hc hd]
    simp only [Option.bind_some, sayA, isStar, ipF, mok, Bool.false_or]
    rw [hu, if_pos (by unfold wrap64; omega)]
  rw [if_neg k3, if_neg k3]
  have k4 : r.f0 = 4 := by rcases h.kind with k | k | k | k | k <;> first | exact absurd k (by assumption) | exact k
  rw [k4]
  rfl

theorem eff_dom (r : P.S42) (f : Mt → Bool) (hf : ∀ h p m, f (.dom h p m) = false) : domF f (eff r) = false := by
  unfold eff
  split
  · exact hf _ _ _
  split
  · exact hf _ _ _
  split
  · split <;> rfl
  split
  · split <;> rfl
  · rfl

theorem anyA_l (rs : List P.S42) (h : Rks rs) {x0 x1 x2 x3 : Int} (h0 : Byte x0) (h1 : Byte x1) (h2 : Byte x2) (h3 : Byte x3) (hh p : ByteArray) : ∀ (d k : Nat) (i : Nat), rs.length = i + d → d + 5 < k →
    P.spec_AnyAddress.l0 k [x0, x1, x2, x3] p rs (rs.length : Int) (i : Int) = some ((rs.drop i).any fun r => sayA hh p (x0, x1, x2, x3) (eff r)) := by
  intro d
  induction d with
  | zero =>
    intro k i hi hk
    obtain ⟨k, rfl⟩ : ∃ m, k = m + 1 := ⟨k - 1, by omega⟩
    simp only [P.spec_AnyAddress.l0]
    rw [if_neg (by omega), List.drop_of_length_le (by omega)]
    rfl
  | succ d ih =>
    intro k i hi hk
    obtain ⟨k, rfl⟩ : ∃ m, k = m + 1 := ⟨k - 1, by omega⟩
    have hlt : i < rs.length := by omega
    have hr := h.1
    have e : P.rd_T42 rs (i : Int) = rs[i]'hlt := by simp [P.rd_T42, hlt]
    have hm : P.spec_MatchesAddress.f k (rs[i]'hlt).f0 (rs[i]'hlt).f1 (rs[i]'hlt).f2 (rs[i]'hlt).f3 (rs[i]'hlt).f4 [x0, x1, x2, x3] p = some (sayA hh p (x0, x1, x2, x3) (eff (rs[i]'hlt))) := by
      obtain ⟨q, hq⟩ : ∃ m, k = m + 5 := ⟨k - 5, by omega⟩
      rw [hq]
      exact matchesA_eq _ (h.2 _ (List.getElem_mem hlt)) h0 h1 h2 h3 hh p q
    have ew : wrap64 ((i : Int) + 1) = ((i + 1 : Nat) : Int) := by unfold wrap64; omega
    simp only [P.spec_AnyAddress.l0]
    rw [if_pos (by omega), if_pos (by omega), if_pos (by omega), e, hm, ew]
    simp only [Option.bind_some]
    rw [List.drop_eq_getElem_cons hlt, List.any_cons]
    cases sayA hh p (x0, x1, x2, x3) (eff (rs[i]'hlt)) with
    | true => rfl
    | false =>
      rw [if_neg (by decide), ih k (i + 1) (by omega) (by omega)]
      rfl

theorem anyA_eq (rs : List P.S42) (h : Rks rs) {x0 x1 x2 x3 : Int} (h0 : Byte x0) (h1 : Byte x1) (h2 : Byte x2) (h3 : Byte x3) (hh p : ByteArray) :
    ∃ k, P.spec_AnyAddress.f k rs [x0, x1, x2, x3] p = some ((lists (effsOf rs) [] []).1.any (mok hh p (some (x0, x1, x2, x3))) || (lists (effsOf rs) [] []).2.any (mok hh p (some (x0, x1, x2, x3)))) := by
  refine ⟨rs.length + 6, ?_⟩
  have := anyA_l rs h h0 h1 h2 h3 hh p rs.length (rs.length + 6) 0 (by omega) (by omega)
  unfold P.spec_AnyAddress.f
  rw [show (0 : Int) = ((0 : Nat) : Int) from rfl, this, List.drop_zero, any_addrs]
  · unfold effsOf
    split
    · rename_i e; subst e; rfl
    · rw [List.any_map]; rfl
  · intro e he
    unfold effsOf at he
    split at he
    · simp at he; subst he; rfl
    · obtain ⟨r, _, rfl⟩ := List.mem_map.1 he
      exact eff_dom r _ fun _ _ _ => rfl
end Go.Proofs.YtnchgmjeoajmiaaGreatDoor

/-! Saysa -/
namespace Go.Proofs.YtnchgmjeoajmiaaGreatDoor
open Go.RowKit Go.Proofs.YtnchgmjeoajmiaaGreatDoorW.PrintWords
set_option linter.unusedSimpArgs false
set_option linter.unusedVariables false

theorem dots_addr {a b c d : Int} (ha : Byte a) (hb : Byte b) (hc : Byte c) (hd : Byte d) {p : List UInt8} (hp : Pt p) :
    FourAddr (MK (dots a b c d ++ [58] ++ p)) (MK (dots a b c d)) (MK p) (MK (dots a b c d)) a b c d := by
  have hh := dots_host ha hb hc hd
  have hl := dots_len ha hb hc hd
  have hit := item_of (a := []) (q := dots a b c d) (b := []) (fun x hx => by cases hx) (fun x hx => by cases hx) (fun b hb => by have := hh.all b hb; exact ⟨this.1, this.2.1⟩) (by simp; omega)
  rw [List.nil_append, List.append_nil, lower_map fun b hb => by have := hh.all b hb; omega] at hit
  refine ⟨by rw [MK_size]; simp; omega, ⟨_, hh.split hp⟩, ?_, dots_four ha hb hc hd, hit, by rw [MK_size]; omega⟩
  rw [toList_MK]
  intro e
  have := dots_bytes ha hb hc hd 108 (by rw [e]; simp)
  revert this
  decide

/-- Whether a request to an address and a port goes through the proxy, by rules. -/
def saysA (rs : List P.S42) (a b c d : Int) (port : ByteArray) : Bool := !(a == 127) && !((lists (effsOf rs) [] []).1.any (mok (addrText a b c d) port (some (a, b, c, d))) || (lists (effsOf rs) [] []).2.any (mok (addrText a b c d) port (some (a, b, c, d))))

theorem uses_addr (p4 p6 : Addr) (w : World) (no : ByteArray) (rs : List P.S42) (a b c d : Int) (port : ByteArray) (G : GW p4 p6 w) (hl : Listed no (effsOf rs)) (ha : Byte a) (hb : Byte b) (hc : Byte c) (hd : Byte d) (hp : Pt (BL port)) :
    Calls Tryz.prog 24 #[.string no, .string ((addrText a b c d ++ (⟨#[58]⟩ : ByteArray)) ++ port)] w fun e w' => e = .returned (.bool (saysA rs a b c d port)) ∧ Below w.heap.size w w' := by
  have := uses_four p4 p6 no (effsOf rs) w _ _ _ _ a b c d G hl (dots_addr ha hb hc hd hp)
  have e : MK (dots a b c d ++ [58] ++ BL port) = (addrText a b c d ++ (⟨#[58]⟩ : ByteArray)) ++ port := by
    rw [addr_text, addrText_eq ha hb hc hd]
  rw [e, MK_BL] at this
  refine this.mono fun x w' ⟨h1, h2⟩ => ⟨?_, h2⟩
  rw [h1]
  refine ret_bool ?_
  unfold saysA
  rw [addrText_eq ha hb hc hd]
  generalize (lists (effsOf rs) [] []).1.any (mok (MK (dots a b c d)) port (some (a, b, c, d))) = x
  generalize (lists (effsOf rs) [] []).2.any (mok (MK (dots a b c d)) port (some (a, b, c, d))) = y
  generalize (a == 127) = z
  cases x <;> cases y <;> cases z <;> rfl
end Go.Proofs.YtnchgmjeoajmiaaGreatDoor

/-! Push -/
namespace Go.Proofs.YtnchgmjeoajmiaaGreatDoor
open Go.RowKit Go.Proofs.YtnchgmjeoajmiaaGreatDoorW.PrintWords
set_option linter.unusedSimpArgs false
set_option linter.unusedVariables false

section
variable {P : Program} {ops : Array Oper} {rest : List Oper} {o : Oper} {a : Act} {Q : Exit → Act → World → Prop} {α : Type} {R : α → List Value → Prop}
/-- What the builtin does, at two slice types of one element. -/
theorem run_rows {W : World} (base : Nat) (ty t u e : TypeId) (z : Value) (size bytes : Nat)
    (ht : P.underlying t = some (.slice e)) (hu : P.underlying u = some (.slice e)) (hinfo : (P.info? e).map (fun i => (i.zero, i.size, i.bytes)) = some (some z, size, bytes)) (hz : z.cells.size = size) (hs0 : 0 < size) (hb0 : 0 < bytes)
    (v : Value) (xs ys : List α) (A : Option Addr) (m c : Nat)
    (HO : OwnRow R e size W base v xs) (HR : ReadsRow R size W A m ys) (hone : ∀ p cs, R p cs → ∀ u ∈ cs, u.oneCell' = true)
    (hbase : base ≤ W.heap.size) (hl : (xs.length + m) * bytes ≤ 140737488355328) :
    ∃ v1 w1, (Builtin.append_ #[t, u] ty #[v, .slice A m c]).run P W = .ok v1 w1 ∧ OwnRow R e size w1 base v1 (xs ++ ys) ∧ W.grownBy w1 v.ownBlock ∧ (v1.ownBlock = v.ownBlock ∨ ∃ b, v1.ownBlock = some b ∧ W.heap.size ≤ b) := by
  have hsame : (Builtin.append_ #[t, u] ty #[v, .slice A m c]).run P W = (Builtin.append_ #[t, t] ty #[v, .slice A m c]).run P W := by
    obtain ⟨_, h, _⟩ := HO
    rcases h.2 with ⟨rfl, _⟩ | ⟨g, cap, cur, rfl, _⟩
    · simp only [Builtin.append_, Sem.run_bind, run_underlying ht, run_underlying hu, Result.andThen_ok, List.getElem?_toArray, List.getElem?_cons_zero, List.getElem?_cons_succ]
    · simp only [Builtin.append_, Sem.run_bind, run_underlying ht, run_underlying hu, Result.andThen_ok, List.getElem?_toArray, List.getElem?_cons_zero, List.getElem?_cons_succ]
  rw [hsame]
  obtain ⟨i0, hi, hzz⟩ := Option.map_eq_some_iff.1 hinfo
  simp only [Prod.mk.injEq] at hzz
  obtain ⟨hz0, hz1, hz2⟩ := hzz
  have hm : ys.length = m := HR.1
  have hlen : xs.length + m ≤ 140737488355328 := Nat.le_trans (Nat.le_mul_of_pos_right _ hb0) hl
  obtain ⟨inner, hown, hr⟩ := HO
  rcases A with _ | ad
  · have h0 : m = 0 := by
      rcases Nat.eq_zero_or_pos m with h0 | h0
      · exact h0
      · obtain ⟨ad, h, _⟩ := HR.2.2 h0
        cases h
    subst h0
    obtain rfl : ys = [] := List.eq_nil_of_length_eq_zero hm
    refine ⟨v, W, ?_, by rw [List.append_nil]; exact ⟨inner, hown, hr⟩, World.grownBy.refl W _, .inl rfl⟩
    rcases hown.2 with ⟨rfl, hn⟩ | ⟨g, cap, cur, rfl, _, _, hnc, _⟩
    · simp [Builtin.append_, run_underlying ht, sizeOf, typeInfo, hi, Builtin.lenOf, Builtin.firstCells]
    · simp [Builtin.append_, run_underlying ht, sizeOf, typeInfo, hi, Builtin.lenOf, Builtin.firstCells, hnc, storeCells]
  · obtain ⟨news, hnM, hnc⟩ := ReadsRow.inner_ HR
    have hone : ∀ u ∈ news, u.oneCell' = true := by
      intro u hu
      obtain ⟨q, hq, rfl⟩ := List.mem_iff_getElem.1 hu
      have hql : q / size < ys.length := by
        rw [Nat.div_lt_iff_lt_mul hs0]
        rw [← hnM.1]
        exact hq
      have hc := hnM.2 (q / size) _ (List.getElem?_eq_getElem hql)
      refine hone _ _ hc _ ?_
      rw [List.mem_iff_getElem?]
      refine ⟨q % size, ?_⟩
      rw [List.getElem?_take, if_pos (Nat.mod_lt _ hs0), List.getElem?_drop, Nat.mul_comm, Nat.div_add_mod, List.getElem?_eq_getElem hq]
    obtain ⟨v1, w1, hrun, h2, hg, _, hat⟩ := run_append_own_at (P := P) W base t ty e i0 z size bytes ht hi hz0 hz1 hz2 hz hs0 v xs.length inner hown ad m c news (by rw [hnM.1, hm]) hnc hone (by simp only [maxLen]; omega) hl hbase
    refine ⟨v1, w1, hrun, ⟨inner ++ news, by rw [List.length_append, hm]; exact h2, Kd.reps_append hr hnM⟩, hg, ?_⟩
    rcases hat with hat | hat
    · exact .inl hat
    · exact .inr ⟨_, hat, Nat.le_refl _⟩

theorem own_rows {w0 W : World} (base : Nat) (hgd : o.guard = none) (s x : Operand) (t u e : TypeId) (z : Value) (size bytes : Nat)
    (ho : o.op = .call { callee := .builtin .append, args := #[s, x], argTypes := #[t, u] })
    (ht : P.underlying t = some (.slice e)) (hu : P.underlying u = some (.slice e)) (hinfo : (P.info? e).map (fun i => (i.zero, i.size, i.bytes)) = some (some z, size, bytes)) (hz : z.cells.size = size) (hs0 : 0 < size) (hb0 : 0 < bytes)
    (v : Value) (xs ys : List α) (A : Option Addr) (m c : Nat) (hs : a.eval s = v) (hx : a.eval x = .slice A m c)
    (HO : OwnRow R e size W base v xs) (HR : ReadsRow R size W A m ys) (hone : ∀ p cs, R p cs → ∀ u ∈ cs, u.oneCell' = true)
    (HB : Below base w0 W) (hbase : base ≤ W.heap.size) (hl : (xs.length + m) * bytes ≤ 140737488355328)
    (h : ∀ v1 w1, OwnRow R e size w1 base v1 (xs ++ ys) → Below base w0 w1 → W.grownBy w1 v.ownBlock → (v1.ownBlock = v.ownBlock ∨ ∃ b, v1.ownBlock = some b ∧ W.heap.size ≤ b) → wpList P ops Q rest (a.put o.dst v1) w1) :
    wpList P ops Q (o :: rest) a W := by
  obtain ⟨v1, w1, hr1, h1, hg, hat⟩ := run_rows (P := P) (W := W) base o.type t u e z size bytes ht hu hinfo hz hs0 hb0 v xs ys A m c HO HR hone hbase hl
  obtain ⟨inner, hown, hr⟩ := HO
  refine wpList_plain hgd fun K hK => ?_
  unfold Oper.wp execOp
  simp only [ho, resolve, invoke, builtin, Sem.run_bind, Sem.run_pure, Result.andThen_ok, List.map_toArray, List.map_cons, List.map_nil, hs, hx, hr1]
  exact hK _ _ (h v1 w1 h1 (HB.grown hg hbase (own_base hown)) hg hat)
end
end Go.Proofs.YtnchgmjeoajmiaaGreatDoor

/-! Six -/
namespace Go.Proofs.YtnchgmjeoajmiaaGreatDoor
open Go.RowKit Go.Proofs.YtnchgmjeoajmiaaGreatDoorW.PrintWords
set_option linter.unusedSimpArgs false
set_option linter.unusedVariables false

abbrev loop6 : List Int := [0, 0, 0, 0, 0, 0, 0, 0, 0, 0, 0, 0, 0, 0, 0, 1]
abbrev zero16 : Array Value := #[.int .u8 0, .int .u8 0, .int .u8 0, .int .u8 0, .int .u8 0, .int .u8 0, .int .u8 0, .int .u8 0, .int .u8 0, .int .u8 0, .int .u8 0, .int .u8 0, .int .u8 0, .int .u8 0, .int .u8 0, .int .u8 0]

set_option maxRecDepth 100000 in
set_option maxHeartbeats 1000000 in
theorem asSlice6 (p4 p6 : Addr) (w : World) (g : GW p4 p6 w) :
    Calls Tryz.prog 61 #[.agg #[.int .u64 0, .int .u64 1, .pointer (some p6)]] w (NewBytes 139 loop6 w) := by
  have h0 := g.z0
  have h4 := g.z4
  have q0 := World.block_lt_of_cell? w _ h0
  have q4 := World.block_lt_of_cell? w _ h4
  simp only at q0 q4
  have e0 := heq_nil 9998 p6
  have gb : GW p4 p6 (w.alloc (.cells #[.int .u64 0, .int .u64 1, .pointer (some p6)] 108)) := g.alloc _
  have e1 := gb.eq64 9998
  clear g gb
  go_enter Tryz.func61, Tryz.ntmps61
  go_wp2
  go_region_with (go_at_call 93; refine (putU64_0 (w.heap.size + 1) 0 zero16 139 _ (by omega) (by omega) (by rfl) (by exact heap2 _ _ _)).mono ?_; rintro e w' ⟨rfl, rfl⟩)
  go_wp2
  go_region_with (go_at_call 93; refine (putU64_8 (w.heap.size + 1) 1 zero16 139 _ (by omega) (by omega) (by rfl) (by exact heap2 _ _ _)).mono ?_; rintro e w' ⟨rfl, rfl⟩)
  go_wp2
  go_ret
  exact ⟨w.heap.size + 1, rfl, heap2 _ _ _, by omega, by go_grown⟩

set_option maxRecDepth 100000 in
set_option maxHeartbeats 1000000 in
theorem to4_loop (gx : Nat) (w : World) (hb : w.heap[gx]? = some (.cells (loop6.map (Value.int .u8)).toArray 139 (0, 0))) :
    Calls Tryz.prog 94 #[.slice (some ⟨gx, 0, none⟩) 16 16] w fun e w' => e = .returned (.slice none 0 0) ∧ ∃ n, w' = w.drewN n := by
  have c10 := blk_cell hb 10
  simp only [List.map_cons, List.map_nil, List.getElem?_toArray, List.getElem?_cons_zero, List.getElem?_cons_succ] at c10
  have HZ := fun w' => Aside0.mk (S.netcidr_isZeros.calls 20 (some ⟨gx, 0, none⟩) 16 [0, 0, 0, 0, 0, 0, 0, 0, 0, 0] true w')
  have HC := Aside0.mk (C_blk hb 0 10 [0, 0, 0, 0, 0, 0, 0, 0, 0, 0] rfl rfl (by omega))
  clear hb
  go_enter Tryz.func94, Tryz.ntmps94
  go_wp2_with fail
  refine ((HZ _).out HC.out (by decide) (by decide +kernel)).mono ?_
  rintro e w1 ⟨rfl, ⟨n, rfl⟩⟩
  go_wp2_with fail
  go_ret
  exact ⟨rfl, n, rfl⟩

set_option maxRecDepth 100000 in
set_option maxHeartbeats 1000000 in
theorem equal_six (gx c : Nat) (A : Option Addr) (w : World) (hb : w.heap[gx]? = some (.cells (loop6.map (Value.int .u8)).toArray 139 (0, 0))) (hC : Kd.C (Kd.int .u8) w A 16 loop6) (hc : 16 ≤ c) :
    Calls Tryz.prog 95 #[.slice (some ⟨gx, 0, none⟩) 16 16, .slice A 16 c] w fun e w' => e = .returned (.bool true) ∧ ∃ n, w' = w.drewN n := by
  have H1 := Aside0.mk (C_blk hb 0 16 loop6 rfl rfl (by omega))
  have H2 := Aside0.mk hC
  clear hb hC
  go_enter Tryz.func95, Tryz.ntmps95
  go_wp2_with fail
  refine (P.bytes_Equal.calls (some ⟨gx, 0, none⟩) 16 loop6 A c loop6 true _ H1.out (by decide) H2.out hc (by unfold P.bytes_Equal.f; simp)).mono ?_
  rintro e w1 ⟨rfl, ⟨n, rfl⟩⟩
  go_wp2_with fail
  go_ret
  exact ⟨rfl, n, rfl⟩

set_option maxRecDepth 100000 in
set_option maxHeartbeats 1000000 in
theorem isLoopback_six (gx : Nat) (w : World) (hb : w.heap[gx]? = some (.cells (loop6.map (Value.int .u8)).toArray 139 (0, 0))) :
    Calls Tryz.prog 62 #[.slice (some ⟨gx, 0, none⟩) 16 16] w fun e w' => e = .returned (.bool true) ∧ Below w.heap.size w w' := by
  have HB := Aside0.mk hb
  clear hb
  have hn := ip_neq none 0 0
  go_enter Tryz.func62, Tryz.ntmps62
  go_wp2_with fail
  refine (to4_loop gx _ HB.out).mono ?_
  rintro e w1 ⟨rfl, ⟨n, rfl⟩⟩
  go_wp2_with fail
  refine (S.netcidr_IPv6loopback.calls loop6 _ rfl).mono ?_
  rintro e w2 ⟨v, rfl, hR, hb2⟩
  obtain ⟨A, c, rfl, hc, hC⟩ := Kd.R_reads hR
  have HC := Aside0.mk (show Kd.C (Kd.int .u8) w2 A 16 loop6 from hC)
  have hc16 : 16 ≤ c := hc
  have HB2 := Aside0.mk ((hb2.block gx (blk_lt HB.out)).trans HB.out)
  have FB := Aside0.mk (bel_then (pw_below_drewN (Below.refl _ w) n) hb2)
  clear hR hC hb2 hc
  go_wp2_with fail
  refine (equal_six gx c A _ HB2.out HC.out hc16).mono ?_
  rintro e w3 ⟨rfl, ⟨m, rfl⟩⟩
  go_wp2_with fail
  go_ret
  exact ⟨rfl, pw_below_drewN FB.out m⟩

abbrev lit6 : Array Value := #[.int .u8 0, .int .u8 0, .int .u8 0, .int .u8 0, .int .u8 0, .int .u8 0, .int .u8 0, .int .u8 0, .int .u8 0, .int .u8 0, .int .u8 0, .int .u8 0, .int .u8 0, .int .u8 0, .int .u8 0, .int .u8 1]
theorem beu_0 (b : Nat) (w : World) (h : w.heap[b]? = some (.cells lit6 139 (0, 0))) : Calls Tryz.prog 158 #[.slice (some ⟨b, 0, none⟩) 8 16] w fun e w' => e = .returned (.int .u64 0) ∧ ∃ n, w' = w.drewN n :=
  (S.byteorder_BEUint64.calls (some ⟨b, 0, none⟩) 16 [0, 0, 0, 0, 0, 0, 0, 0] 0 w (C_blk (bs := loop6) h 0 8 [0, 0, 0, 0, 0, 0, 0, 0] rfl rfl (by omega)) (by decide) (by decide +kernel)).mono fun e w' ⟨h1, h2⟩ => ⟨h1, h2.out⟩
theorem beu_8 (b : Nat) (w : World) (h : w.heap[b]? = some (.cells lit6 139 (0, 0))) : Calls Tryz.prog 158 #[.slice (some ⟨b, 8, none⟩) 8 8] w fun e w' => e = .returned (.int .u64 1) ∧ ∃ n, w' = w.drewN n :=
  (S.byteorder_BEUint64.calls (some ⟨b, 8, none⟩) 8 [0, 0, 0, 0, 0, 0, 0, 1] 1 w (C_blk (bs := loop6) h 8 8 [0, 0, 0, 0, 0, 0, 0, 1] rfl rfl (by omega)) (by decide) (by decide +kernel)).mono fun e w' ⟨h1, h2⟩ => ⟨h1, h2.out⟩
theorem beu_any (b o c : Nat) (w : World) (h : w.heap[b]? = some (.cells lit6 139 (0, 0))) (ho : (o == 0 && c == 16 || o == 8 && c == 8) = true) : Calls Tryz.prog 158 #[.slice (some ⟨b, o, none⟩) 8 c] w fun e w' => e = .returned (.int .u64 ((o : Int) / 8)) ∧ ∃ n, w' = w.drewN n := by
  have : (o = 0 ∧ c = 16) ∨ (o = 8 ∧ c = 8) := by simpa using ho
  rcases this with ⟨rfl, rfl⟩ | ⟨rfl, rfl⟩
  · exact beu_0 b w h
  · exact beu_8 b w h
set_option maxRecDepth 100000 in
set_option maxHeartbeats 400000 in
theorem addrFrom16_one (p4 p6 : Addr) (w : World) (g : GW p4 p6 w) :
    Calls Tryz.prog 129 #[.agg lit6] w fun e w' => e = .returned (.agg #[.int .u64 0, .int .u64 1, .pointer (some p6)]) ∧ Below w.heap.size w w' := by
  have h6 := g.z6
  have q6 := World.block_lt_of_cell? w _ h6
  simp only at q6
  have Y := heap2o w (.cells lit6 139) (.cells #[.int .u64 0, .int .u64 0, .pointer none] 108)
  have Z := cell_on (show Below w.heap.size w ((w.alloc (.cells lit6 139)).alloc (.cells #[.int .u64 0, .int .u64 0, .pointer none] 108)) by go_grown) h6
  have X := heap2 w (.cells lit6 139) (.cells #[.int .u64 0, .int .u64 0, .pointer none] 108)
  have hB := (show Below w.heap.size w ((w.alloc (.cells lit6 139)).alloc (.cells #[.int .u64 0, .int .u64 0, .pointer none] 108)) by go_grown)
  have hsz : ((w.alloc (.cells lit6 139)).alloc (.cells #[.int .u64 0, .int .u64 0, .pointer none] 108)).heap.size = w.heap.size + 2 := by simp
  go_enter Tryz.func129, Tryz.ntmps129
  go_wp2_with fail
  generalize hW : (w.alloc (.cells lit6 139)).alloc (.cells #[.int .u64 0, .int .u64 0, .pointer none] 108) = W at *
  have YW := Aside0.mk Y
  have XW := Aside0.mk X
  have ZW := Aside0.mk Z
  have BW := Aside0.mk hB
  have c0 := blk_cell X 0
  have c1 := blk_cell X 1
  have c2 := blk_cell X 2
  have f0 := blk_frozen X 0
  have f1 := blk_frozen X 1
  have f2 := blk_frozen X 2
  simp only [List.getElem?_toArray, List.getElem?_cons_zero, List.getElem?_cons_succ] at c0 c1 c2
  clear hW hB X Y h6 g
  have hne : w.heap.size ≠ w.heap.size + 1 := by omega
  have hne8 : (8 : Nat) ≠ w.heap.size + 1 := by omega
  go_region_held3 (fun w' => w'.heap[w.heap.size]? = some (.cells lit6 139 (0, 0)) ∧ w'.cell? ⟨8, 0, none⟩ = some (.pointer (some p6))) (first | ((with_reducible show (World.drew _).heap[_]? = _ ∧ _); exact ⟨YW.out, ZW.out⟩) | ((with_reducible show (World.drewN _ _).heap[_]? = _ ∧ _); exact ⟨YW.out, ZW.out⟩) | ((with_reducible show (World.setCell _ _ _).heap[_]? = _ ∧ _); exact ⟨blk_far (blk_far (blk_far (p := ⟨w.heap.size + 1, 0, none⟩) YW.out hne _) (p := ⟨w.heap.size + 1, 1, none⟩) hne _) (p := ⟨w.heap.size + 1, 2, none⟩) hne _, (World.cell?_setCell_far _ _ _ _ (Ne.symm hne8)).trans ((World.cell?_setCell_far _ _ _ _ (Ne.symm hne8)).trans ((World.cell?_setCell_far _ _ _ _ (Ne.symm hne8)).trans ZW.out))⟩)) (first
    | (go_at_call 158; refine (beu_any _ _ _ _ (by exact YW.out) (by decide)).mono ?_; rintro e w1 ⟨rfl, ⟨n1, rfl⟩⟩))
  rename_i hh
  clear hh
  generalize hW3 : W.drewN _ = W3
  have X3 : W3.heap[w.heap.size + 1]? = some (.cells #[.int .u64 0, .int .u64 0, .pointer none] 108 (0, 0)) := by rw [← hW3]; exact XW.out
  have B3 := Aside0.mk (show Below w.heap.size w W3 by rw [← hW3]; exact pw_below_drewN BW.out _)
  obtain ⟨r0, r1, r2⟩ := set3 X3
  clear hW3 X3
  go_wp2_with fail
  refine bodyPost_ret (v := .agg #[.int .u64 0, .int .u64 1, .pointer (some p6)]) (by simp [results, Tryz.results129, go_sem, r0, r1, r2]) rfl ?_
  exact ⟨rfl, (((B3.out).setCell (by simp) _).setCell (by simp) _).setCell (by simp) _⟩

set_option maxRecDepth 100000 in
set_option maxHeartbeats 1000000 in
theorem is6_calls (p4 p6 : Addr) (w : World) (g : GW p4 p6 w) :
    Calls Tryz.prog 156 #[.agg #[.int .u64 0, .int .u64 1, .pointer (some p6)]] w fun e w' => e = .returned (.bool true) ∧ Below w.heap.size w w' := by
  have h0 := g.z0
  have h4 := g.z4
  have q0 := World.block_lt_of_cell? w _ h0
  have q4 := World.block_lt_of_cell? w _ h4
  simp only at q0 q4
  have e0 := heq_nil 9998 p6
  have gb : GW p4 p6 (w.alloc (.cells #[.int .u64 0, .int .u64 1, .pointer (some p6)] 108)) := g.alloc _
  have e1 := gb.eq64 9998
  clear g gb
  go_enter Tryz.func156, Tryz.ntmps156
  go_wp2
  go_ret
  exact ⟨rfl, by go_grown⟩

set_option maxRecDepth 100000 in
set_option maxHeartbeats 1000000 in
theorem withZone_six (p4 p6 : Addr) (w : World) (g : GW p4 p6 w) :
    Calls Tryz.prog 128 #[.agg #[.int .u64 0, .int .u64 1, .pointer (some p6)], .string ⟨#[]⟩] w fun e w' => e = .returned (.agg #[.int .u64 0, .int .u64 1, .pointer (some p6)]) ∧ Below w.heap.size w w' := by
  have h6 := g.z6
  have q6 := World.block_lt_of_cell? w _ h6
  simp only at q6
  have X1 := heap2o w (.cells #[.int .u64 0, .int .u64 1, .pointer (some p6)] 108) (.cells #[.int .u64 0, .int .u64 0, .pointer none] 108)
  have X2 := heap2 w (.cells #[.int .u64 0, .int .u64 1, .pointer (some p6)] 108) (.cells #[.int .u64 0, .int .u64 0, .pointer none] 108)
  have B0 : Below w.heap.size w ((w.alloc (.cells #[.int .u64 0, .int .u64 1, .pointer (some p6)] 108)).alloc (.cells #[.int .u64 0, .int .u64 0, .pointer none] 108)) := by go_grown
  have G := Aside0.mk g
  clear g
  go_enter Tryz.func128, Tryz.ntmps128
  go_wp2_with fail
  refine (is6_calls p4 p6 _ (G.out.below B0)).mono ?_
  rintro e w1 ⟨rfl, b1⟩
  have Y1 := (b1.block w.heap.size (by simp; omega)).trans X1
  have Y2 := (b1.block (w.heap.size + 1) (by simp)).trans X2
  have H6 := cell_on (bel_then B0 b1) h6
  have BB := Aside0.mk (bel_then B0 b1)
  have d0 := blk_cell Y1 0
  have d1 := blk_cell Y1 1
  have d2 := blk_cell Y1 2
  have f0 := blk_frozen Y1 0
  have f1 := blk_frozen Y1 1
  have f2 := blk_frozen Y1 2
  have g0 := blk_cell Y2 0
  have g1 := blk_cell Y2 1
  have g2 := blk_cell Y2 2
  have k0 := blk_frozen Y2 0
  have k1 := blk_frozen Y2 1
  have k2 := blk_frozen Y2 2
  have q1 := blk_lt Y2
  simp only [List.getElem?_toArray, List.getElem?_cons_zero, List.getElem?_cons_succ] at d0 d1 d2 g0 g1 g2
  obtain ⟨r0, r1, r2⟩ := set3 (blk_far Y2 (p := ⟨w.heap.size, 2, none⟩) (by simp) (.pointer (some p6)))
  clear b1 B0 X1 X2
  go_wp2_with fail
  refine bodyPost_ret (v := .agg #[.int .u64 0, .int .u64 1, .pointer (some p6)]) (by simp [results, Tryz.results128, go_sem, r0, r1, r2]) rfl ?_
  exact ⟨rfl, ((((BB.out).setCell (by simp) _).setCell (by simp) _).setCell (by simp) _).setCell (by simp) _⟩

abbrev lp : ByteArray := ⟨#[58, 58, 49]⟩
abbrev z16 : Array Value := #[.int .u8 0, .int .u8 0, .int .u8 0, .int .u8 0, .int .u8 0, .int .u8 0, .int .u8 0, .int .u8 0, .int .u8 0, .int .u8 0, .int .u8 0, .int .u8 0, .int .u8 0, .int .u8 0, .int .u8 0, .int .u8 0]
abbrev mid6 : Array Value := #[.int .u8 0, .int .u8 1, .int .u8 0, .int .u8 0, .int .u8 0, .int .u8 0, .int .u8 0, .int .u8 0, .int .u8 0, .int .u8 0, .int .u8 0, .int .u8 0, .int .u8 0, .int .u8 0, .int .u8 0, .int .u8 1]
set_option maxRecDepth 100000 in
set_option maxHeartbeats 1000000 in
theorem clear_mid (w : World) (x : Obj) : (Builtin.clear_ #[46] 0 #[.slice (some ⟨w.heap.size + 1, 0, none⟩) 14 16]).run Tryz.prog ((w.alloc x).alloc (.cells mid6 139)) = .ok (.tuple #[]) ((w.alloc x).alloc (.cells lit6 139)) := by
  have hb := heap2 w x (.cells mid6 139)
  have h : ((w.alloc x).alloc (.cells mid6 139)).setCells (w.heap.size + 1) 0 (List.replicate 14 (.int .u8 0)) = (w.alloc x).alloc (.cells lit6 139) := by
    simp only [List.replicate, World.setCells]
    go_simp
  rw [← h]
  exact Lib.run_clear_slice ((w.alloc x).alloc (.cells mid6 139)) 46 5 0 (.int .u8 0) Tryz.underlying46 (fun w => by kernel_rfl) rfl rfl (w.heap.size + 1) 0 14 16 (by decide) (fun j hj => by
    rw [Nat.zero_add, blk_cell hb]
    simp
    omega) (fun j hj => blk_frozen hb _)

set_option maxRecDepth 100000 in
set_option maxHeartbeats 1000000 in
theorem parseIPv6_one (p4 p6 : Addr) (w : World) (g : GW p4 p6 w) :
    Calls Tryz.prog 91 #[.string lp] w fun e w' => e = .returned (.tuple #[.agg #[.int .u64 0, .int .u64 1, .pointer (some p6)], .nilIface]) ∧ Below w.heap.size w w' := by
  have i0 : Lib.indexByte lp.data.toList (37 : Int).toNat.toUInt8 = -1 := by decide +kernel
  have hx0 : ((lp[0]'(by decide)).toNat : Int) = 58 := by decide +kernel
  have hx1 : ((lp[1]'(by decide)).toNat : Int) = 58 := by decide +kernel
  have hclr := clear_mid w (.cells #[.int .u64 0, .int .u64 0, .pointer none] 108)
  have ex : lp.extract 2 3 = (⟨#[49]⟩ : ByteArray) := by decide +kernel
  have ey : (⟨#[49]⟩ : ByteArray).extract 1 1 = (⟨#[]⟩ : ByteArray) := by decide +kernel
  have hy0 : (((⟨#[49]⟩ : ByteArray)[0]'(by decide)).toNat : Int) = 49 := by decide +kernel
  go_enter Tryz.func91, Tryz.ntmps91
  go_wp2_with fail
  rw [run_callFunc_extern Tryz.func126 (by kernel_rfl) (by kernel_rfl) (by kernel_rfl) (e := Extern.BytealgIndexByte.indexByte) (by kernel_rfl), Lib.run_indexByteString, i0]
  simp only [Result.andThen]
  rw [Oper.upon_value]
  go_wp2_with fail
  refine wp_loop_rounds 5 ?_
  rw [rounds_succ]
  go_wp2_with fail
  refine wp_loop_rounds 5 ?_
  rw [rounds_succ]
  go_wp2_with fail
  rw [rounds_succ]
  go_wp2_with fail
  refine wp_loop_rounds 5 ?_
  rw [rounds_succ]
  go_wp2_with fail
  rw [rounds_succ]
  go_wp2_with fail
  rw [rounds_succ]
  go_wp2_with fail
  have B0 : Below w.heap.size w ((w.alloc (.cells #[.int .u64 0, .int .u64 0, .pointer none] 108)).alloc (.cells lit6 139)) := by go_grown
  have X1 := heap2o w (.cells #[.int .u64 0, .int .u64 0, .pointer none] 108) (.cells lit6 139)
  refine (addrFrom16_one p4 p6 _ (g.below B0)).mono ?_
  rintro e w1 ⟨rfl, b1⟩
  have Y1 := Aside0.mk ((b1.block w.heap.size (by simp; omega)).trans X1)
  have B1 := Aside0.mk (bel_then B0 b1)
  clear X1 B0 b1
  go_wp2_with fail
  refine (withZone_six p4 p6 _ (g.below B1.out)).mono ?_
  rintro e w2 ⟨rfl, b2⟩
  have Y2 := (b2.block w.heap.size (blk_lt Y1.out)).trans Y1.out
  have B2 := Aside0.mk (bel_then B1.out b2)
  have d0 := blk_cell Y2 0
  have d1 := blk_cell Y2 1
  have d2 := blk_cell Y2 2
  have f0 := blk_frozen Y2 0
  have f1 := blk_frozen Y2 1
  have f2 := blk_frozen Y2 2
  have q2 := blk_lt Y2
  simp only [List.getElem?_toArray, List.getElem?_cons_zero, List.getElem?_cons_succ] at d0 d1 d2
  obtain ⟨r0, r1, r2⟩ := set3 Y2
  clear Y2 b2
  go_wp2_with fail
  refine bodyPost_ret (v := .tuple #[.agg #[.int .u64 0, .int .u64 1, .pointer (some p6)], .nilIface]) (by simp [results, Tryz.results91, go_sem, r0, r1, r2]) rfl ?_
  exact ⟨rfl, (((B2.out).setCell (by simp) _).setCell (by simp) _).setCell (by simp) _⟩

set_option maxRecDepth 100000 in
set_option maxHeartbeats 1000000 in
theorem parseAddr_six (p4 p6 : Addr) (w : World) (g : GW p4 p6 w) :
    Calls Tryz.prog 60 #[.string lp] w fun e w' => e = .returned (.tuple #[.agg #[.int .u64 0, .int .u64 1, .pointer (some p6)], .nilIface]) ∧ Below w.heap.size w w' := by
  have hx0 : ((lp[0]'(by decide)).toNat : Int) = 58 := by decide +kernel
  have B0 : Below w.heap.size w (w.alloc (.cells #[.int .u64 0, .int .u64 0, .pointer none] 108)) := by go_grown
  go_enter Tryz.func60, Tryz.ntmps60
  go_wp2_with fail
  refine wp_loop_rounds 5 ?_
  rw [rounds_succ]
  go_wp2_with fail
  refine (parseIPv6_one p4 p6 _ (g.below B0)).mono ?_
  rintro e w1 ⟨rfl, hb⟩
  have Y2 := (hb.block w.heap.size (by simp)).trans (heap1 w _)
  have B2 := Aside0.mk (bel_then B0 hb)
  have d0 := blk_cell Y2 0
  have d1 := blk_cell Y2 1
  have d2 := blk_cell Y2 2
  have f0 := blk_frozen Y2 0
  have f1 := blk_frozen Y2 1
  have f2 := blk_frozen Y2 2
  have q2 := blk_lt Y2
  simp only [List.getElem?_toArray, List.getElem?_cons_zero, List.getElem?_cons_succ] at d0 d1 d2
  obtain ⟨r0, r1, r2⟩ := set3 Y2
  clear Y2 hb B0
  go_wp2_with fail
  refine bodyPost_ret (v := .tuple #[.agg #[.int .u64 0, .int .u64 1, .pointer (some p6)], .nilIface]) (by simp [results, Tryz.results60, go_sem, r0, r1, r2]) rfl ?_
  exact ⟨rfl, (((B2.out).setCell (by simp) _).setCell (by simp) _).setCell (by simp) _⟩
end Go.Proofs.YtnchgmjeoajmiaaGreatDoor

/-! Seven -/
namespace Go.Proofs.YtnchgmjeoajmiaaGreatDoor
open Go.RowKit Go.Proofs.YtnchgmjeoajmiaaGreatDoorW.PrintWords
set_option linter.unusedSimpArgs false
set_option linter.unusedVariables false

theorem loop_splits {p : List UInt8} (hp : Pt p) : SplitsLoop (MK ([91, 58, 58, 49, 93] ++ [58] ++ p)) ∧ (MK ([91, 58, 58, 49, 93] ++ [58] ++ p)).extract 1 4 = lp := by
  have h5 := hp.five
  have sz : (MK ([91, 58, 58, 49, 93] ++ [58] ++ p)).size = 6 + p.length := by rw [MK_size]; simp; omega
  have dat : (MK ([91, 58, 58, 49, 93] ++ [58] ++ p)).data.toList = [91, 58, 58, 49, 93] ++ [58] ++ p := rfl
  refine ⟨⟨by omega, by omega, lastIndex_at (a := [91, 58, 58, 49, 93]) (c := 58) (hp.no 58 (by decide)), ?_, ?_, ?_, ?_⟩, ?_⟩
  · exact MK_first (x := 91) (t := [58, 58, 49, 93, 58] ++ p) rfl
  · rw [dat]
    have e : ((93 : Int).toNat.toUInt8) = 93 := rfl
    rw [e]
    simp [Lib.indexByte]
  · rw [extract_MK, MK_size]
    refine indexByte_none (c := 91) (by decide) (fun b hb => ?_)
    have hb := List.mem_of_mem_take hb
    have : b ∈ [58, 58, 49, 93, 58] ++ p := hb
    rcases List.mem_append.1 this with h | h
    · exact (show ∀ x ∈ ([58, 58, 49, 93, 58] : List UInt8), x.toNat ≠ 91 by decide) b h
    · exact hp.no 91 (by decide) b h
  · rw [extract_MK, MK_size]
    refine indexByte_none (c := 93) (by decide) (fun b hb => ?_)
    have hb := List.mem_of_mem_take hb
    have : b ∈ [58] ++ p := hb
    rcases List.mem_append.1 this with h | h
    · simp at h; subst h; decide
    · exact hp.no 93 (by decide) b h
  · rw [extract_MK]
    rfl

set_option maxRecDepth 100000 in
set_option maxHeartbeats 1000000 in
theorem use_loop (p4 p6 : Addr) (cb : Nat) (W : World) (s : ByteArray) (G : GW p4 p6 W) (hs : SplitsLoop s) (hx : s.extract 1 4 = lp) :
    Calls Tryz.prog 48 #[.pointer (some ⟨cb, 0, none⟩), .string s] W fun e w' => e = .returned (.bool false) ∧ Below W.heap.size W w' := by
  have z0 : ((s.size : Int) == 0) = false := beq_eq_false_iff_ne.2 (by have := hs.lt; omega)
  have z1 : (lp.toList == [108, 111, 99, 97, 108, 104, 111, 115, 116]) = false := by decide +kernel
  go_enter Tryz.func48, Tryz.ntmps48
  go_wp2_with fail
  refine (split_loop s _ hs).mono ?_
  rw [hx]
  rintro e w1 ⟨rfl, rfl⟩
  go_wp2_with fail
  refine (parseAddr_six p4 p6 _ G).mono ?_
  rintro e w2 ⟨rfl, b1⟩
  go_wp2_with fail
  have b2 := b1.alloc b1.size (.cells #[.int .u64 0, .int .u64 1, .pointer (some p6)] 108)
  refine (asSlice6 p4 p6 _ (G.below b2)).mono ?_
  rintro e w3 ⟨gx, rfl, hgx, _, b3⟩
  have b3 := bel_then b2 b3
  have HG := Aside0.mk hgx
  have hn := ip_neq (some ⟨gx, 0, none⟩) 16 16
  clear hgx
  go_wp2_with fail
  refine (isLoopback_six gx _ HG.out).mono ?_
  rintro e w4 ⟨rfl, b4⟩
  have b4 := bel_then b3 b4
  go_wp2_with fail
  go_ret
  exact ⟨rfl, b4⟩

set_option maxRecDepth 100000 in
set_option maxHeartbeats 400000 in
theorem zz_loop (p4 p6 : Addr) (no : ByteArray) (effs : List Eff) (w : World) (s : ByteArray) (G : GW p4 p6 w) (hl : Listed no effs) (hs : SplitsLoop s) (hx : s.extract 1 4 = lp) :
    Calls Tryz.prog 40 #[.string no, .string s] w fun e w' => e = .returned (.bool false) ∧ Below w.heap.size w w' := by
  go_enter Tryz.func40, Tryz.ntmps40
  go_wp2_with fail
  refine (init_listed p4 p6 no effs w G hl).mono ?_
  rintro e w1 ⟨rfl, hc, hb⟩
  go_wp2_with fail
  refine (use_loop p4 p6 _ w1 s (G.below hb) hs hx).mono ?_
  rintro e w2 ⟨rfl, hb2⟩
  go_wp2_with fail
  go_ret
  exact ⟨rfl, bel_then hb hb2⟩
set_option maxRecDepth 100000 in
set_option maxHeartbeats 400000 in
theorem uses_loop (p4 p6 : Addr) (w : World) (no : ByteArray) (effs : List Eff) (port : ByteArray) (G : GW p4 p6 w) (hl : Listed no effs) (hp : Pt (BL port)) :
    Calls Tryz.prog 24 #[.string no, .string ((⟨#[91, 58, 58, 49, 93, 58]⟩ : ByteArray) ++ port)] w fun e w' => e = .returned (.bool false) ∧ Below w.heap.size w w' := by
  obtain ⟨h1, h2⟩ := loop_splits hp
  have e : MK ([91, 58, 58, 49, 93] ++ [58] ++ BL port) = (⟨#[91, 58, 58, 49, 93, 58]⟩ : ByteArray) ++ port := by
    apply eq_of_BL
    rw [BL_append]
    rfl
  rw [e] at h1 h2
  go_enter Tryz.func24, Tryz.ntmps24
  go_wp2_with fail
  refine (zz_loop p4 p6 no effs w _ G hl h1 h2).mono ?_
  rintro e w2 ⟨rfl, hb2⟩
  go_wp2_with fail
  go_ret
  exact ⟨rfl, hb2⟩

theorem uses_local (p4 p6 : Addr) (w : World) (no : ByteArray) (effs : List Eff) (port : ByteArray) (G : GW p4 p6 w) (hl : Listed no effs) (hp : Pt (BL port)) :
    Calls Tryz.prog 24 #[.string no, .string ((⟨#[108, 111, 99, 97, 108, 104, 111, 115, 116, 58]⟩ : ByteArray) ++ port)] w fun e w' => e = .returned (.bool false) ∧ Below w.heap.size w w' := by
  have h5 := hp.five
  have hs := splits_of (h := [108, 111, 99, 97, 108, 104, 111, 115, 116]) (p := BL port) (by simp) (fun b hb => by revert b; decide) (fun b hb => by revert b; decide) (fun b hb => by revert b; decide) (hp.no 58 (by decide)) (hp.no 91 (by decide)) (hp.no 93 (by decide)) (by show 9 + (BL port).length ≤ 100000000; omega)
  have e : MK ([108, 111, 99, 97, 108, 104, 111, 115, 116] ++ [58] ++ BL port) = (⟨#[108, 111, 99, 97, 108, 104, 111, 115, 116, 58]⟩ : ByteArray) ++ port := by
    apply eq_of_BL
    rw [BL_append]
    rfl
  rw [e] at hs
  refine uses_localhost p4 p6 no effs w _ (MK [108, 111, 99, 97, 108, 104, 111, 115, 116]) (MK (BL port)) G hl ⟨?_, ⟨_, hs⟩⟩ (by rw [toList_MK])
  rw [← e, MK_size]
  simp

theorem info3b : (Tryz.prog.info? 3).map (fun i => (i.zero, i.size, i.bytes)) = some (some (.int .i64 0), 1, 8) := by kernel_rfl
/-- An append whose run is known, its guard held. -/
theorem run_want {P : Program} {ops : Array Oper} {rest : List Oper} {o : Oper} {a : Act} {Q : Exit → Act → World → Prop} {W w1 : World} (hw : Region.wanted o (yielded ops a.tmps) = true) (s x : Operand) (t u : TypeId)
    (ho : o.op = .call { callee := .builtin .append, args := #[s, x], argTypes := #[t, u] }) (v y v1 : Value) (hs : a.eval s = v) (hx : a.eval x = y)
    (hr : (Builtin.append_ #[t, u] o.type #[v, y]).run P W = .ok v1 w1) (h : wpList P ops Q rest (a.put o.dst v1) w1) : wpList P ops Q (o :: rest) a W := by
  refine BigFrame.wpList_want hw fun K hK => ?_
  unfold Oper.wp execOp
  simp only [ho, resolve, invoke, builtin, Sem.run_bind, Sem.run_pure, Result.andThen_ok, List.map_toArray, List.map_cons, List.map_nil, hs, hx, hr]
  exact hK _ _ h
theorem saysA_127 (rs : List P.S42) (b c d : Int) (port : ByteArray) : saysA rs 127 b c d port = false := rfl

/-- IsAddress of a list with one number ahead. -/
theorem isAddr_big (l : List Int) (hl : l.length ≤ 4294967296) : ∀ (d k i : Nat), l.length = i + d → d < k →
    P.spec_IsAddress.l0 k l l (l.length : Int) (i : Int) = some ((l.drop i).all (fun n => decide (0 ≤ n ∧ n ≤ 255)) && ((l.length : Int) == 4)) := by
  intro d
  induction d with
  | zero =>
    intro k i hi hk
    obtain ⟨k, rfl⟩ : ∃ m, k = m + 1 := ⟨k - 1, by omega⟩
    simp only [P.spec_IsAddress.l0]
    rw [if_neg (by omega), List.drop_of_length_le (by omega)]
    simp
  | succ d ih =>
    intro k i hi hk
    obtain ⟨k, rfl⟩ : ∃ m, k = m + 1 := ⟨k - 1, by omega⟩
    have hlt : i < l.length := by omega
    have ew : wrap64 ((i : Int) + 1) = ((i + 1 : Nat) : Int) := by unfold wrap64; omega
    have er : rd l (i : Int) = l[i]'hlt := by simp [rd, hlt]
    simp only [P.spec_IsAddress.l0]
    rw [if_pos (by omega), if_pos (by omega), if_pos (by omega), er, ew, List.drop_eq_getElem_cons hlt]
    simp only [List.all_cons, ih k (i + 1) (by omega) (by omega)]
    generalize l[i]'hlt = n
    by_cases c1 : n < 0
    · rw [if_pos c1, decide_eq_false (by omega)]; rfl
    rw [if_neg c1]
    by_cases c2 : n > 255
    · rw [if_pos c2, decide_eq_false (by omega)]; rfl
    · rw [if_neg c2, decide_eq_true (by omega)]; rfl
theorem isAddr_cons (low : List Int) (hl : low.length ≤ 2147483647) : ∃ k b, P.spec_IsAddress.f k (127 :: low) = some b ∧ (b = true → ∃ x1 x2 x3, low = [x1, x2, x3] ∧ Byte x1 ∧ Byte x2 ∧ Byte x3) := by
  refine ⟨_, _, isAddr_big (127 :: low) (by simp; omega) (127 :: low).length ((127 :: low).length + 1) 0 (by omega) (by omega), fun h => ?_⟩
  rw [Bool.and_eq_true, List.drop_zero, List.all_eq_true, beq_iff_eq] at h
  obtain ⟨h1, h2⟩ := h
  match low, h1, h2 with
  | [x1, x2, x3], h1, _ =>
    have k := fun n hn => of_decide_eq_true (h1 n hn)
    exact ⟨x1, x2, x3, rfl, k x1 (by simp), k x2 (by simp), k x3 (by simp)⟩
  | [], _, h2 => cases h2
  | [_], _, h2 => cases h2
  | [_, _], _, h2 => cases h2
  | _ :: _ :: _ :: _ :: _, _, h2 => simp at h2; omega
theorem byte_127 : Byte 127 := by unfold Byte; decide
theorem addr_cons (p4 p6 : Addr) (A : Option Addr) (c : Nat) (low : List Int) (x1 x2 x3 : Int) (hl : low = [x1, x2, x3]) (w : World) (G : GW p4 p6 w) (hc : (127 :: low).length ≤ c) (h : Kd.C (Kd.int .i64) w A (127 :: low).length (127 :: low)) (h1 : Byte x1) (h2 : Byte x2) (h3 : Byte x3) :
    Calls Tryz.prog 26 #[.slice A (low.length + 1) c] w fun e w' => e = .returned (.string (addrText 127 x1 x2 x3)) ∧ Below w.heap.size w w' := by
  subst hl
  exact addressText p4 p6 A c 127 x1 x2 x3 w G hc h byte_127 h1 h2 h3
theorem isAddr_calls (k : Nat) (A : Option Addr) (c : Nat) (low : List Int) (b : Bool) (w : World) (h : Kd.C (Kd.int .i64) w A (127 :: low).length (127 :: low)) (hc : (127 :: low).length ≤ c) (hk : P.spec_IsAddress.f k (127 :: low) = some b) :
    Calls Tryz.prog 21 #[.slice A (low.length + 1) c] w fun e w' => e = .returned (.bool b) ∧ Drawn0 w w' := P.spec_IsAddress.calls k A c (127 :: low) b w h hc hk
end Go.Proofs.YtnchgmjeoajmiaaGreatDoor

/-! Lawlocal -/
namespace Go.Proofs.YtnchgmjeoajmiaaGreatDoor
open Go.RowKit Go.Proofs.YtnchgmjeoajmiaaGreatDoorW.PrintWords
set_option linter.unusedSimpArgs false
set_option linter.unusedVariables false

set_option maxRecDepth 100000 in
set_option maxHeartbeats 1000000 in
/-- Requests to localhost and to loopback addresses. -/
theorem fnUseLocal_calls (p4 p6 : Addr) (A_rs : Option Addr) (c_rs : Nat) (rs : List P.S42) (A_low : Option Addr) (c_low : Nat) (low : List Int) (port : ByteArray) (w : World) (G : GW p4 p6 w) (hc_rs : rs.length ≤ c_rs) (hA_rs : Kd.C P.k42 w A_rs rs.length rs) (hc_low : low.length ≤ c_low) (hA_low : Kd.C (Kd.int .i64) w A_low low.length low) :
    Calls Tryz.prog 7 #[.slice A_rs rs.length c_rs, .slice A_low low.length c_low, .string port] w (SaysTrue w) := by
  have b0 : Below w.heap.size w w := Below.refl _ _
  have HA_rs := Aside0.mk hA_rs
  clear hA_rs
  have HA_low := Aside0.mk hA_low
  clear hA_low
  go_enter Tryz.func7, Tryz.ntmps7
  obtain ⟨kf_rs, bf_rs, hf_rs, ef_rs⟩ := fits2_ev rs
  have EF_rs := Aside0.mk ef_rs
  have HF_rs := Aside0.mk hf_rs
  clear ef_rs hf_rs
  go_wp2_with fail
  refine (P.laws_zzFits2.calls kf_rs A_rs c_rs rs bf_rs _ (Kd.C_below HA_rs.out b0) hc_rs HF_rs.out).mono ?_
  rintro e w1 ⟨rfl, c1⟩
  have b1 := bel_then b0 c1
  clear c1
  cases bf_rs with
  | false =>
    go_wp2_with fail
    go_ret
    exact ⟨rfl, b1⟩
  | true =>
  have len_rs := (EF_rs.out rfl).1
  have FIT_rs := Aside0.mk (EF_rs.out rfl).2
  cases d_low : decide ((2147483647 : Int) < (low.length : Int)) with
  | true =>
    go_wp2_with fail
    go_ret
    exact ⟨rfl, b1⟩
  | false =>
  have sz_low : low.length ≤ 2147483647 := not_le_big (of_decide_eq_false d_low)
  cases d_port : decide ((2147483647 : Int) < (port.size : Int)) with
  | true =>
    go_wp2_with fail
    go_ret
    exact ⟨rfl, b1⟩
  | false =>
  have sz_port : port.size ≤ 2147483647 := not_le_big (of_decide_eq_false d_port)
  obtain ⟨br_rs, er_rs, hr_rs⟩ := areRules_ev rs FIT_rs.out len_rs
  obtain ⟨kr_rs, er_rs⟩ := er_rs.at
  have HE_rs := Aside0.mk er_rs
  have OK_rs := Aside0.mk hr_rs
  clear er_rs hr_rs
  go_wp2_with fail
  refine (P.spec_AreRules.calls kr_rs A_rs c_rs rs br_rs _ (Kd.C_below HA_rs.out b1) hc_rs HE_rs.out).mono ?_
  rintro e w2 ⟨rfl, c2⟩
  have b2 := bel_then b1 c2
  clear c2
  cases br_rs with
  | false =>
    go_wp2_with fail
    refine (works_calls p4 p6 _ (G.below b2)).mono ?_
    rintro e w3 ⟨rfl, c3⟩
    have b3 := bel_then b2 c3
    clear c3
    go_wp2_with fail
    go_ret
    exact ⟨rfl, b3⟩
  | true =>
  replace OK_rs := Aside0.mk (OK_rs.out rfl)
  have lenl := sz_low
  have litP := Aside0.mk (show OwnRow (fun (x : Int) cs => cs = [.int .i64 x]) 3 1 (w2.alloc (.cells #[.int .i64 127] 3)) w2.heap.size (.slice (some ⟨w2.heap.size, 0, none⟩) 1 1) [127] from OwnRow.lit (ps := [127]) (inner := [.int .i64 127]) w2 w2.heap.size (Reps.snoc (Reps.none _ _) rfl rfl) (Nat.le_refl _) (by decide))
  have blP := Aside0.mk (show Below w2.heap.size w2 (w2.alloc (.cells #[.int .i64 127] 3)) by go_grown)
  obtain ⟨vP, waP, runP, ownP, grP, _⟩ := run_rows (P := Tryz.prog) (R := fun (x : Int) cs => cs = [.int .i64 x]) (W := w2.alloc (.cells #[.int .i64 127] 3)) w2.heap.size 31 31 31 3 (.int .i64 0) 1 8 Tryz.underlying31 Tryz.underlying31 info3b rfl (by decide) (by decide) (.slice (some ⟨w2.heap.size, 0, none⟩) 1 1) [127] low A_low low.length c_low litP.out (Kd.C_below (Kd.C_below HA_low.out b2) blP.out) (by rintro p cs rfl u hu; simp at hu; subst hu; rfl) blP.out.size (by simp; omega)
  have baP := bel_then b2 (show Below w2.heap.size w2 waP from (Below.alloc (Below.refl _ w2) (Nat.le_refl _) _).grown grP (by simp) (fun k hk => by simp [Value.ownBlock] at hk; omega))
  obtain ⟨AP, cP, eP, hcP, rP⟩ := ownP.reads
  subst eP
  have RP := Aside0.mk (show Kd.C (Kd.int .i64) waP AP (127 :: low).length (127 :: low) from rP)
  have HCP := Aside0.mk (show (127 :: low).length ≤ cP from hcP)
  clear ownP grP rP hcP
  obtain ⟨ki, bi, hi, ei⟩ := isAddr_cons low sz_low
  have HI := Aside0.mk hi
  have EI := Aside0.mk ei
  clear hi ei
  go_wp2_with (at_builtin; refine run_want rfl (.tmp 25) (.tmp 26) 31 31 rfl _ _ _ rfl rfl runP ?_)
  go_wp2_with fail
  refine (isAddr_calls ki AP cP low bi _ RP.out HCP.out HI.out).mono ?_
  rintro e w3 ⟨rfl, c3⟩
  have b3 := bel_drawn baP c3
  clear c3
  cases bi with
  | false =>
    go_wp2_with fail
    refine (works_calls p4 p6 _ (G.below b3)).mono ?_
    rintro e w4 ⟨rfl, c4⟩
    have b4 := bel_then b3 c4
    clear c4
    go_wp2_with fail
    go_ret
    exact ⟨rfl, b4⟩
  | true =>
  obtain ⟨x1, x2, x3, hlow, y1, y2, y3⟩ := EI.out (by simp)
  have LOW := Aside0.mk hlow
  have Y1 := Aside0.mk y1
  have Y2 := Aside0.mk y2
  have Y3 := Aside0.mk y3
  have zA := addrText_size 127 x1 x2 x3 byte_127 y1 y2 y3
  have zB : (addrText 127 x1 x2 x3 ++ (⟨#[58]⟩ : ByteArray)).size = (addrText 127 x1 x2 x3).size + 1 := ByteArray.size_append
  clear hlow y1 y2 y3 RP HCP runP litP blP
  obtain ⟨br_port, er_port, hr_port⟩ := isPort_ev port sz_port
  obtain ⟨kr_port, er_port⟩ := er_port.at
  have HE_port := Aside0.mk er_port
  have OK_port := Aside0.mk hr_port
  clear er_port hr_port
  go_wp2_with fail
  refine (P.spec_IsPort.calls kr_port port br_port _ HE_port.out).mono ?_
  rintro e w4 ⟨rfl, c4⟩
  have b4 := bel_drawn b3 c4
  clear c4
  cases br_port with
  | false =>
    go_wp2_with fail
    refine (works_calls p4 p6 _ (G.below b4)).mono ?_
    rintro e w5 ⟨rfl, c5⟩
    have b5 := bel_then b4 c5
    clear c5
    go_wp2_with fail
    go_ret
    exact ⟨rfl, b5⟩
  | true =>
  replace OK_port := Aside0.mk (OK_port.out (by simp))
  have hps : port.size ≤ 5 := by have := OK_port.out.five; rw [BL_size] at this; exact this
  have LT_rs := fun w' hb => Aside0.mk (listText_calls p4 p6 rs ⟨#[44]⟩ A_rs c_rs w' (G.below hb) (fun r hr => (OK_rs.out.2 r hr).small) (by have := OK_rs.out.1; omega) (by decide) hc_rs (Kd.C_below HA_rs.out hb))
  have LS := Aside0.mk (listed_plain rs (rks_of OK_rs.out))
  have U1 := fun w' g => Aside0.mk (uses_local p4 p6 w' _ (effsOf rs) port g LS.out OK_port.out)
  have U2 := fun w' g => Aside0.mk (uses_addr p4 p6 w' _ rs 127 x1 x2 x3 port g LS.out byte_127 Y1.out Y2.out Y3.out OK_port.out)
  rw [saysA_127] at U2
  have U3 := fun w' g => Aside0.mk (uses_loop p4 p6 w' _ (effsOf rs) port g LS.out OK_port.out)
  have k1 : (⟨#[108, 111, 99, 97, 108, 104, 111, 115, 116, 58]⟩ : ByteArray).size = 10 := rfl
  have k2 : (⟨#[91, 58, 58, 49, 93, 58]⟩ : ByteArray).size = 6 := rfl
  generalize joinB ⟨#[44]⟩ (rs.map ruleText) = t at *
  go_wp2_with fail
  refine ((LT_rs _ b4).out).mono ?_
  rintro e w5 ⟨rfl, c5⟩
  have b5 := bel_then b4 c5
  clear c5
  go_wp2_with fail
  refine (works_calls p4 p6 _ (G.below b5)).mono ?_
  rintro e w6 ⟨rfl, c6⟩
  have b6 := bel_then b5 c6
  clear c6
  go_wp2_with fail
  refine ((U1 _ (G.below b6)).out).mono ?_
  rintro e w7 ⟨rfl, c7⟩
  have b7 := bel_then b6 c7
  clear c7
  have litQ := Aside0.mk (show OwnRow (fun (x : Int) cs => cs = [.int .i64 x]) 3 1 (w7.alloc (.cells #[.int .i64 127] 3)) w7.heap.size (.slice (some ⟨w7.heap.size, 0, none⟩) 1 1) [127] from OwnRow.lit (ps := [127]) (inner := [.int .i64 127]) w7 w7.heap.size (Reps.snoc (Reps.none _ _) rfl rfl) (Nat.le_refl _) (by decide))
  have blQ := Aside0.mk (show Below w7.heap.size w7 (w7.alloc (.cells #[.int .i64 127] 3)) by go_grown)
  obtain ⟨vQ, waQ, runQ, ownQ, grQ, _⟩ := run_rows (P := Tryz.prog) (R := fun (x : Int) cs => cs = [.int .i64 x]) (W := w7.alloc (.cells #[.int .i64 127] 3)) w7.heap.size 31 31 31 3 (.int .i64 0) 1 8 Tryz.underlying31 Tryz.underlying31 info3b rfl (by decide) (by decide) (.slice (some ⟨w7.heap.size, 0, none⟩) 1 1) [127] low A_low low.length c_low litQ.out (Kd.C_below (Kd.C_below HA_low.out b7) blQ.out) (by rintro p cs rfl u hu; simp at hu; subst hu; rfl) blQ.out.size (by simp; omega)
  have baQ := bel_then b7 (show Below w7.heap.size w7 waQ from (Below.alloc (Below.refl _ w7) (Nat.le_refl _) _).grown grQ (by simp) (fun k hk => by simp [Value.ownBlock] at hk; omega))
  obtain ⟨AQ, cQ, eQ, hcQ, rQ⟩ := ownQ.reads
  subst eQ
  have RQ := Aside0.mk (show Kd.C (Kd.int .i64) waQ AQ (127 :: low).length (127 :: low) from rQ)
  have HCQ := Aside0.mk (show (127 :: low).length ≤ cQ from hcQ)
  clear ownQ grQ rQ hcQ
  go_wp2_with (at_builtin; refine run_want rfl (.tmp 49) (.tmp 50) 31 31 rfl _ _ _ rfl rfl runQ ?_)
  go_wp2_with fail
  refine (addr_cons p4 p6 AQ cQ low x1 x2 x3 LOW.out _ (G.below baQ) HCQ.out RQ.out Y1.out Y2.out Y3.out).mono ?_
  rintro e w8 ⟨rfl, c8⟩
  have b8 := bel_then baQ c8
  clear c8
  go_wp2_with fail
  refine ((U2 _ (G.below b8)).out).mono ?_
  rintro e w9 ⟨rfl, c9⟩
  have b9 := bel_then b8 c9
  clear c9
  go_wp2_with fail
  refine ((U3 _ (G.below b9)).out).mono ?_
  rintro e w10 ⟨rfl, c10⟩
  have b10 := bel_then b9 c10
  clear c10
  go_wp2_with fail
  go_ret
  exact ⟨ret_bool (by simp), b10⟩
end Go.Proofs.YtnchgmjeoajmiaaGreatDoor
