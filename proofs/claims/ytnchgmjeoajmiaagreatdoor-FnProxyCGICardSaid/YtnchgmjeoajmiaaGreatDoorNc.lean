/- The walks of the spec, the plain laws on texts, the variables and arguments laid open. -/
import Derived.Test.YtnchgmjeoajmiaaGreatDoorNa
import Derived.Test.YtnchgmjeoajmiaaGreatDoorShelf
import Derived.Test.YtnchgmjeoajmiaaGreatDoorPx2
import Derived.Lib.ItoaLen
import Derived.Test.YtnchgmjeoajmiaaGreatDoorNb
import Derived.Lib.LastIndexByte
import Derived.Lib.ItoaMem
import Derived.Test.YtnchgmjeoajmiaaGreatDoorPx4
import Derived.Test.YtnchgmjeoajmiaaGreatDoorRows
import Derived.Lib.LaidTab
import Derived.Lib.LaidU8
import Derived.LaidLaws
import Derived.MakeChecks
import Derived.Test.YtnchgmjeoajmiaaGreatDoorPx0
import Derived.Test.YtnchgmjeoajmiaaGreatDoorChecked
import Derived.OpenShut
import Derived.ProofKit
import Derived.ChangeSlices
import Derived.Deep.Slices
import Derived.Carry
import Derived.ChangeOld
import Derived.JoinedOf
/-! Speca -/
namespace Go.Proofs.YtnchgmjeoajmiaaGreatDoor
open Go.RowKit Go.Proofs.YtnchgmjeoajmiaaGreatDoorW.PrintWords
set_option linter.unusedSimpArgs false
set_option linter.unusedVariables false

/-- The text of four numbers. -/
def addrText (n0 n1 n2 n3 : Int) : ByteArray := ⟨(Lib.itoa n0 ++ [46] ++ Lib.itoa n1 ++ [46] ++ Lib.itoa n2 ++ [46] ++ Lib.itoa n3).toArray⟩

theorem ret_str {a b : ByteArray} (h : a = b) : Ending.returned (.string a) = .returned (.string b) := by rw [h]

theorem mk_app (a b : List UInt8) : (⟨a.toArray⟩ : ByteArray) ++ (⟨b.toArray⟩ : ByteArray) = ⟨(a ++ b).toArray⟩ := by
  apply ByteArray.ext
  simp

end Go.Proofs.YtnchgmjeoajmiaaGreatDoor

/-! Specb -/
namespace Go.Proofs.YtnchgmjeoajmiaaGreatDoor
open Go.RowKit Go.Proofs.YtnchgmjeoajmiaaGreatDoorW.PrintWords
set_option linter.unusedSimpArgs false
set_option linter.unusedVariables false

/-- A host with its port, if there is one. -/
def wp (host port : ByteArray) : ByteArray := if port.toList = ([] : List UInt8) then host else (host ++ (⟨#[58]⟩ : ByteArray)) ++ port
theorem wp_calls (host port : ByteArray) (w : World) (h1 : host.size ≤ 1000000) (h2 : port.size ≤ 1000000) : Calls Tryz.prog 43 #[.string host, .string port] w fun e w' => e = .returned (.string (wp host port)) ∧ ∃ n, w' = w.drewN n := by
  refine (P.spec_withPort.calls host port (wp host port) w ?_).mono fun e w' h => ⟨h.1, by obtain ⟨_, ⟨n, rfl⟩⟩ := h; exact ⟨n, rfl⟩⟩
  unfold P.spec_withPort.f wp
  have : (host ++ (⟨#[58]⟩ : ByteArray)).size = host.size + 1 := by simp; rfl
  split
  · rfl
  · rw [if_pos (by omega), if_pos (by omega)]

def addrOfL : List Int → ByteArray
  | [a, b, c, d] => addrText a b c d
  | _ => ⟨#[]⟩

/-- The text of a rule. -/
def ruleText (r : P.S42) : ByteArray :=
  if r.f0 = 0 then wp r.f1 r.f4 else if r.f0 = 1 then wp ((⟨#[46]⟩ : ByteArray) ++ r.f1) r.f4 else if r.f0 = 2 then wp (addrOfL r.f2) r.f4
  else if r.f0 = 3 then (addrOfL r.f2 ++ (⟨#[47]⟩ : ByteArray)) ++ (⟨(Lib.itoa r.f3).toArray⟩ : ByteArray) else ⟨#[42]⟩

def IsAd (l : List Int) : Prop := ∃ a b c d, l = [a, b, c, d] ∧ Byte a ∧ Byte b ∧ Byte c ∧ Byte d
/-- What the walk of RuleText asks of a rule. -/
structure Small (r : P.S42) : Prop where
  name : r.f1.size ≤ 1000 ∨ ¬ (r.f0 = 0 ∨ r.f0 = 1)
  port : r.f4.size ≤ 1000
  addr : r.f0 = 2 ∨ r.f0 = 3 → IsAd r.f2
  bits : r.f0 = 3 → 0 ≤ r.f3 ∧ r.f3 ≤ 32

theorem addrText_size (a b c d : Int) (h0 : Byte a) (h1 : Byte b) (h2 : Byte c) (h3 : Byte d) : (addrText a b c d).size ≤ 90 := by
  have l0 := Lib.itoa_length_le a (by unfold Byte at h0; omega) (by unfold Byte at h0; omega)
  have l1 := Lib.itoa_length_le b (by unfold Byte at h1; omega) (by unfold Byte at h1; omega)
  have l2 := Lib.itoa_length_le c (by unfold Byte at h2; omega) (by unfold Byte at h2; omega)
  have l3 := Lib.itoa_length_le d (by unfold Byte at h3; omega) (by unfold Byte at h3; omega)
  simp [addrText, ByteArray.size]
  omega

end Go.Proofs.YtnchgmjeoajmiaaGreatDoor

/-! Specc -/
namespace Go.Proofs.YtnchgmjeoajmiaaGreatDoor
open Go.RowKit Go.Proofs.YtnchgmjeoajmiaaGreatDoorW.PrintWords
set_option linter.unusedSimpArgs false
set_option linter.unusedVariables false

/-- Texts with one between two of them. -/
def joinL (sep : List UInt8) : List (List UInt8) → List UInt8
  | [] => []
  | x :: xs => x ++ (xs.map fun y => sep ++ y).flatten
theorem joinL_snoc (sep : List UInt8) (xs : List (List UInt8)) (x : List UInt8) : joinL sep (xs ++ [x]) = if xs = [] then x else joinL sep xs ++ sep ++ x := by
  cases xs with
  | nil => simp [joinL]
  | cons y ys => simp [joinL]

abbrev BL (s : ByteArray) : List UInt8 := s.data.toList
def joinB (sep : ByteArray) (xs : List ByteArray) : ByteArray := ⟨(joinL (BL sep) (xs.map BL)).toArray⟩

theorem joinB_snoc (sep : ByteArray) (xs : List ByteArray) (x : ByteArray) (h : xs ≠ []) : joinB sep (xs ++ [x]) = (joinB sep xs ++ sep) ++ x := by
  apply ByteArray.ext
  simp [joinB, joinL_snoc, h, BL]
theorem joinB_one (sep : ByteArray) (x : ByteArray) : joinB sep [x] = x := by
  apply ByteArray.ext
  simp [joinB, joinL, BL]

theorem wp_size (a b : ByteArray) : (wp a b).size ≤ a.size + b.size + 1 := by
  unfold wp
  split
  · omega
  · have : (a ++ (⟨#[58]⟩ : ByteArray)).size = a.size + 1 := by simp; rfl
    simp only [ByteArray.size_append] at *
    omega
theorem ruleText_size (r : P.S42) (h : Small r) : (ruleText r).size ≤ 2010 := by
  unfold ruleText
  have hp := h.port
  split
  · have := wp_size r.f1 r.f4
    rcases h.name with hn | hn
    · omega
    · exact absurd (Or.inl (by assumption)) hn
  split
  · have := wp_size ((⟨#[46]⟩ : ByteArray) ++ r.f1) r.f4
    have e : ((⟨#[46]⟩ : ByteArray) ++ r.f1).size = 1 + r.f1.size := by simp; rfl
    rcases h.name with hn | hn
    · omega
    · exact absurd (Or.inr (by assumption)) hn
  split
  · obtain ⟨a, b, c, d, hl, h0, h1, h2, h3⟩ := h.addr (.inl (by assumption))
    rw [hl]
    have := wp_size (addrText a b c d) r.f4
    have := addrText_size a b c d h0 h1 h2 h3
    simp only [addrOfL]
    omega
  split
  · obtain ⟨a, b, c, d, hl, h0, h1, h2, h3⟩ := h.addr (.inr (by assumption))
    rw [hl]
    have := addrText_size a b c d h0 h1 h2 h3
    have hb := h.bits (by assumption)
    have hi := Lib.itoa_length_le r.f3 (by omega) (by omega)
    have e : (((addrText a b c d) ++ (⟨#[47]⟩ : ByteArray)) ++ (⟨(Lib.itoa r.f3).toArray⟩ : ByteArray)).size = (addrText a b c d).size + 1 + (Lib.itoa r.f3).length := by
      rw [ByteArray.size_append, ByteArray.size_append]
      have e1 : (⟨#[47]⟩ : ByteArray).size = 1 := rfl
      have e2 : (⟨(Lib.itoa r.f3).toArray⟩ : ByteArray).size = (Lib.itoa r.f3).length := List.size_toArray ..
      rw [e1, e2]
    simp only [addrOfL]
    omega
  · decide

end Go.Proofs.YtnchgmjeoajmiaaGreatDoor

/-! Texta -/
namespace Go.Proofs.YtnchgmjeoajmiaaGreatDoor
open Go.RowKit Go.Proofs.YtnchgmjeoajmiaaGreatDoorW.PrintWords
set_option linter.unusedSimpArgs false
set_option linter.unusedVariables false

abbrev MK (l : List UInt8) : ByteArray := ⟨l.toArray⟩
theorem MK_BL (s : ByteArray) : MK (BL s) = s := by apply ByteArray.ext; simp [BL]
theorem BL_MK (l : List UInt8) : BL (MK l) = l := rfl
theorem MK_size (l : List UInt8) : (MK l).size = l.length := List.size_toArray ..
theorem BL_size (s : ByteArray) : (BL s).length = s.size := Array.length_toList
theorem toList_MK (l : List UInt8) : (MK l).toList = l := ByteArray.toList_eq _
theorem toList_BL (s : ByteArray) : s.toList = BL s := ByteArray.toList_eq _
theorem eq_of_BL {a b : ByteArray} (h : BL a = BL b) : a = b := by rw [← MK_BL a, ← MK_BL b, h]
theorem BL_append (a b : ByteArray) : BL (a ++ b) = BL a ++ BL b := by simp [BL]
theorem BL_extract (s : ByteArray) (a b : Nat) : BL (s.extract a b) = (BL s).extract a b := by simp [BL]
theorem MK_append (a b : List UInt8) : MK a ++ MK b = MK (a ++ b) := mk_app a b

/-- A byte of a text. -/
theorem bt_MK (l : List UInt8) (i : Nat) (h : i < l.length) : bt (MK l) (i : Int) = ((l[i]'h).toNat : Int) := by
  unfold bt
  rw [dif_pos (by simpa [MK_size] using h)]
  rfl
theorem bt_MK_out (l : List UInt8) (i : Int) (h : l.length ≤ i.toNat) : bt (MK l) i = 0 := by
  unfold bt
  rw [dif_neg (by simp [MK_size]; omega)]
theorem bt_mem {l : List UInt8} {i : Int} (h0 : 0 ≤ i) (h1 : i < l.length) : ∃ b ∈ l, bt (MK l) i = (b.toNat : Int) := by
  obtain ⟨j, rfl⟩ : ∃ j : Nat, i = j := ⟨i.toNat, by omega⟩
  exact ⟨l[j]'(by omega), List.getElem_mem _, bt_MK l j (by omega)⟩
theorem bt_BL (s : ByteArray) (i : Int) : bt s i = bt (MK (BL s)) i := by rw [MK_BL]

theorem extract_MK (l : List UInt8) (a b : Nat) : (MK l).extract a b = MK ((l.drop a).take (b - a)) := by
  apply eq_of_BL
  rw [BL_extract, BL_MK, BL_MK, List.extract_eq_take_drop]

theorem data_get (l : List UInt8) (j : Nat) (h : j < l.length) : (MK l).data[j]! = l[j]'h := by
  simp [List.getElem?_eq_getElem h]

/-- No byte c. -/
def No (c : Nat) (l : List UInt8) : Prop := ∀ b ∈ l, b.toNat ≠ c

theorem indexByte_none {l : List UInt8} {c : Nat} (hc : c < 256) (h : No c l) : Lib.indexByte l ((c : Int)).toNat.toUInt8 = -1 := by
  induction l with
  | nil => rfl
  | cons b t ih =>
    have hb : (b == (c : Int).toNat.toUInt8) = false := by
      rw [beq_eq_false_iff_ne]
      intro e
      apply h b List.mem_cons_self
      rw [e]
      simp [Nat.toUInt8]
      omega
    unfold Lib.indexByte
    rw [hb, ih (fun x hx => h x (List.mem_cons_of_mem _ hx))]
    rfl

theorem lastIndex_none {l : List UInt8} {c : Nat} (h : No c l) : Lib.lastIndexByte (MK l) c = -1 := by
  rcases Lib.lastIdx_spec (MK l) c (MK l).size with ⟨h1, _⟩ | ⟨i, hi, _, h3, _⟩
  · exact h1
  · rw [MK_size] at hi
    rw [data_get l i hi] at h3
    exact absurd (by omega) (h _ (List.getElem_mem hi))

theorem lastIndex_at {a t : List UInt8} {c : UInt8} (h : No c.toNat t) : Lib.lastIndexByte (MK (a ++ [c] ++ t)) c.toNat = a.length := by
  rcases Lib.lastIdx_spec (MK (a ++ [c] ++ t)) c.toNat (MK (a ++ [c] ++ t)).size with ⟨_, h2⟩ | ⟨i, hi, h3, h4, h5⟩
  · exfalso
    have hlt : a.length < (a ++ [c] ++ t).length := by simp
    have := h2 a.length (by rw [MK_size]; exact hlt)
    rw [data_get _ _ hlt] at this
    simp at this
  · rw [MK_size] at hi h5
    rw [data_get _ _ hi] at h4
    have hlt : a.length < (a ++ [c] ++ t).length := by simp
    unfold Lib.lastIndexByte
    rw [h3]
    rcases Nat.lt_trichotomy i a.length with hl | he | hg
    · have := h5 a.length hl hlt
      rw [data_get _ _ hlt] at this
      simp at this
    · rw [he]
    · exfalso
      have e : (a ++ [c] ++ t)[i]'hi = t[i - (a.length + 1)]'(by simp at hi; omega) := by
        rw [List.getElem_append_right (by simp; omega)]
        simp
      rw [e] at h4
      exact h _ (List.getElem_mem _) (Int.ofNat_inj.1 h4)

/-! ### zzIndex of one byte, zzSplit at commas, zzCut at a slash -/
theorem take1 (l : List UInt8) (c : UInt8) (j : Nat) : (l.drop j).take 1 = [c] ↔ l[j]? = some c := by
  rw [← List.head?_drop]
  cases h : l.drop j with
  | nil => simp
  | cons x t => simp

theorem zzIndex_some (c : UInt8) : ∀ (d : Nat) (k : Nat) (l : List UInt8) (j i : Nat), i = j + d → d < k → i < l.length → l.length ≤ 1000000000 → (∀ m, j ≤ m → m < i → l[m]? ≠ some c) → l[i]? = some c →
    P.httpproxy_zzIndex.l0 k (MK l) (MK [c]) (j : Int) = some (i : Int) := by
  intro d
  induction d with
  | zero =>
    intro k l j i hi hk hlt hlen hno hat
    obtain ⟨k, rfl⟩ : ∃ m, k = m + 1 := ⟨k - 1, by omega⟩
    have : i = j := by omega
    subst this
    have e1 : ((MK [c]).size : Int) = 1 := rfl
    have e2 : ((MK l).size : Int) = l.length := by rw [MK_size]
    have ew : wrap64 ((i : Int) + 1) = ((i + 1 : Nat) : Int) := by unfold wrap64; omega
    simp only [P.httpproxy_zzIndex.l0, e1, e2, ew, Int.toNat_natCast]
    rw [if_pos (by omega), if_pos (by omega), if_pos (by omega), if_pos]
    rw [extract_MK, toList_MK, toList_MK, show i + 1 - i = 1 by omega]
    exact (take1 l c i).2 hat
  | succ d ih =>
    intro k l j i hi hk hlt hlen hno hat
    obtain ⟨k, rfl⟩ : ∃ m, k = m + 1 := ⟨k - 1, by omega⟩
    have e1 : ((MK [c]).size : Int) = 1 := rfl
    have e2 : ((MK l).size : Int) = l.length := by rw [MK_size]
    have ew : wrap64 ((j : Int) + 1) = ((j + 1 : Nat) : Int) := by unfold wrap64; omega
    simp only [P.httpproxy_zzIndex.l0, e1, e2, ew, Int.toNat_natCast]
    rw [if_pos (by omega), if_pos (by omega), if_pos (by omega), if_neg]
    · exact ih k l (j + 1) i (by omega) (by omega) hlt hlen (fun m h1 h2 => hno m (by omega) h2) hat
    · rw [extract_MK, toList_MK, toList_MK, show j + 1 - j = 1 by omega]
      intro h
      exact hno j (Nat.le_refl _) (by omega) ((take1 l c j).1 h)

theorem zzIndex_none (c : UInt8) : ∀ (d : Nat) (k : Nat) (l : List UInt8) (j : Nat), l.length = j + d → d < k → l.length ≤ 1000000000 → (∀ m, j ≤ m → l[m]? ≠ some c) →
    P.httpproxy_zzIndex.l0 k (MK l) (MK [c]) (j : Int) = some (-1) := by
  intro d
  induction d with
  | zero =>
    intro k l j hi hk hlen hno
    obtain ⟨k, rfl⟩ : ∃ m, k = m + 1 := ⟨k - 1, by omega⟩
    have e1 : ((MK [c]).size : Int) = 1 := rfl
    have e2 : ((MK l).size : Int) = l.length := by rw [MK_size]
    have ew : wrap64 ((j : Int) + 1) = ((j + 1 : Nat) : Int) := by unfold wrap64; omega
    simp only [P.httpproxy_zzIndex.l0, e1, e2, ew, Int.toNat_natCast]
    rw [if_neg (by omega)]
  | succ d ih =>
    intro k l j hi hk hlen hno
    obtain ⟨k, rfl⟩ : ∃ m, k = m + 1 := ⟨k - 1, by omega⟩
    have e1 : ((MK [c]).size : Int) = 1 := rfl
    have e2 : ((MK l).size : Int) = l.length := by rw [MK_size]
    have ew : wrap64 ((j : Int) + 1) = ((j + 1 : Nat) : Int) := by unfold wrap64; omega
    simp only [P.httpproxy_zzIndex.l0, e1, e2, ew, Int.toNat_natCast]
    rw [if_pos (by omega), if_pos (by omega), if_pos (by omega), if_neg]
    · exact ih k l (j + 1) (by omega) (by omega) hlen (fun m h1 => hno m (by omega))
    · rw [extract_MK, toList_MK, toList_MK, show j + 1 - j = 1 by omega]
      intro h
      exact hno j (Nat.le_refl _) ((take1 l c j).1 h)

theorem no_get {c : UInt8} {l : List UInt8} (h : No c.toNat l) (m : Nat) : l[m]? ≠ some c := fun e => h c (List.mem_of_getElem? e) rfl

/-- The items between commas. -/
theorem zzSplit_join : ∀ (xs : List (List UInt8)) (k : Nat) (acc : List ByteArray), xs ≠ [] → (∀ x ∈ xs, No 44 x) → (joinL [44] xs).length ≤ 1000000000 → (joinL [44] xs).length + xs.length + 1 < k → acc.length + xs.length < 1000000 →
    P.httpproxy_zzSplit.l0 k (MK (joinL [44] xs)) comma acc = some (acc ++ xs.map MK) := by
  intro xs
  induction xs with
  | nil => intro k acc h; exact absurd rfl h
  | cons x t ih =>
    intro k acc _ hno hlen hk hacc
    obtain ⟨k, rfl⟩ : ∃ m, k = m + 1 := ⟨k - 1, by omega⟩
    have hx := hno x List.mem_cons_self
    cases t with
    | nil =>
      have hj : joinL [44] [x] = x := by simp [joinL]
      rw [hj] at hlen hk ⊢
      simp only [P.httpproxy_zzSplit.l0, P.httpproxy_zzIndex.f]
      rw [show (0 : Int) = ((0 : Nat) : Int) from rfl, zzIndex_none 44 x.length k x 0 (by omega) (by simp at hk; omega) hlen (fun m _ => no_get (c := 44) hx m)]
      simp only [Option.bind_some]
      rw [if_pos (by decide), if_pos (by simp at hacc; omega)]
      rfl
    | cons y t' =>
      have hj : joinL [44] (x :: y :: t') = x ++ [44] ++ joinL [44] (y :: t') := by simp [joinL]
      rw [hj] at hlen hk ⊢
      generalize hr : joinL [44] (y :: t') = rest at *
      simp only [List.length_append, List.length_cons, List.length_nil] at hlen hk hacc
      simp only [P.httpproxy_zzSplit.l0, P.httpproxy_zzIndex.f]
      have hidx := zzIndex_some 44 x.length k (x ++ [44] ++ rest) 0 x.length (by omega) (by omega) (by simp) (by simp; omega) (fun m _ hm => by
        rw [List.append_assoc, List.getElem?_append_left hm]
        exact no_get (c := 44) hx m) (by simp)
      have e1 : ((comma).size : Int) = 1 := rfl
      have e2 : ((MK (x ++ [44] ++ rest)).size : Int) = x.length + 1 + rest.length := by rw [MK_size]; simp; omega
      have ew : wrap64 ((x.length : Int) + 1) = ((x.length + 1 : Nat) : Int) := by unfold wrap64; omega
      rw [show (0 : Int) = ((0 : Nat) : Int) from rfl, show (comma : ByteArray) = MK [44] from rfl, hidx]
      simp only [Option.bind_some]
      rw [show ((MK [44]).size : Int) = 1 from rfl, ew, e2]
      simp only [Int.toNat_natCast]
      rw [if_neg (by omega), if_pos (by omega), if_pos (by omega), if_pos (by omega), if_pos (by omega), if_pos (by omega)]
      have ex1 : (MK (x ++ [44] ++ rest)).extract (x.length + 1) (MK (x ++ [44] ++ rest)).size = MK rest := by
        rw [extract_MK, MK_size]
        congr 1
        rw [show x.length + 1 = (x ++ [44]).length by simp, List.drop_left, List.take_of_length_le (by simp; omega)]
      have ex2 : (MK (x ++ [44] ++ rest)).extract 0 x.length = MK x := by
        rw [extract_MK, List.drop_zero, Nat.sub_zero, List.append_assoc, List.take_left]
      rw [ex1, ex2]
      have := ih k (acc ++ [MK x]) (by simp) (fun z hz => hno z (List.mem_cons_of_mem _ hz)) (by omega) (by simp only [List.length_cons]; omega) (by simp only [List.length_append, List.length_cons, List.length_nil]; omega)
      rw [show (comma : ByteArray) = MK [44] from rfl] at this
      rw [this]
      simp
end Go.Proofs.YtnchgmjeoajmiaaGreatDoor

/-! Textb -/
namespace Go.Proofs.YtnchgmjeoajmiaaGreatDoor
open Go.RowKit Go.Proofs.YtnchgmjeoajmiaaGreatDoorW.PrintWords
set_option linter.unusedSimpArgs false
set_option linter.unusedVariables false

theorem cutIndex_some (c : UInt8) : ∀ (d : Nat) (k : Nat) (l : List UInt8) (j i : Nat), i = j + d → d < k → i < l.length → l.length ≤ 1000000000 → (∀ m, j ≤ m → m < i → l[m]? ≠ some c) → l[i]? = some c →
    P.netcidr_zzIndex.l0 k (MK l) (MK [c]) (j : Int) = some (i : Int) := by
  intro d
  induction d with
  | zero =>
    intro k l j i hi hk hlt hlen hno hat
    obtain ⟨k, rfl⟩ : ∃ m, k = m + 1 := ⟨k - 1, by omega⟩
    have : i = j := by omega
    subst this
    have e1 : ((MK [c]).size : Int) = 1 := rfl
    have e2 : ((MK l).size : Int) = l.length := by rw [MK_size]
    have ew : wrap64 ((i : Int) + 1) = ((i + 1 : Nat) : Int) := by unfold wrap64; omega
    simp only [P.netcidr_zzIndex.l0, e1, e2, ew, Int.toNat_natCast]
    rw [if_pos (by omega), if_pos (by omega), if_pos (by omega), if_pos]
    rw [extract_MK, toList_MK, toList_MK, show i + 1 - i = 1 by omega]
    exact (take1 l c i).2 hat
  | succ d ih =>
    intro k l j i hi hk hlt hlen hno hat
    obtain ⟨k, rfl⟩ : ∃ m, k = m + 1 := ⟨k - 1, by omega⟩
    have e1 : ((MK [c]).size : Int) = 1 := rfl
    have e2 : ((MK l).size : Int) = l.length := by rw [MK_size]
    have ew : wrap64 ((j : Int) + 1) = ((j + 1 : Nat) : Int) := by unfold wrap64; omega
    simp only [P.netcidr_zzIndex.l0, e1, e2, ew, Int.toNat_natCast]
    rw [if_pos (by omega), if_pos (by omega), if_pos (by omega), if_neg]
    · exact ih k l (j + 1) i (by omega) (by omega) hlt hlen (fun m h1 h2 => hno m (by omega) h2) hat
    · rw [extract_MK, toList_MK, toList_MK, show j + 1 - j = 1 by omega]
      intro h
      exact hno j (Nat.le_refl _) (by omega) ((take1 l c j).1 h)

theorem cutIndex_none (c : UInt8) : ∀ (d : Nat) (k : Nat) (l : List UInt8) (j : Nat), l.length = j + d → d < k → l.length ≤ 1000000000 → (∀ m, j ≤ m → l[m]? ≠ some c) →
    P.netcidr_zzIndex.l0 k (MK l) (MK [c]) (j : Int) = some (-1) := by
  intro d
  induction d with
  | zero =>
    intro k l j hi hk hlen hno
    obtain ⟨k, rfl⟩ : ∃ m, k = m + 1 := ⟨k - 1, by omega⟩
    have e1 : ((MK [c]).size : Int) = 1 := rfl
    have e2 : ((MK l).size : Int) = l.length := by rw [MK_size]
    have ew : wrap64 ((j : Int) + 1) = ((j + 1 : Nat) : Int) := by unfold wrap64; omega
    simp only [P.netcidr_zzIndex.l0, e1, e2, ew, Int.toNat_natCast]
    rw [if_neg (by omega)]
  | succ d ih =>
    intro k l j hi hk hlen hno
    obtain ⟨k, rfl⟩ : ∃ m, k = m + 1 := ⟨k - 1, by omega⟩
    have e1 : ((MK [c]).size : Int) = 1 := rfl
    have e2 : ((MK l).size : Int) = l.length := by rw [MK_size]
    have ew : wrap64 ((j : Int) + 1) = ((j + 1 : Nat) : Int) := by unfold wrap64; omega
    simp only [P.netcidr_zzIndex.l0, e1, e2, ew, Int.toNat_natCast]
    rw [if_pos (by omega), if_pos (by omega), if_pos (by omega), if_neg]
    · exact ih k l (j + 1) (by omega) (by omega) hlen (fun m h1 => hno m (by omega))
    · rw [extract_MK, toList_MK, toList_MK, show j + 1 - j = 1 by omega]
      intro h
      exact hno j (Nat.le_refl _) ((take1 l c j).1 h)

theorem cut_none {p : List UInt8} (h : No 47 p) (hl : p.length ≤ 1000000000) : ∃ k, P.netcidr_zzCut.f k (MK p) slash = some (MK p, ⟨#[]⟩, false) := by
  refine ⟨p.length + 1, ?_⟩
  unfold P.netcidr_zzCut.f P.netcidr_zzIndex.f
  rw [show (slash : ByteArray) = MK [47] from rfl, show (0 : Int) = ((0 : Nat) : Int) from rfl, cutIndex_none 47 p.length (p.length + 1) p 0 (by omega) (by omega) hl (fun m _ => no_get (c := 47) h m)]
  simp only [Option.bind_some]
  rw [if_neg (by decide)]

theorem cut_at {a t : List UInt8} (h : No 47 a) (hl : a.length + t.length ≤ 1000000) : ∃ k, P.netcidr_zzCut.f k (MK (a ++ [47] ++ t)) slash = some (MK a, MK t, true) := by
  refine ⟨a.length + 1, ?_⟩
  unfold P.netcidr_zzCut.f P.netcidr_zzIndex.f
  rw [show (slash : ByteArray) = MK [47] from rfl, show (0 : Int) = ((0 : Nat) : Int) from rfl, cutIndex_some 47 a.length (a.length + 1) (a ++ [47] ++ t) 0 a.length (by omega) (by omega) (by simp) (by simp; omega) (fun m _ hm => by
    rw [List.append_assoc, List.getElem?_append_left hm]
    exact no_get (c := 47) h m) (by simp)]
  simp only [Option.bind_some]
  have e2 : ((MK (a ++ [47] ++ t)).size : Int) = a.length + 1 + t.length := by rw [MK_size]; simp; omega
  have ew : wrap64 ((a.length : Int) + 1) = ((a.length + 1 : Nat) : Int) := by unfold wrap64; omega
  rw [show ((MK [47]).size : Int) = 1 from rfl, ew, e2]
  simp only [Int.toNat_natCast]
  rw [if_pos (by omega), if_pos (by omega), if_pos (by omega), if_pos (by omega), if_pos (by omega)]
  have ex1 : (MK (a ++ [47] ++ t)).extract (a.length + 1) (MK (a ++ [47] ++ t)).size = MK t := by
    rw [extract_MK, MK_size]
    congr 1
    rw [show a.length + 1 = (a ++ [47]).length by simp, List.drop_left, List.take_of_length_le (by simp; omega)]
  have ex2 : (MK (a ++ [47] ++ t)).extract 0 a.length = MK a := by
    rw [extract_MK, List.drop_zero, Nat.sub_zero, List.append_assoc, List.take_left]
  rw [ex1, ex2]

/-! ### Items -/
theorem dropWhile_pre (f : UInt8 → Bool) : ∀ (a b : List UInt8), (∀ x ∈ a, f x = true) → (a ++ b).dropWhile f = b.dropWhile f
  | [], b, _ => rfl
  | x :: a, b, h => by
    rw [List.cons_append, List.dropWhile_cons, if_pos (h x List.mem_cons_self)]
    exact dropWhile_pre f a b fun y hy => h y (List.mem_cons_of_mem _ hy)
theorem dropWhile_stop (f : UInt8 → Bool) : ∀ (b : List UInt8), (∀ x ∈ b, f x = false) → b.dropWhile f = b
  | [], _ => rfl
  | x :: b, h => by rw [List.dropWhile_cons, if_neg (by simp [h x List.mem_cons_self])]
theorem dropWhile_pre_stop (f : UInt8 → Bool) (a b c : List UInt8) (ha : ∀ x ∈ a, f x = true) (hb : ∀ x ∈ b, f x = false) (h0 : b ≠ []) : (a ++ b ++ c).dropWhile f = b ++ c := by
  rw [List.append_assoc, dropWhile_pre f a _ ha]
  cases b with
  | nil => exact absurd rfl h0
  | cons x t => rw [List.cons_append, List.dropWhile_cons, if_neg (by simp [hb x List.mem_cons_self])]

theorem trim_mid {a q b : List UInt8} (ha : ∀ x ∈ a, Lib.isSp x = true) (hb : ∀ x ∈ b, Lib.isSp x = true) (hq : ∀ x ∈ q, Lib.isSp x = false) : Lib.trimSpace (a ++ q ++ b) = q := by
  unfold Lib.trimSpace
  by_cases h0 : q = []
  · subst h0
    rw [List.append_nil, dropWhile_pre _ a b ha]
    rw [show b.dropWhile Lib.isSp = [] from by
      have := dropWhile_pre Lib.isSp b [] hb
      rw [List.append_nil] at this
      rw [this]; rfl]
    rfl
  · rw [dropWhile_pre_stop _ a q b ha hq h0, List.reverse_append, dropWhile_pre _ _ _ (fun x hx => hb x (List.mem_reverse.1 hx)), dropWhile_stop _ _ (fun x hx => hq x (List.mem_reverse.1 hx)), List.reverse_reverse]

/-- Printable bytes, none a space. -/
def Vis (l : List UInt8) : Prop := ∀ b ∈ l, 32 < b.toNat ∧ b.toNat < 128
def Sps (l : List UInt8) : Prop := ∀ b ∈ l, b = 32
theorem Vis.sp {l : List UInt8} (h : Vis l) : ∀ x ∈ l, Lib.isSp x = false := fun x hx => by
  have := h x hx
  have hne : ∀ c : UInt8, c.toNat ≤ 32 → (x == c) = false := fun c hc => beq_eq_false_iff_ne.2 (fun e => by subst e; omega)
  simp only [Lib.isSp, hne 9 (by decide), hne 10 (by decide), hne 11 (by decide), hne 12 (by decide), hne 13 (by decide), hne 32 (by decide)]
  rfl
theorem Sps.sp {l : List UInt8} (h : Sps l) : ∀ x ∈ l, Lib.isSp x = true := fun x hx => by rw [h x hx]; rfl

theorem item_of {a q b : List UInt8} (ha : Sps a) (hb : Sps b) (hq : Vis q) (hl : (a ++ q ++ b).length ≤ 100000000) : Item (MK (a ++ q ++ b)) (MK (q.map Lib.lowerB)) := by
  have ht : Lib.trimSpace (MK (a ++ q ++ b)).data.toList = q := trim_mid ha.sp hb.sp hq.sp
  refine ⟨by rw [MK_size]; omega, fun j c hj => ?_, ?_, ?_, ?_⟩
  · have hm : c ∈ a ++ q ++ b := List.mem_of_getElem? hj
    simp only [List.mem_append] at hm
    rcases hm with (hm | hm) | hm
    · rw [ha c hm]; decide
    · exact (hq c hm).2
    · rw [hb c hm]; decide
  · rw [ht]; simp at hl; omega
  · rw [ht]
    intro j c hj
    exact (hq c (List.mem_of_getElem? hj)).2
  · unfold tidy
    rw [ht]
    rfl

theorem lower_map {q : List UInt8} (h : ∀ b ∈ q, ¬ (65 ≤ b.toNat ∧ b.toNat ≤ 90)) : q.map Lib.lowerB = q := by
  induction q with
  | nil => rfl
  | cons x t ih =>
    rw [List.map_cons, ih fun b hb => h b (List.mem_cons_of_mem _ hb)]
    have hx := h x List.mem_cons_self
    congr 1
    refine Lib.lowerB_of_not x ?_
    rw [Lib.isUpperB_int]
    by_cases h1 : 65 ≤ x.toNat
    · have : ¬ x.toNat ≤ 90 := fun h2 => hx ⟨h1, h2⟩
      rw [show decide ((x.toNat : Int) ≤ 90) = false from decide_eq_false (by omega)]
      simp
    · rw [show decide ((65 : Int) ≤ (x.toNat : Int)) = false from decide_eq_false (by omega)]
      rfl

/-! ### A host and a port -/
theorem splits_of {h p : List UInt8} (h1 : h ≠ []) (hc : No 58 h) (ho : No 91 h) (hcl : No 93 h) (pc : No 58 p) (po : No 91 p) (pcl : No 93 p) (hl : h.length + p.length ≤ 100000000) :
    Splits (MK (h ++ [58] ++ p)) h.length ∧ (MK (h ++ [58] ++ p)).extract 0 h.length = MK h ∧ (MK (h ++ [58] ++ p)).extract (h.length + 1) (MK (h ++ [58] ++ p)).size = MK p := by
  have ex2 : (MK (h ++ [58] ++ p)).extract 0 h.length = MK h := by
    rw [extract_MK, List.drop_zero, Nat.sub_zero, List.append_assoc, List.take_left]
  have ex1 : (MK (h ++ [58] ++ p)).extract (h.length + 1) (MK (h ++ [58] ++ p)).size = MK p := by
    rw [extract_MK, MK_size]
    congr 1
    rw [show h.length + 1 = (h ++ [58]).length by simp, List.drop_left, List.take_of_length_le (by simp; omega)]
  have hz : (MK (h ++ [58] ++ p)).size = h.length + 1 + p.length := by rw [MK_size]; simp; omega
  have hp : 0 < h.length := List.length_pos_iff.2 h1
  have nall : ∀ c : Nat, c ≠ 58 → No c h → No c p → No c (h ++ [58] ++ p) := fun c hc h2 h3 b hb => by
    simp only [List.mem_append, List.mem_singleton] at hb
    rcases hb with (hb | hb) | hb
    · exact h2 b hb
    · rw [hb]; exact fun e => hc (by rw [← e]; rfl)
    · exact h3 b hb
  refine ⟨⟨by omega, by omega, ?_, ?_, ?_, ?_, ?_⟩, ex2, ex1⟩
  · exact lastIndex_at (c := 58) pc
  · have hlt : 0 < (h ++ [58] ++ p).length := by rw [MK_size] at hz; omega
    have := bt_MK (h ++ [58] ++ p) 0 hlt
    rw [show (0 : Int) = ((0 : Nat) : Int) from rfl, this]
    have := nall 91 (by decide) ho po _ (List.getElem_mem hlt)
    omega
  · rw [ex2]
    exact indexByte_none (c := 58) (by decide) hc
  · exact indexByte_none (c := 91) (by decide) (nall 91 (by decide) ho po)
  · exact indexByte_none (c := 93) (by decide) (nall 93 (by decide) hcl pcl)
end Go.Proofs.YtnchgmjeoajmiaaGreatDoor

/-! Textd -/
namespace Go.Proofs.YtnchgmjeoajmiaaGreatDoor
open Go.RowKit Go.Proofs.YtnchgmjeoajmiaaGreatDoorW.PrintWords
set_option linter.unusedSimpArgs false
set_option linter.unusedVariables false

theorem bt_mid {l pre rest : List UInt8} {x : UInt8} (hl : l = pre ++ x :: rest) : bt (MK l) (pre.length : Int) = (x.toNat : Int) := by
  subst hl
  have hlt : pre.length < (pre ++ x :: rest).length := by simp
  rw [bt_MK _ _ hlt]
  simp

theorem dg_toNat {k : Nat} (h : k < 10) : (UInt8.ofNat (48 + k)).toNat = 48 + k := by
  rw [UInt8.toNat_ofNat']
  exact Nat.mod_eq_of_lt (by omega)

theorem digits_cases (n : Nat) (h : n ≤ 255) : (n < 10 ∧ Lib.decDigits n = [UInt8.ofNat (48 + n)]) ∨ (10 ≤ n ∧ n < 100 ∧ Lib.decDigits n = [UInt8.ofNat (48 + n / 10), UInt8.ofNat (48 + n % 10)]) ∨
    (100 ≤ n ∧ Lib.decDigits n = [UInt8.ofNat (48 + n / 100), UInt8.ofNat (48 + n / 10 % 10), UInt8.ofNat (48 + n % 10)]) := by
  rcases Nat.lt_or_ge n 10 with h1 | h1
  · exact .inl ⟨h1, Lib.decDigits_one h1⟩
  rcases Nat.lt_or_ge n 100 with h2 | h2
  · exact .inr (.inl ⟨h1, h2, Lib.decDigits_two (by omega) h2⟩)
  · refine .inr (.inr ⟨h2, ?_⟩)
    rw [Lib.decDigits, dif_neg (by omega), Lib.decDigits_two (by omega) (by omega), Nat.div_div_eq_div_mul]
    rfl

theorem digits_dig (n : Nat) (h : n ≤ 255) : ∀ b ∈ Lib.decDigits n, 48 ≤ b.toNat ∧ b.toNat ≤ 57 := by
  intro b hb
  have k : ∀ j, j < 10 → b = UInt8.ofNat (48 + j) → 48 ≤ b.toNat ∧ b.toNat ≤ 57 := fun j hj e => by subst e; rw [dg_toNat hj]; omega
  rcases digits_cases n h with ⟨h1, e⟩ | ⟨h1, h2, e⟩ | ⟨h1, e⟩ <;> rw [e] at hb <;> simp only [List.mem_cons, List.not_mem_nil, or_false] at hb
  · exact k n h1 hb
  · rcases hb with hb | hb
    · exact k _ (by omega) hb
    · exact k _ (by omega) hb
  · rcases hb with hb | hb | hb
    · exact k _ (by omega) hb
    · exact k _ (by omega) hb
    · exact k _ (by omega) hb
theorem digits_len (n : Nat) (h : n ≤ 255) : 1 ≤ (Lib.decDigits n).length ∧ (Lib.decDigits n).length ≤ 3 := by
  rcases digits_cases n h with ⟨h1, e⟩ | ⟨h1, h2, e⟩ | ⟨h1, e⟩ <;> rw [e] <;> simp

theorem v4_step {l pre rest : List UInt8} {x : UInt8} (hl : l = pre ++ x :: rest) (k : Nat) (val pos dig : Int) (f : List Int) (h0 : 48 ≤ x.toNat) (h1 : x.toNat ≤ 57) (h2 : ¬ (dig = 1 ∧ val = 0)) (h3 : val * 10 + x.toNat - 48 ≤ 255) :
    v4 (MK l) (k + 1) (pre.length : Int) val pos dig f = v4 (MK l) k ((pre ++ [x]).length : Int) (val * 10 + x.toNat - 48) pos (dig + 1) f := by
  have hb := bt_mid hl
  have hz : ((MK l).size : Int) = pre.length + 1 + rest.length := by rw [MK_size, hl]; simp; omega
  simp only [v4]
  rw [hb, hz, if_pos (by omega), if_pos (by omega), if_neg h2, if_neg (by omega)]
  simp

theorem v4_num {l pre rest : List UInt8} (n : Nat) (hn : n ≤ 255) (hl : l = pre ++ Lib.decDigits n ++ rest) (k : Nat) (pos : Int) (f : List Int) :
    v4 (MK l) (k + (Lib.decDigits n).length) (pre.length : Int) 0 pos 0 f = v4 (MK l) k ((pre ++ Lib.decDigits n).length : Int) n pos (Lib.decDigits n).length f := by
  rcases digits_cases n hn with ⟨h1, e⟩ | ⟨h1, h2, e⟩ | ⟨h1, e⟩
  · rw [e] at hl ⊢
    have t := dg_toNat h1
    generalize UInt8.ofNat (48 + n) = d1 at *
    rw [show k + [d1].length = k + 1 from rfl, v4_step (rest := rest) (by simpa using hl) k 0 pos 0 f (by omega) (by omega) (by omega) (by omega), t]
    congr 1
    omega
  · rw [e] at hl ⊢
    have t1 := dg_toNat (show n / 10 < 10 by omega)
    have t2 := dg_toNat (show n % 10 < 10 by omega)
    generalize UInt8.ofNat (48 + n / 10) = d1 at *
    generalize UInt8.ofNat (48 + n % 10) = d2 at *
    rw [show k + [d1, d2].length = (k + 1) + 1 from rfl, v4_step (x := d1) (rest := d2 :: rest) (by simpa using hl) (k + 1) 0 pos 0 f (by omega) (by omega) (by omega) (by omega),
      v4_step (x := d2) (pre := pre ++ [d1]) (rest := rest) (by simpa using hl) k _ pos _ f (by omega) (by omega) (by omega) (by omega), t1, t2]
    rw [List.append_assoc]
    congr 1
    push_cast
    omega
  · rw [e] at hl ⊢
    have t1 := dg_toNat (show n / 100 < 10 by omega)
    have t2 := dg_toNat (show n / 10 % 10 < 10 by omega)
    have t3 := dg_toNat (show n % 10 < 10 by omega)
    generalize UInt8.ofNat (48 + n / 100) = d1 at *
    generalize UInt8.ofNat (48 + n / 10 % 10) = d2 at *
    generalize UInt8.ofNat (48 + n % 10) = d3 at *
    rw [show k + [d1, d2, d3].length = ((k + 1) + 1) + 1 from rfl, v4_step (x := d1) (rest := d2 :: d3 :: rest) (by simpa using hl) (k + 1 + 1) 0 pos 0 f (by omega) (by omega) (by omega) (by omega),
      v4_step (x := d2) (pre := pre ++ [d1]) (rest := d3 :: rest) (by simpa using hl) (k + 1) _ pos _ f (by omega) (by omega) (by omega) (by omega),
      v4_step (x := d3) (pre := pre ++ [d1] ++ [d2]) (rest := rest) (by simpa using hl) k _ pos _ f (by omega) (by omega) (by omega) (by omega), t1, t2, t3]
    rw [List.append_assoc, List.append_assoc]
    congr 1
    push_cast
    omega

theorem v4_dot {l pre rest : List UInt8} {y : UInt8} (hl : l = pre ++ [y] ++ 46 :: rest) (hr : rest ≠ []) (hy : y.toNat ≠ 46) (k : Nat) (val pos dig : Int) (f : List Int) (hpos : pos ≠ 3) :
    v4 (MK l) (k + 1) ((pre ++ [y]).length : Int) val pos dig f = v4 (MK l) k ((pre ++ [y] ++ [46]).length : Int) 0 (pos + 1) 0 (f.set pos.toNat val) := by
  have hb := bt_mid hl
  have hb' : bt (MK l) (((pre ++ [y]).length : Int) - 1) = (y.toNat : Int) := by
    have := bt_mid (l := l) (pre := pre) (x := y) (rest := 46 :: rest) (by simpa using hl)
    rw [← this]
    congr 1
    simp
  have hrp : 0 < rest.length := List.length_pos_iff.2 hr
  have hz : ((MK l).size : Int) = (pre ++ [y]).length + 1 + rest.length := by rw [MK_size, hl]; simp; omega
  have hpl : ((pre ++ [y]).length : Int) = pre.length + 1 := by simp
  simp only [v4]
  rw [hb, hb', hz, hpl]
  rw [if_pos (by omega), if_neg (by decide), if_pos (by decide), if_neg (by omega), if_neg hpos]
  congr 1
  simp
  omega

theorem v4_end {l : List UInt8} (k : Nat) (val pos dig : Int) (f : List Int) (hpos : ¬ pos < 3) : v4 (MK l) (k + 1) (l.length : Int) val pos dig f = some (f.set 3 val) := by
  simp only [v4]
  rw [if_neg (by rw [MK_size]; omega), if_neg hpos]

theorem digits_last (n : Nat) (hn : n ≤ 255) : ∃ p y, Lib.decDigits n = p ++ [y] ∧ y.toNat ≠ 46 := by
  have hd := digits_dig n hn
  have hl := digits_len n hn
  have hne : Lib.decDigits n ≠ [] := fun e => by rw [e] at hl; simp at hl
  refine ⟨(Lib.decDigits n).dropLast, (Lib.decDigits n).getLast hne, (List.dropLast_concat_getLast hne).symm, ?_⟩
  have := hd _ (List.getLast_mem hne)
  omega

/-- Numbers with dots between them. -/
def dotted (a b c d : Nat) : List UInt8 := Lib.decDigits a ++ [46] ++ Lib.decDigits b ++ [46] ++ Lib.decDigits c ++ [46] ++ Lib.decDigits d

theorem v4_dotted (a b c d : Nat) (ha : a ≤ 255) (hb : b ≤ 255) (hc : c ≤ 255) (hd : d ≤ 255) : ∃ K, v4 (MK (dotted a b c d)) K 0 0 0 0 [0, 0, 0, 0] = some [(a : Int), b, c, d] := by
  obtain ⟨pa, ya, ea, na⟩ := digits_last a ha
  obtain ⟨pb, yb, eb, nb⟩ := digits_last b hb
  obtain ⟨pc, yc, ec, nc⟩ := digits_last c hc
  have nd := digits_len d hd
  have ne : Lib.decDigits d ≠ [] := fun e => by rw [e] at nd; simp at nd
  refine ⟨(((((((1 + (Lib.decDigits d).length) + 1) + (Lib.decDigits c).length) + 1) + (Lib.decDigits b).length) + 1) + (Lib.decDigits a).length), ?_⟩
  generalize hl : dotted a b c d = l
  unfold dotted at hl
  have s1 : v4 (MK l) (((((((1 + (Lib.decDigits d).length) + 1) + (Lib.decDigits c).length) + 1) + (Lib.decDigits b).length) + 1) + (Lib.decDigits a).length) 0 0 0 0 [0, 0, 0, 0] = v4 (MK l) ((((((1 + (Lib.decDigits d).length) + 1) + (Lib.decDigits c).length) + 1) + (Lib.decDigits b).length) + 1) (([] ++ Lib.decDigits a).length : Int) a 0 (Lib.decDigits a).length [0, 0, 0, 0] :=
    v4_num (l := l) (pre := []) a ha (rest := [46] ++ Lib.decDigits b ++ [46] ++ Lib.decDigits c ++ [46] ++ Lib.decDigits d) (by rw [← hl]; simp) ((((((1 + (Lib.decDigits d).length) + 1) + (Lib.decDigits c).length) + 1) + (Lib.decDigits b).length) + 1) 0 [0, 0, 0, 0]
  rw [List.nil_append] at s1
  rw [s1]
  have s2 := v4_dot (l := l) (pre := pa) (y := ya) (rest := Lib.decDigits b ++ [46] ++ Lib.decDigits c ++ [46] ++ Lib.decDigits d) (by rw [← hl, ea]; simp) (by simp) na (((((1 + (Lib.decDigits d).length) + 1) + (Lib.decDigits c).length) + 1) + (Lib.decDigits b).length) a 0 (Lib.decDigits a).length [0, 0, 0, 0] (by decide)
  rw [← ea] at s2
  rw [s2]
  have s3 := v4_num (l := l) (pre := Lib.decDigits a ++ [46]) b hb (rest := [46] ++ Lib.decDigits c ++ [46] ++ Lib.decDigits d) (by rw [← hl]; simp) ((((1 + (Lib.decDigits d).length) + 1) + (Lib.decDigits c).length) + 1) (0 + 1) (([0, 0, 0, 0] : List Int).set (0 : Int).toNat (a : Int))
  rw [s3]
  have s4 := v4_dot (l := l) (pre := Lib.decDigits a ++ [46] ++ pb) (y := yb) (rest := Lib.decDigits c ++ [46] ++ Lib.decDigits d) (by rw [← hl, eb]; simp) (by simp) nb (((1 + (Lib.decDigits d).length) + 1) + (Lib.decDigits c).length) b (0 + 1) (Lib.decDigits b).length (([0, 0, 0, 0] : List Int).set (0 : Int).toNat (a : Int)) (by decide)
  rw [List.append_assoc (Lib.decDigits a ++ [46]), ← eb] at s4
  rw [s4]
  have s5 := v4_num (l := l) (pre := Lib.decDigits a ++ [46] ++ Lib.decDigits b ++ [46]) c hc (rest := [46] ++ Lib.decDigits d) (by rw [← hl]; simp) ((1 + (Lib.decDigits d).length) + 1) (0 + 1 + 1) ((([0, 0, 0, 0] : List Int).set (0 : Int).toNat (a : Int)).set ((0 : Int) + 1).toNat b)
  rw [s5]
  have s6 := v4_dot (l := l) (pre := Lib.decDigits a ++ [46] ++ Lib.decDigits b ++ [46] ++ pc) (y := yc) (rest := Lib.decDigits d) (by rw [← hl, ec]; simp) ne nc (1 + (Lib.decDigits d).length) c (0 + 1 + 1) (Lib.decDigits c).length ((([0, 0, 0, 0] : List Int).set (0 : Int).toNat (a : Int)).set ((0 : Int) + 1).toNat b) (by decide)
  rw [List.append_assoc (Lib.decDigits a ++ [46] ++ Lib.decDigits b ++ [46]), ← ec] at s6
  rw [s6]
  have s7 := v4_num (l := l) (pre := Lib.decDigits a ++ [46] ++ Lib.decDigits b ++ [46] ++ Lib.decDigits c ++ [46]) d hd (rest := []) (by rw [← hl]; simp) 1 (0 + 1 + 1 + 1) (((([0, 0, 0, 0] : List Int).set (0 : Int).toNat (a : Int)).set ((0 : Int) + 1).toNat b).set ((0 : Int) + 1 + 1).toNat c)
  rw [s7, hl]
  rw [v4_end 0 d (0 + 1 + 1 + 1) _ _ (by decide)]
  rfl
end Go.Proofs.YtnchgmjeoajmiaaGreatDoor

/-! Texte -/
namespace Go.Proofs.YtnchgmjeoajmiaaGreatDoor
open Go.RowKit Go.Proofs.YtnchgmjeoajmiaaGreatDoorW.PrintWords
set_option linter.unusedSimpArgs false
set_option linter.unusedVariables false

theorem itoa_nat {n : Int} (h : 0 ≤ n) : Lib.itoa n = Lib.decDigits n.toNat := by
  obtain ⟨m, rfl⟩ := Int.eq_ofNat_of_zero_le h
  exact Lib.itoa_nonneg m

/-- The text of four bytes. -/
def dots (a b c d : Int) : List UInt8 := dotted a.toNat b.toNat c.toNat d.toNat
theorem addrText_eq {a b c d : Int} (ha : Byte a) (hb : Byte b) (hc : Byte c) (hd : Byte d) : addrText a b c d = MK (dots a b c d) := by
  unfold addrText dots dotted
  rw [itoa_nat ha.1, itoa_nat hb.1, itoa_nat hc.1, itoa_nat hd.1]

theorem dots_bytes {a b c d : Int} (ha : Byte a) (hb : Byte b) (hc : Byte c) (hd : Byte d) : ∀ x ∈ dots a b c d, (48 ≤ x.toNat ∧ x.toNat ≤ 57) ∨ x.toNat = 46 := by
  intro x hx
  unfold Byte at ha hb hc hd
  unfold dots dotted at hx
  simp only [List.mem_append, List.mem_singleton] at hx
  rcases hx with (((((hx | hx) | hx) | hx) | hx) | hx) | hx
  · exact .inl (digits_dig _ (by omega) x hx)
  · subst hx; exact .inr rfl
  · exact .inl (digits_dig _ (by omega) x hx)
  · subst hx; exact .inr rfl
  · exact .inl (digits_dig _ (by omega) x hx)
  · subst hx; exact .inr rfl
  · exact .inl (digits_dig _ (by omega) x hx)

theorem dots_len {a b c d : Int} (ha : Byte a) (hb : Byte b) (hc : Byte c) (hd : Byte d) : 7 ≤ (dots a b c d).length ∧ (dots a b c d).length ≤ 15 := by
  unfold Byte at ha hb hc hd
  have l0 := digits_len a.toNat (by omega)
  have l1 := digits_len b.toNat (by omega)
  have l2 := digits_len c.toNat (by omega)
  have l3 := digits_len d.toNat (by omega)
  unfold dots dotted
  simp only [List.length_append, List.length_cons, List.length_nil]
  omega

theorem dots_four {a b c d : Int} (ha : Byte a) (hb : Byte b) (hc : Byte c) (hd : Byte d) : Four (MK (dots a b c d)) a b c d := by
  have hl := dots_len ha hb hc hd
  have hz : (MK (dots a b c d)).size = (dots a b c d).length := MK_size _
  refine ⟨by omega, ?_, ha, hb, hc, hd, ?_⟩
  · unfold Byte at ha hb hc hd
    obtain ⟨K, hK⟩ := v4_dotted a.toNat b.toNat c.toNat d.toNat (by omega) (by omega) (by omega) (by omega)
    refine ⟨K, ?_⟩
    unfold dots
    rw [hK]
    congr 1
    rw [Int.toNat_of_nonneg ha.1, Int.toNat_of_nonneg hb.1, Int.toNat_of_nonneg hc.1, Int.toNat_of_nonneg hd.1]
  · unfold Byte at ha
    have e : dots a b c d = Lib.decDigits a.toNat ++ 46 :: (Lib.decDigits b.toNat ++ [46] ++ Lib.decDigits c.toNat ++ [46] ++ Lib.decDigits d.toNat) := by unfold dots dotted; simp
    refine ⟨((Lib.decDigits a.toNat).length : Int), by omega, ?_, bt_mid e, fun i h0 h1 => ?_⟩
    · rw [hz, e]; simp; omega
    · obtain ⟨j, rfl⟩ : ∃ j : Nat, i = j := ⟨i.toNat, by omega⟩
      have hj : j < (Lib.decDigits a.toNat).length := by omega
      have hjl : j < (dots a b c d).length := by rw [e]; simp; omega
      have hd := digits_dig a.toNat (by omega) _ (List.getElem_mem hj)
      have hg : (dots a b c d)[j]'hjl = (Lib.decDigits a.toNat)[j]'hj := by
        simp only [e]
        rw [List.getElem_append_left hj]
      rw [bt_MK _ _ hjl, hg]
      omega

theorem No_of {c : Nat} {l : List UInt8} (h : ∀ x ∈ l, (48 ≤ x.toNat ∧ x.toNat ≤ 57) ∨ x.toNat = 46) (hc : ¬ (48 ≤ c ∧ c ≤ 57)) (hc' : c ≠ 46) : No c l := fun b hb => by
  have := h b hb
  omega
theorem No_dig {c : Nat} {l : List UInt8} (h : ∀ x ∈ l, 48 ≤ x.toNat ∧ x.toNat ≤ 57) (hc : ¬ (48 ≤ c ∧ c ≤ 57)) : No c l := fun b hb => by
  have := h b hb
  omega
theorem No_append {c : Nat} {a b : List UInt8} (ha : No c a) (hb : No c b) : No c (a ++ b) := fun x hx => (List.mem_append.1 hx).elim (ha x) (hb x)

theorem dtoi_one : ∀ i : Fin 10, P.netcidr_dtoi.f 20 (MK [UInt8.ofNat (48 + i.val)]) = some ((i.val : Int), 1, true) := by decide +kernel
theorem dtoi_two : ∀ i : Fin 100, 10 ≤ i.val → P.netcidr_dtoi.f 20 (MK [UInt8.ofNat (48 + i.val / 10), UInt8.ofNat (48 + i.val % 10)]) = some ((i.val : Int), 2, true) := by decide +kernel

theorem dtoi_digits {n : Int} (h0 : 0 ≤ n) (h1 : n ≤ 32) : ∃ k, P.netcidr_dtoi.f k (MK (Lib.decDigits n.toNat)) = some (n, ((MK (Lib.decDigits n.toNat)).size : Int), true) := by
  obtain ⟨m, rfl⟩ := Int.eq_ofNat_of_zero_le h0
  refine ⟨20, ?_⟩
  rw [Int.toNat_natCast]
  rcases Nat.lt_or_ge m 10 with h | h
  · rw [Lib.decDigits_one h]
    exact dtoi_one ⟨m, h⟩
  · rw [Lib.decDigits_two (by omega) (by omega)]
    exact dtoi_two ⟨m, by omega⟩ h
end Go.Proofs.YtnchgmjeoajmiaaGreatDoor

/-! Textf -/
namespace Go.Proofs.YtnchgmjeoajmiaaGreatDoor
open Go.RowKit Go.Proofs.YtnchgmjeoajmiaaGreatDoorW.PrintWords
set_option linter.unusedSimpArgs false
set_option linter.unusedVariables false

/-- A name of a host. -/
structure Nm (l : List UInt8) : Prop where
  len : l.length ≤ 100
  all : ∀ b ∈ l, (97 ≤ b.toNat ∧ b.toNat ≤ 122) ∨ (48 ≤ b.toNat ∧ b.toNat ≤ 57) ∨ b.toNat = 45 ∨ b.toNat = 46
  head : ∃ x t, l = x :: t ∧ 97 ≤ x.toNat ∧ x.toNat ≤ 122
/-- A port. -/
structure Pt (l : List UInt8) : Prop where
  one : 1 ≤ l.length
  five : l.length ≤ 5
  dig : ∀ b ∈ l, 48 ≤ b.toNat ∧ b.toNat ≤ 57
/-- A rule in its form. -/
structure Rk (r : P.S42) : Prop where
  port : BL r.f4 = [] ∨ Pt (BL r.f4)
  kind : r.f0 = 0 ∨ r.f0 = 1 ∨ r.f0 = 2 ∨ r.f0 = 3 ∨ r.f0 = 4
  name : r.f0 = 0 ∨ r.f0 = 1 → Nm (BL r.f1)
  addr : r.f0 = 2 ∨ r.f0 = 3 → IsAd r.f2
  bits : r.f0 = 3 → 0 ≤ r.f3 ∧ r.f3 ≤ 32

theorem Rk.small {r : P.S42} (h : Rk r) : Small r := by
  refine ⟨?_, ?_, h.addr, h.bits⟩
  · by_cases k : r.f0 = 0 ∨ r.f0 = 1
    · have := (h.name k).len
      rw [BL_size] at this
      exact .inl (by omega)
    · exact .inr k
  · rcases h.port with hp | hp
    · have := BL_size r.f4
      rw [hp] at this
      simp at this
      omega
    · have := hp.five
      rw [BL_size] at this
      omega

/-- The bytes of a host: none of the six that the code looks for. -/
structure HostL (h : List UInt8) : Prop where
  ne : h ≠ []
  len : h.length ≤ 200
  all : ∀ b ∈ h, 32 < b.toNat ∧ b.toNat < 128 ∧ b.toNat ≠ 58 ∧ b.toNat ≠ 91 ∧ b.toNat ≠ 93 ∧ b.toNat ≠ 47 ∧ b.toNat ≠ 37 ∧ b.toNat ≠ 42 ∧ ¬ (65 ≤ b.toNat ∧ b.toNat ≤ 90)

theorem Nm.ne {l : List UInt8} (h : Nm l) : l ≠ [] := by
  obtain ⟨x, t, rfl, _⟩ := h.head
  simp
theorem Nm.host {l : List UInt8} (h : Nm l) : HostL l := ⟨h.ne, by have := h.len; omega, fun b hb => by have := h.all b hb; omega⟩
theorem Nm.host_dot {l : List UInt8} (h : Nm l) : HostL ([46] ++ l) := ⟨by simp, by have := h.len; simp; omega, fun b hb => by
  rcases List.mem_append.1 hb with hb | hb
  · simp at hb; subst hb; decide
  · have := h.all b hb; omega⟩
theorem dots_host {a b c d : Int} (ha : Byte a) (hb : Byte b) (hc : Byte c) (hd : Byte d) : HostL (dots a b c d) := by
  have hl := dots_len ha hb hc hd
  refine ⟨fun e => by rw [e] at hl; simp at hl, by omega, fun x hx => ?_⟩
  have := dots_bytes ha hb hc hd x hx
  omega

theorem MK_first {h : List UInt8} {x : UInt8} {t : List UInt8} (e : h = x :: t) : bt (MK h) 0 = (x.toNat : Int) := by
  subst e
  have := bt_MK (x :: t) 0 (by simp)
  simpa using this

theorem HostL.first {h : List UInt8} (hh : HostL h) : bt (MK h) 0 ≠ 91 ∧ bt (MK h) 0 ≠ 42 := by
  cases h with
  | nil => exact absurd rfl hh.ne
  | cons x t =>
    rw [MK_first rfl]
    have := hh.all x List.mem_cons_self
    omega

theorem HostL.plain {h q port : List UInt8} (hh : HostL h) (hq : q = h ∨ (q = h ++ [58] ++ port ∧ Pt port)) : Plain (MK q) (MK h) (MK port) := by
  have hpos : 0 < h.length := List.length_pos_iff.2 hh.ne
  have hlen := hh.len
  have no47 : No 47 q := by
    rcases hq with rfl | ⟨rfl, hp⟩
    · exact fun b hb => by have := hh.all b hb; omega
    · refine No_append (No_append (fun b hb => by have := hh.all b hb; omega) (fun b hb => by simp at hb; subst hb; decide)) (fun b hb => by have := hp.dig b hb; omega)
  have hql : h.length ≤ q.length ∧ q.length ≤ 300 := by
    rcases hq with rfl | ⟨rfl, hp⟩
    · omega
    · have := hp.five
      simp
      omega
  refine ⟨by rw [MK_size]; omega, by rw [MK_size]; omega, by rw [MK_size]; omega, by rw [MK_size]; omega, ?_, hh.first.1, cut_none no47 (by omega)⟩
  rw [toList_MK]
  intro e
  cases h with
  | nil => exact absurd rfl hh.ne
  | cons x t =>
    have := hh.all x List.mem_cons_self
    rcases hq with rfl | ⟨rfl, hp⟩
    · injection e with e _
      subst e
      exact absurd rfl this.2.2.2.2.2.2.2.1
    · injection e with e _
      subst e
      exact absurd rfl this.2.2.2.2.2.2.2.1

theorem HostL.alone {h : List UInt8} (hh : HostL h) : Alone (MK h) (MK h) ⟨#[]⟩ :=
  ⟨hh.plain (port := []) (.inl rfl), lastIndex_none (c := 58) (fun b hb => by have := hh.all b hb; omega), rfl, rfl⟩
theorem Pt.no {p : List UInt8} (h : Pt p) (c : Nat) (hc : ¬ (48 ≤ c ∧ c ≤ 57)) : No c p := No_dig h.dig hc
theorem HostL.split {h port : List UInt8} (hh : HostL h) (hp : Pt port) : Splits (MK (h ++ [58] ++ port)) h.length ∧ (MK (h ++ [58] ++ port)).extract 0 h.length = MK h ∧ (MK (h ++ [58] ++ port)).extract (h.length + 1) (MK (h ++ [58] ++ port)).size = MK port :=
  splits_of hh.ne (fun b hb => by have := hh.all b hb; omega) (fun b hb => by have := hh.all b hb; omega) (fun b hb => by have := hh.all b hb; omega) (hp.no 58 (by decide)) (hp.no 91 (by decide)) (hp.no 93 (by decide)) (by have := hh.len; have := hp.five; omega)
theorem HostL.parts {h port : List UInt8} (hh : HostL h) (hp : Pt port) : Parts (MK (h ++ [58] ++ port)) (MK h) (MK port) :=
  ⟨hh.plain (.inr ⟨rfl, hp⟩), h.length, hh.split hp⟩

theorem ascii_of {l : List UInt8} (h : ∀ b ∈ l, b.toNat < 128) : Ascii (MK l) := fun i h0 h1 => by
  rw [MK_size] at h1
  obtain ⟨b, hb, e⟩ := bt_mem h0 h1
  rw [e]
  have := h b hb
  omega

theorem prefix_star {h : List UInt8} (hh : HostL h) : Lib.hasPrefix (MK h).data.toList [42, 46] = false := by
  cases h with
  | nil => rfl
  | cons x t =>
    have := hh.all x List.mem_cons_self
    have hx : (42 == x) = false := beq_eq_false_iff_ne.2 (fun e => by subst e; exact absurd rfl this.2.2.2.2.2.2.2.1)
    have hx' : (x == 42) = false := beq_eq_false_iff_ne.2 (fun e => by subst e; exact absurd rfl this.2.2.2.2.2.2.2.1)
    simp [Lib.hasPrefix, List.isPrefixOf, hx, hx']

theorem HostL.bare {h : List UInt8} (hh : HostL h) : ∀ i : Int, 0 ≤ i → i < (MK h).size → bt (MK h) i ≠ 58 ∧ bt (MK h) i ≠ 37 := fun i h0 h1 => by
  rw [MK_size] at h1
  obtain ⟨b, hb, e⟩ := bt_mem h0 h1
  rw [e]
  have := hh.all b hb
  omega

theorem Nm.nameHost {l : List UInt8} (h : Nm l) : NameHost (MK l) (MK ([46] ++ l)) true := by
  obtain ⟨x, t, e, h1, h2⟩ := h.head
  have hf := MK_first e
  have hh := h.host
  have hd := h.host_dot
  refine ⟨by rw [hf]; omega, hh.bare, prefix_star hh, ascii_of fun b hb => (hd.all b hb).2.1, by rw [MK_size]; have := hd.len; omega, .inl ⟨rfl, by rw [hf]; omega, (MK_append [46] l).symm⟩⟩
theorem Nm.dotHost {l : List UInt8} (h : Nm l) : NameHost (MK ([46] ++ l)) (MK ([46] ++ l)) false := by
  have hd := h.host_dot
  have hf : bt (MK ([46] ++ l)) 0 = 46 := MK_first (x := 46) (t := l) rfl
  exact ⟨by rw [hf]; omega, hd.bare, prefix_star hd, ascii_of fun b hb => (hd.all b hb).2.1, by rw [MK_size]; have := hd.len; omega, .inr ⟨rfl, hf, rfl⟩⟩

/-- What a rule does. -/
def eff (r : P.S42) : Eff :=
  if r.f0 = 0 then .dom (.dom (MK ([46] ++ BL r.f1)) r.f4 true) else if r.f0 = 1 then .dom (.dom (MK ([46] ++ BL r.f1)) r.f4 false)
  else if r.f0 = 2 then (match r.f2 with
    | [a, b, c, d] => .ip (.ip a b c d r.f4)
    | _ => .skip)
  else if r.f0 = 3 then (match r.f2, mask4 r.f3 with
    | [a, b, c, d], [m0, m1, m2, m3] => .ip (.net [bits .and .u8 a m0, bits .and .u8 b m1, bits .and .u8 c m2, bits .and .u8 d m3] [m0, m1, m2, m3])
    | _, _ => .skip)
  else .star

theorem wp_MK (h p : List UInt8) : wp (MK h) (MK p) = if p = [] then MK h else MK (h ++ [58] ++ p) := by
  unfold wp
  rw [toList_MK]
  split
  · rfl
  · rw [show (⟨#[58]⟩ : ByteArray) = MK [58] from rfl, MK_append, MK_append]

/-- Only lower letters, digits and signs: nothing for ToLower to do. -/
theorem does_of {r : P.S42} (h : Rk r) {s : ByteArray} (hit : Item s (ruleText r)) : Does s (eff r) := by
  have hp := h.port
  have e4 : r.f4 = MK (BL r.f4) := (MK_BL _).symm
  have e1 : r.f1 = MK (BL r.f1) := (MK_BL _).symm
  unfold ruleText at hit
  unfold eff
  by_cases k0 : r.f0 = 0
  · rw [if_pos k0] at hit ⊢
    have hn := h.name (.inl k0)
    rw [e4, e1, wp_MK] at hit
    rw [e4]
    rcases hp with hp | hp
    · rw [if_pos hp] at hit
      rw [hp]
      exact .nameBare hit hn.host.alone hn.nameHost
    · rw [if_neg (fun e => by have := hp.one; rw [e] at this; simp at this)] at hit
      exact .namePort hit (hn.host.parts hp) hn.nameHost
  rw [if_neg k0] at hit ⊢
  by_cases k1 : r.f0 = 1
  · rw [if_pos k1] at hit ⊢
    have hn := h.name (.inr k1)
    rw [e4, e1, show (⟨#[46]⟩ : ByteArray) = MK [46] from rfl, MK_append, wp_MK] at hit
    rw [e4]
    rcases hp with hp | hp
    · rw [if_pos hp] at hit
      rw [hp]
      exact .nameBare hit hn.host_dot.alone hn.dotHost
    · rw [if_neg (fun e => by have := hp.one; rw [e] at this; simp at this)] at hit
      exact .namePort hit (hn.host_dot.parts hp) hn.dotHost
  rw [if_neg k1] at hit ⊢
  by_cases k2 : r.f0 = 2
  · rw [if_pos k2] at hit ⊢
    obtain ⟨a, b, c, d, hl, ha, hb, hc, hd⟩ := h.addr (.inl k2)
    rw [hl] at hit ⊢
    simp only [addrOfL] at hit
    rw [e4, addrText_eq ha hb hc hd, wp_MK] at hit
    rw [e4]
    have hh := dots_host ha hb hc hd
    rcases hp with hp | hp
    · rw [if_pos hp] at hit
      rw [hp]
      exact .addrBare hit hh.alone (dots_four ha hb hc hd)
    · rw [if_neg (fun e => by have := hp.one; rw [e] at this; simp at this)] at hit
      exact .addrPort hit (hh.parts hp) (dots_four ha hb hc hd)
  rw [if_neg k2] at hit ⊢
  by_cases k3 : r.f0 = 3
  · rw [if_pos k3] at hit ⊢
    obtain ⟨a, b, c, d, hl, ha, hb, hc, hd⟩ := h.addr (.inr k3)
    obtain ⟨n0, n1⟩ := h.bits k3
    obtain ⟨m0, m1, m2, m3, hm⟩ := mask4_four r.f3
    rw [hl] at hit ⊢
    rw [hm]
    simp only [addrOfL] at hit
    have hh := dots_host ha hb hc hd
    have hlen := dots_len ha hb hc hd
    have hdl := digits_len r.f3.toNat (by omega)
    rw [addrText_eq ha hb hc hd, itoa_nat n0, show (⟨#[47]⟩ : ByteArray) = MK [47] from rfl, MK_append, MK_append] at hit
    obtain ⟨k, hk⟩ := cut_at (a := dots a b c d) (t := Lib.decDigits r.f3.toNat) (No_of (dots_bytes ha hb hc hd) (by decide) (by decide)) (by omega)
    obtain ⟨k', hk'⟩ := dtoi_digits n0 n1
    refine .net hit ⟨?_, ?_, ⟨k, k', _, _, hk, dots_four ha hb hc hd, hk'⟩, n0, n1, hm⟩
    · rw [MK_size]; simp; omega
    · rw [toList_MK]
      intro e
      have := congrArg List.length e
      simp at this
      omega
  rw [if_neg k3] at hit ⊢
  exact .star hit
end Go.Proofs.YtnchgmjeoajmiaaGreatDoor

/-! Textg -/
namespace Go.Proofs.YtnchgmjeoajmiaaGreatDoor
open Go.RowKit Go.Proofs.YtnchgmjeoajmiaaGreatDoorW.PrintWords
set_option linter.unusedSimpArgs false
set_option linter.unusedVariables false

/-- A byte of a rule's text: visible, no comma, no capital. -/
def RuleB (b : UInt8) : Prop := 32 < b.toNat ∧ b.toNat < 128 ∧ b.toNat ≠ 44 ∧ ¬ (65 ≤ b.toNat ∧ b.toNat ≤ 90)

theorem wp_bytes {h p : List UInt8} (hh : ∀ b ∈ h, RuleB b) (hp : ∀ b ∈ p, RuleB b) : ∀ b ∈ BL (wp (MK h) (MK p)), RuleB b := by
  intro b hb
  rw [wp_MK] at hb
  split at hb
  · exact hh b hb
  · rw [BL_MK] at hb
    rcases List.mem_append.1 hb with hb | hb
    · rcases List.mem_append.1 hb with hb | hb
      · exact hh b hb
      · simp at hb; subst hb; unfold RuleB; decide
    · exact hp b hb

theorem rule_bytes {r : P.S42} (h : Rk r) : ∀ b ∈ BL (ruleText r), RuleB b := by
  have e4 : r.f4 = MK (BL r.f4) := (MK_BL _).symm
  have e1 : r.f1 = MK (BL r.f1) := (MK_BL _).symm
  have hp : ∀ b ∈ BL r.f4, RuleB b := by
    intro b hb
    rcases h.port with hp | hp
    · rw [hp] at hb; cases hb
    · have := hp.dig b hb; unfold RuleB; omega
  have nm : ∀ l, Nm l → ∀ b ∈ l, RuleB b := fun l hn b hb => by have := hn.all b hb; unfold RuleB; omega
  have dt : ∀ a b c d, Byte a → Byte b → Byte c → Byte d → ∀ x ∈ dots a b c d, RuleB x := fun a b c d ha hb hc hd x hx => by have := dots_bytes ha hb hc hd x hx; unfold RuleB; omega
  unfold ruleText
  by_cases k0 : r.f0 = 0
  · rw [if_pos k0, e4, e1]
    exact wp_bytes (nm _ (h.name (.inl k0))) hp
  rw [if_neg k0]
  by_cases k1 : r.f0 = 1
  · rw [if_pos k1, e4, e1, show (⟨#[46]⟩ : ByteArray) = MK [46] from rfl, MK_append]
    refine wp_bytes (fun b hb => ?_) hp
    rcases List.mem_append.1 hb with hb | hb
    · simp at hb; subst hb; unfold RuleB; decide
    · exact nm _ (h.name (.inr k1)) b hb
  rw [if_neg k1]
  by_cases k2 : r.f0 = 2
  · obtain ⟨a, b, c, d, hl, ha, hb, hc, hd⟩ := h.addr (.inl k2)
    rw [if_pos k2, hl, e4]
    simp only [addrOfL]
    rw [addrText_eq ha hb hc hd]
    exact wp_bytes (dt a b c d ha hb hc hd) hp
  rw [if_neg k2]
  by_cases k3 : r.f0 = 3
  · obtain ⟨a, b, c, d, hl, ha, hb, hc, hd⟩ := h.addr (.inr k3)
    obtain ⟨n0, n1⟩ := h.bits k3
    rw [if_pos k3, hl]
    simp only [addrOfL]
    rw [addrText_eq ha hb hc hd, itoa_nat n0, show (⟨#[47]⟩ : ByteArray) = MK [47] from rfl, MK_append, MK_append]
    intro x hx
    rw [BL_MK] at hx
    rcases List.mem_append.1 hx with hx | hx
    · rcases List.mem_append.1 hx with hx | hx
      · exact dt a b c d ha hb hc hd x hx
      · simp at hx; subst hx; unfold RuleB; decide
    · have := digits_dig r.f3.toNat (by omega) x hx
      unfold RuleB
      omega
  rw [if_neg k3]
  intro b hb
  have : b = 42 := by simpa [BL] using hb
  subst this
  unfold RuleB
  decide

theorem joinL_len (sep : List UInt8) : ∀ (xs : List (List UInt8)) (m : Nat), (∀ x ∈ xs, x.length ≤ m) → (joinL sep xs).length ≤ xs.length * (m + sep.length)
  | [], m, _ => by simp [joinL]
  | x :: t, m, h => by
    have hx := h x List.mem_cons_self
    have : ∀ (t : List (List UInt8)), (∀ x ∈ t, x.length ≤ m) → ((t.map fun y => sep ++ y).flatten).length ≤ t.length * (m + sep.length) := by
      intro t ht
      induction t with
      | nil => simp
      | cons y t ih =>
        have := ht y List.mem_cons_self
        have := ih fun z hz => ht z (List.mem_cons_of_mem _ hz)
        simp only [List.map_cons, List.flatten_cons, List.length_append, List.length_cons, Nat.succ_mul]
        omega
    have := this t fun z hz => h z (List.mem_cons_of_mem _ hz)
    simp only [joinL, List.length_append, List.length_cons, Nat.succ_mul]
    omega

/-- A text of items between commas. -/
theorem listed_of (raws : List (List UInt8)) (effs : List Eff) (hne : raws ≠ []) (hno : ∀ x ∈ raws, No 44 x) (hlen : ∀ x ∈ raws, x.length ≤ 10000) (hn : raws.length ≤ 1000) (he : effs.length = raws.length)
    (hd : ∀ (j : Nat) x e, raws[j]? = some x → effs[j]? = some e → Does (MK x) e) : Listed (MK (joinL [44] raws)) effs := by
  have hl := joinL_len [44] raws 10000 hlen
  have hb : raws.length * (10000 + 1) ≤ 1000 * (10000 + 1) := Nat.mul_le_mul_right _ hn
  have hl : (joinL [44] raws).length ≤ raws.length * (10000 + 1) := hl
  refine ⟨(joinL [44] raws).length + raws.length + 2, raws.map MK, ?_, ?_, ?_, ?_, ?_⟩
  · have := zzSplit_join raws ((joinL [44] raws).length + raws.length + 2) [] hne hno (by omega) (by omega) (by simp; omega)
    rw [List.nil_append] at this
    exact this
  · rw [List.length_map]
    exact List.length_pos_iff.2 hne
  · rw [List.length_map]; omega
  · rw [List.length_map]; exact he
  · intro j s e hj hje
    rw [List.getElem?_map] at hj
    cases hr : raws[j]? with
    | none => rw [hr] at hj; cases hj
    | some x =>
      rw [hr] at hj
      injection hj with hj
      subst hj
      exact hd j x e hr hje

def Rks (rs : List P.S42) : Prop := rs.length ≤ 200 ∧ ∀ r ∈ rs, Rk r
/-- What a list of rules does. -/
def effsOf (rs : List P.S42) : List Eff := if rs = [] then [.skip] else rs.map eff

theorem ruleText_len {r : P.S42} (h : Rk r) : (BL (ruleText r)).length ≤ 2010 := by
  rw [BL_size]
  exact ruleText_size r h.small

/-- Items made of rules' texts: spaces about them, and letters that ToLower turns into the rule's. -/
theorem listed_rules (rs : List P.S42) (hr : Rks rs) (a b : List UInt8) (g : UInt8 → UInt8) (ha : Sps a) (hb : Sps b) (hal : a.length ≤ 10) (hbl : b.length ≤ 10)
    (hg : ∀ x, RuleB x → 32 < (g x).toNat ∧ (g x).toNat < 128 ∧ (g x).toNat ≠ 44 ∧ Lib.lowerB (g x) = x) :
    Listed (MK (if rs = [] then a ++ b else joinL [44] (rs.map fun r => a ++ (BL (ruleText r)).map g ++ b))) (effsOf rs) := by
  have nosp : ∀ l, Sps l → No 44 l := fun l hl x hx => by rw [hl x hx]; decide
  unfold effsOf
  by_cases h0 : rs = []
  · rw [if_pos h0, if_pos h0]
    have : a ++ b = joinL [44] [a ++ b] := by simp [joinL]
    rw [this]
    refine listed_of [a ++ b] [.skip] (by simp) (fun x hx => ?_) (fun x hx => ?_) (by simp) rfl (fun j x e hj he => ?_)
    · simp at hx; subst hx; exact No_append (nosp a ha) (nosp b hb)
    · simp at hx; subst hx; simp; omega
    · match j, hj, he with
      | 0, hj, he =>
        simp only [List.getElem?_cons_zero, Option.some.injEq] at hj he
        subst hj he
        have := item_of (a := a) (q := []) (b := b) ha hb (fun x hx => by cases hx) (by simp; omega)
        rw [List.append_nil] at this
        exact .blank this
  · rw [if_neg h0, if_neg h0]
    have hq : ∀ r ∈ rs, Vis ((BL (ruleText r)).map g) ∧ No 44 ((BL (ruleText r)).map g) ∧ ((BL (ruleText r)).map g).map Lib.lowerB = BL (ruleText r) := fun r hrm => by
      have hbytes := rule_bytes (hr.2 r hrm)
      refine ⟨fun x hx => ?_, fun x hx => ?_, ?_⟩
      · obtain ⟨y, hy, rfl⟩ := List.mem_map.1 hx
        have := hg y (hbytes y hy)
        exact ⟨this.1, this.2.1⟩
      · obtain ⟨y, hy, rfl⟩ := List.mem_map.1 hx
        exact (hg y (hbytes y hy)).2.2.1
      · rw [List.map_map]
        conv => rhs; rw [← List.map_id (BL (ruleText r))]
        exact List.map_congr_left fun y hy => (hg y (hbytes y hy)).2.2.2
    refine listed_of _ _ (by simpa using h0) (fun x hx => ?_) (fun x hx => ?_) (by rw [List.length_map]; exact Nat.le_trans hr.1 (by decide)) (by simp) (fun j x e hj he => ?_)
    · obtain ⟨r, hrm, rfl⟩ := List.mem_map.1 hx
      exact No_append (No_append (nosp a ha) (hq r hrm).2.1) (nosp b hb)
    · obtain ⟨r, hrm, rfl⟩ := List.mem_map.1 hx
      have := ruleText_len (hr.2 r hrm)
      simp only [List.length_append, List.length_map]
      omega
    · rw [List.getElem?_map] at hj he
      cases hrj : rs[j]? with
      | none => rw [hrj] at hj; cases hj
      | some r =>
        rw [hrj] at hj he
        injection hj with hj
        injection he with he
        subst hj he
        have hrm := List.mem_of_getElem? hrj
        refine does_of (hr.2 r hrm) ?_
        have hlen := ruleText_len (hr.2 r hrm)
        have := item_of (a := a) (q := (BL (ruleText r)).map g) (b := b) ha hb (hq r hrm).1 (by simp only [List.length_append, List.length_map]; omega)
        rw [(hq r hrm).2.2, MK_BL] at this
        exact this

/-- The plain list. -/
theorem listed_plain (rs : List P.S42) (hr : Rks rs) : Listed (joinB ⟨#[44]⟩ (rs.map ruleText)) (effsOf rs) := by
  have := listed_rules rs hr [] [] id (fun x hx => by cases hx) (fun x hx => by cases hx) (by simp) (by simp) (fun x hx => ⟨hx.1, hx.2.1, hx.2.2.1, by
    have := lower_map (q := [x]) (fun b hb => by simp at hb; subst hb; exact hx.2.2.2)
    simpa using this⟩)
  have e : joinB ⟨#[44]⟩ (rs.map ruleText) = MK (if rs = [] then [] ++ [] else joinL [44] (rs.map fun r => [] ++ (BL (ruleText r)).map id ++ [])) := by
    unfold joinB
    split
    · rename_i h; subst h; rfl
    · simp [BL, Function.comp_def]
  rw [e]
  exact this
end Go.Proofs.YtnchgmjeoajmiaaGreatDoor

/-! Texth -/
namespace Go.Proofs.YtnchgmjeoajmiaaGreatDoor
open Go.RowKit Go.Proofs.YtnchgmjeoajmiaaGreatDoorW.PrintWords
set_option linter.unusedSimpArgs false
set_option linter.unusedVariables false

def isStar : Eff → Bool
  | .star => true
  | _ => false
def domF (f : Mt → Bool) : Eff → Bool
  | .dom m => f m
  | _ => false
def ipF (f : Mt → Bool) : Eff → Bool
  | .ip m => f m
  | _ => false

theorem lists_any (f : Mt → Bool) (hf : f .all = true) : ∀ (effs : List Eff) (i d : List Mt), (lists effs i d).1.any f = (effs.any isStar || (i.any f || effs.any (ipF f))) ∧ (lists effs i d).2.any f = (effs.any isStar || (d.any f || effs.any (domF f)))
  | [], i, d => by simp [lists]
  | .skip :: r, i, d => by
    have := lists_any f hf r i d
    simp only [lists, List.any_cons, isStar, domF, ipF, Bool.false_or]
    exact this
  | .star :: r, i, d => by simp [lists, isStar, hf]
  | .ip m :: r, i, d => by
    have := lists_any f hf r (i ++ [m]) d
    simp only [lists, List.any_cons, isStar, domF, ipF, Bool.false_or, List.any_append, List.any_nil, Bool.or_false] at this ⊢
    rw [this.1, this.2]
    exact ⟨by ac_rfl, rfl⟩
  | .dom m :: r, i, d => by
    have := lists_any f hf r i (d ++ [m])
    simp only [lists, List.any_cons, isStar, domF, ipF, Bool.false_or, List.any_append, List.any_nil, Bool.or_false] at this ⊢
    rw [this.1, this.2]
    exact ⟨rfl, by ac_rfl⟩

/-- What a rule says of a name. -/
def sayN (h p : ByteArray) (e : Eff) : Bool := isStar e || domF (mok h p none) e
theorem any_names (effs : List Eff) (h p : ByteArray) : (lists effs [] []).2.any (mok h p none) = effs.any (sayN h p) := by
  rw [(lists_any (mok h p none) rfl effs [] []).2]
  simp only [List.any_nil, Bool.false_or]
  induction effs with
  | nil => rfl
  | cons e t ih =>
    simp only [List.any_cons, sayN]
    rw [← ih]
    ac_rfl
/-- What a rule says of an address. -/
def sayA (h p : ByteArray) (x : Int × Int × Int × Int) (e : Eff) : Bool := isStar e || ipF (mok h p (some x)) e
theorem any_addrs (effs : List Eff) (h p : ByteArray) (x : Int × Int × Int × Int) (hd : ∀ e ∈ effs, domF (mok h p (some x)) e = false) : ((lists effs [] []).1.any (mok h p (some x)) || (lists effs [] []).2.any (mok h p (some x))) = effs.any (sayA h p x) := by
  rw [(lists_any (mok h p (some x)) rfl effs [] []).1, (lists_any (mok h p (some x)) rfl effs [] []).2]
  have e0 : effs.any (domF (mok h p (some x))) = false := by
    rw [List.any_eq_false]
    intro e he
    simp [hd e he]
  rw [e0]
  simp only [List.any_nil, Bool.false_or, Bool.or_false]
  have : ∀ effs : List Eff, (effs.any isStar || effs.any (ipF (mok h p (some x)))) = effs.any (sayA h p x) := by
    intro effs
    induction effs with
    | nil => rfl
    | cons e t ih =>
      simp only [List.any_cons, sayA]
      rw [← ih]
      ac_rfl
  rw [← this effs]
  cases effs.any isStar <;> simp

theorem suffix_iff {l p : List UInt8} : Lib.hasSuffix l p = true ↔ ∃ t, l = t ++ p := by
  unfold Lib.hasSuffix
  rw [List.isSuffixOf_iff_suffix]
  exact ⟨fun ⟨t, h⟩ => ⟨t, h.symm⟩, fun ⟨t, h⟩ => ⟨t, h.symm⟩⟩

theorem isBelow_eq (a b : ByteArray) (ha : a.size ≤ 1000000) (hb : b.size ≤ 1000000) : P.spec_IsBelow.f a b = some (Lib.hasSuffix (BL a) (46 :: BL b)) := by
  have sa := BL_size a
  have sb := BL_size b
  have w1 : wrap64 ((a.size : Int) - (b.size : Int)) = (a.size : Int) - b.size := by unfold wrap64; omega
  have w2 : wrap64 ((a.size : Int) - (b.size : Int) - 1) = (a.size : Int) - b.size - 1 := by unfold wrap64; omega
  unfold P.spec_IsBelow.f
  rw [w1, w2]
  by_cases c1 : (a.size : Int) - b.size ≥ 1
  · rw [if_pos c1, if_pos (by omega), if_pos (by omega)]
    have en : ((a.size : Int) - b.size).toNat = a.size - b.size := by omega
    have ex : (a.extract ((a.size : Int) - b.size).toNat a.size).toList = (BL a).drop (a.size - b.size) := by
      rw [toList_BL, BL_extract, en, List.extract_eq_take_drop, List.take_of_length_le]
      rw [List.length_drop, sa]
      omega
    rw [ex, toList_BL]
    by_cases c2 : (BL a).drop (a.size - b.size) = BL b
    · rw [if_pos c2, if_pos (by omega), if_pos (by omega)]
      congr 1
      have hj : (a.size : Int) - b.size - 1 = ((a.size - b.size - 1 : Nat) : Int) := by omega
      have hlt : a.size - b.size - 1 < (BL a).length := by omega
      rw [hj, bt_BL, bt_MK _ _ hlt]
      have hsplit : BL a = (BL a).take (a.size - b.size - 1) ++ (BL a)[a.size - b.size - 1]'hlt :: BL b := by
        conv => lhs; rw [← List.take_append_drop (a.size - b.size - 1) (BL a)]
        congr 1
        rw [List.drop_eq_getElem_cons hlt, show a.size - b.size - 1 + 1 = a.size - b.size by omega, c2]
      by_cases c3 : (BL a)[a.size - b.size - 1]'hlt = 46
      · rw [c3]
        have : Lib.hasSuffix (BL a) (46 :: BL b) = true := suffix_iff.2 ⟨_, by rw [c3] at hsplit; exact hsplit⟩
        rw [this]
        rfl
      · have e1 : ((((BL a)[a.size - b.size - 1]'hlt).toNat : Int) == 46) = false := by
          rw [beq_eq_false_iff_ne]
          intro e
          apply c3
          have : ((BL a)[a.size - b.size - 1]'hlt).toNat = 46 := by omega
          exact UInt8.toNat.inj (by rw [this]; rfl)
        rw [e1]
        symm
        rw [Bool.eq_false_iff]
        intro h
        obtain ⟨t, ht⟩ := suffix_iff.1 h
        have hlen := congrArg List.length ht
        simp only [List.length_append, List.length_cons] at hlen
        apply c3
        have : ∀ (l : List UInt8) (h : a.size - b.size - 1 < l.length), l = t ++ 46 :: BL b → l[a.size - b.size - 1]'h = 46 := by
          intro l h e
          subst e
          rw [List.getElem_append_right (by omega)]
          have : a.size - b.size - 1 - t.length = 0 := by omega
          simp [this]
        exact this _ hlt ht
    · rw [if_neg c2]
      congr 1
      symm
      rw [Bool.eq_false_iff]
      intro h
      obtain ⟨t, ht⟩ := suffix_iff.1 h
      have hlen := congrArg List.length ht
      simp only [List.length_append, List.length_cons] at hlen
      apply c2
      rw [ht, show a.size - b.size = (t ++ [46]).length by simp; omega, show t ++ 46 :: BL b = (t ++ [46]) ++ BL b by simp, List.drop_left]
  · rw [if_neg c1]
    congr 1
    symm
    rw [Bool.eq_false_iff]
    intro h
    obtain ⟨t, ht⟩ := suffix_iff.1 h
    have hlen := congrArg List.length ht
    simp only [List.length_append, List.length_cons] at hlen
    omega

theorem domOk_eq (nm port h p : ByteArray) (mh : Bool) : domOk (MK ([46] ++ BL nm)) port mh h p = ((Lib.hasSuffix (BL h) (46 :: BL nm) || (mh && BL h == BL nm)) && portOk port p) := by
  unfold domOk
  congr 2
  congr 1
  rw [toList_BL, toList_BL, BL_extract, BL_MK, MK_size, List.extract_eq_take_drop]
  congr 1
  show List.take (([46] ++ BL nm).length - 1) (BL nm) = BL nm
  rw [List.take_of_length_le]
  simp

theorem empty_iff (s : ByteArray) : s.toList.isEmpty = decide (s.toList = ([] : List UInt8)) := by
  cases s.toList <;> simp

theorem matches_eq (r : P.S42) (h : Rk r) (nm p : ByteArray) (hn : nm.size ≤ 1000) : P.spec_MatchesName.f r.f0 r.f1 r.f2 r.f3 r.f4 nm p = some (sayN nm p (eff r)) := by
  have hp : (if r.f4.toList = ([] : List UInt8) then some true else some (r.f4.toList == p.toList)) = some (portOk r.f4 p) := by
    unfold portOk
    rw [empty_iff]
    split
    · rename_i h; simp [h]
    · rename_i h; simp [h]
  have hs : r.f0 = 0 ∨ r.f0 = 1 → r.f1.size ≤ 1000 := fun k => by
    have := (h.name k).len
    rw [BL_size] at this
    omega
  unfold P.spec_MatchesName.f eff
  by_cases k0 : r.f0 = 0
  · rw [if_pos k0, if_pos k0, isBelow_eq nm r.f1 (by omega) (by have := hs (.inl k0); omega), hp]
    simp only [Option.bind_some, sayN, isStar, domF, mok, Bool.false_or]
    rw [domOk_eq, toList_BL, toList_BL]
    by_cases e : BL nm = BL r.f1
    · rw [if_pos e, e]; simp
    · rw [if_neg e]
      have : (BL nm == BL r.f1) = false := beq_eq_false_iff_ne.2 e
      rw [this]
      cases Lib.hasSuffix (BL nm) (46 :: BL r.f1) <;> simp
  rw [if_neg k0, if_neg k0]
  by_cases k1 : r.f0 = 1
  · rw [if_pos k1, if_pos k1, isBelow_eq nm r.f1 (by omega) (by have := hs (.inr k1); omega), hp]
    simp only [Option.bind_some, sayN, isStar, domF, mok, Bool.false_or]
    rw [domOk_eq]
    cases Lib.hasSuffix (BL nm) (46 :: BL r.f1) <;> simp
  rw [if_neg k1, if_neg k1]
  by_cases k2 : r.f0 = 2
  · obtain ⟨a, b, c, d, hl, _⟩ := h.addr (.inl k2)
    rw [if_pos k2, hl, k2]
    rfl
  rw [if_neg k2]
  by_cases k3 : r.f0 = 3
  · obtain ⟨a, b, c, d, hl, _⟩ := h.addr (.inr k3)
    obtain ⟨m0, m1, m2, m3, hm⟩ := mask4_four r.f3
    rw [if_pos k3, hl, hm, k3]
    rfl
  rw [if_neg k3]
  have k4 : r.f0 = 4 := by rcases h.kind with k | k | k | k | k <;> first | exact absurd k (by assumption) | exact k
  rw [k4]
  rfl

theorem anyName_l (rs : List P.S42) (h : Rks rs) (nm p : ByteArray) (hn : nm.size ≤ 1000) : ∀ (d k : Nat) (i : Nat), rs.length = i + d → d < k →
    P.spec_AnyName.l0 k nm p rs (rs.length : Int) (i : Int) = some ((rs.drop i).any fun r => sayN nm p (eff r)) := by
  intro d
  induction d with
  | zero =>
    intro k i hi hk
    obtain ⟨k, rfl⟩ : ∃ m, k = m + 1 := ⟨k - 1, by omega⟩
    simp only [P.spec_AnyName.l0]
    rw [if_neg (by omega), List.drop_of_length_le (by omega)]
    rfl
  | succ d ih =>
    intro k i hi hk
    obtain ⟨k, rfl⟩ : ∃ m, k = m + 1 := ⟨k - 1, by omega⟩
    have hlt : i < rs.length := by omega
    have hr := h.1
    have e : P.rd_T42 rs (i : Int) = rs[i]'hlt := by simp [P.rd_T42, hlt]
    have ew : wrap64 ((i : Int) + 1) = ((i + 1 : Nat) : Int) := by unfold wrap64; omega
    simp only [P.spec_AnyName.l0]
    rw [if_pos (by omega), if_pos (by omega), if_pos (by omega), e, matches_eq _ (h.2 _ (List.getElem_mem hlt)) nm p hn, ew]
    simp only [Option.bind_some]
    rw [List.drop_eq_getElem_cons hlt, List.any_cons]
    cases sayN nm p (eff (rs[i]'hlt)) with
    | true => rfl
    | false =>
      rw [if_neg (by decide), ih k (i + 1) (by omega) (by omega)]
      rfl

theorem anyName_eq (rs : List P.S42) (h : Rks rs) (nm p : ByteArray) (hn : nm.size ≤ 1000) : ∃ k, P.spec_AnyName.f k rs nm p = some ((lists (effsOf rs) [] []).2.any (mok nm p none)) := by
  refine ⟨rs.length + 1, ?_⟩
  have := anyName_l rs h nm p hn rs.length (rs.length + 1) 0 (by omega) (by omega)
  unfold P.spec_AnyName.f
  rw [show (0 : Int) = ((0 : Nat) : Int) from rfl, this, any_names, List.drop_zero]
  unfold effsOf
  split
  · rename_i e; subst e; rfl
  · rw [List.any_map]; rfl
end Go.Proofs.YtnchgmjeoajmiaaGreatDoor

/-! Texti -/
namespace Go.Proofs.YtnchgmjeoajmiaaGreatDoor
open Go.RowKit Go.Proofs.YtnchgmjeoajmiaaGreatDoorW.PrintWords
set_option linter.unusedSimpArgs false
set_option linter.unusedVariables false

/-- With enough fuel. -/
def Ev {α : Type} (f : Nat → Option α) (b : α) : Prop := ∃ K, ∀ k, K ≤ k → f k = some b
theorem Ev.at {α : Type} {f : Nat → Option α} {b : α} (h : Ev f b) : ∃ k, f k = some b := let ⟨K, hK⟩ := h; ⟨K, hK K (Nat.le_refl _)⟩

theorem isLower_f (b : UInt8) : P.spec_isLower.f (b.toNat : Int) = some (decide (97 ≤ b.toNat ∧ b.toNat ≤ 122)) := by
  unfold P.spec_isLower.f
  by_cases h : 97 ≤ b.toNat
  · rw [if_pos (by omega)]
    congr 1
    by_cases h2 : b.toNat ≤ 122
    · rw [decide_eq_true (show (b.toNat : Int) ≤ 122 by omega), decide_eq_true ⟨h, h2⟩]
    · rw [decide_eq_false (show ¬ (b.toNat : Int) ≤ 122 by omega), decide_eq_false (fun e => h2 e.2)]
  · rw [if_neg (by omega), decide_eq_false (fun e => h e.1)]
theorem isDigit_f (b : UInt8) : P.spec_isDigit.f (b.toNat : Int) = some (decide (48 ≤ b.toNat ∧ b.toNat ≤ 57)) := by
  unfold P.spec_isDigit.f
  by_cases h : 48 ≤ b.toNat
  · rw [if_pos (by omega)]
    congr 1
    by_cases h2 : b.toNat ≤ 57
    · rw [decide_eq_true (show (b.toNat : Int) ≤ 57 by omega), decide_eq_true ⟨h, h2⟩]
    · rw [decide_eq_false (show ¬ (b.toNat : Int) ≤ 57 by omega), decide_eq_false (fun e => h2 e.2)]
  · rw [if_neg (by omega), decide_eq_false (fun e => h e.1)]

/-- The test of a name, over bytes. -/
def nameGo : Bool → List UInt8 → Bool
  | first, [] => !first
  | first, b :: t => if 97 ≤ b.toNat ∧ b.toNat ≤ 122 then nameGo false t else if first = true then false else if b.toNat = 46 then nameGo true t else if 48 ≤ b.toNat ∧ b.toNat ≤ 57 then nameGo first t else if b.toNat = 45 then nameGo first t else false

theorem isName_l (l : List UInt8) (hl : l.length ≤ 2147483647) : ∀ (d k i : Nat) (first : Bool), l.length = i + d → d < k →
    P.spec_IsName.l0 k (MK l) first (l.length : Int) (i : Int) = some (nameGo first (l.drop i) && decide (l.length ≤ 100)) := by
  intro d
  have hz : ((MK l).size : Int) = l.length := by rw [MK_size]
  induction d with
  | zero =>
    intro k i first hi hk
    obtain ⟨k, rfl⟩ : ∃ m, k = m + 1 := ⟨k - 1, by omega⟩
    simp only [P.spec_IsName.l0]
    rw [if_neg (by omega), List.drop_of_length_le (by omega), hz]
    cases first with
    | true => rfl
    | false =>
      simp only [nameGo]
      rw [if_neg (by decide)]
      congr 1
      simp
      omega
  | succ d ih =>
    intro k i first hi hk
    obtain ⟨k, rfl⟩ : ∃ m, k = m + 1 := ⟨k - 1, by omega⟩
    have hlt : i < l.length := by omega
    have ew : wrap64 ((i : Int) + 1) = ((i + 1 : Nat) : Int) := by unfold wrap64; omega
    simp only [P.spec_IsName.l0]
    rw [if_pos (by omega), if_pos (by omega), hz, if_pos (by omega), bt_MK l i hlt, isLower_f, isDigit_f, ew]
    rw [List.drop_eq_getElem_cons hlt]
    have n := fun f => ih k (i + 1) f (by omega) (by omega)
    simp only [Option.bind_some, decide_eq_true_eq, nameGo, n]
    generalize l[i]'hlt = b
    by_cases c1 : 97 ≤ b.toNat ∧ b.toNat ≤ 122
    · rw [if_pos c1, if_pos c1]
    rw [if_neg c1, if_neg c1]
    cases first with
    | true => rfl
    | false =>
      rw [if_neg (show ¬ (false = true) by decide), if_neg (show ¬ (false = true) by decide)]
      by_cases c2 : b.toNat = 46
      · rw [if_pos (by omega), if_pos c2]
      rw [if_neg (by omega), if_neg c2]
      by_cases c3 : 48 ≤ b.toNat ∧ b.toNat ≤ 57
      · rw [if_pos c3, if_pos c3]
      rw [if_neg c3, if_neg c3]
      by_cases c4 : b.toNat = 45
      · rw [if_pos (by omega), if_pos c4]
      · rw [if_neg (by omega), if_neg c4]; rfl

theorem nameGo_all : ∀ (l : List UInt8) (first : Bool), nameGo first l = true → ∀ b ∈ l, (97 ≤ b.toNat ∧ b.toNat ≤ 122) ∨ (48 ≤ b.toNat ∧ b.toNat ≤ 57) ∨ b.toNat = 45 ∨ b.toNat = 46
  | [], _, _, b, hb => by cases hb
  | x :: t, first, h, b, hb => by
    unfold nameGo at h
    by_cases c1 : 97 ≤ x.toNat ∧ x.toNat ≤ 122
    · rw [if_pos c1] at h
      rcases List.mem_cons.1 hb with rfl | hb
      · exact .inl c1
      · exact nameGo_all t _ h b hb
    rw [if_neg c1] at h
    cases first with
    | true => cases h
    | false =>
      rw [if_neg (by decide)] at h
      by_cases c2 : x.toNat = 46
      · rw [if_pos c2] at h
        rcases List.mem_cons.1 hb with rfl | hb
        · exact .inr (.inr (.inr c2))
        · exact nameGo_all t _ h b hb
      rw [if_neg c2] at h
      by_cases c3 : 48 ≤ x.toNat ∧ x.toNat ≤ 57
      · rw [if_pos c3] at h
        rcases List.mem_cons.1 hb with rfl | hb
        · exact .inr (.inl c3)
        · exact nameGo_all t _ h b hb
      rw [if_neg c3] at h
      by_cases c4 : x.toNat = 45
      · rw [if_pos c4] at h
        rcases List.mem_cons.1 hb with rfl | hb
        · exact .inr (.inr (.inl c4))
        · exact nameGo_all t _ h b hb
      · rw [if_neg c4] at h; cases h

theorem nameGo_nm {l : List UInt8} (h : (nameGo true l && decide (l.length ≤ 100)) = true) : Nm l := by
  rw [Bool.and_eq_true] at h
  obtain ⟨h1, h2⟩ := h
  refine ⟨of_decide_eq_true h2, nameGo_all l true h1, ?_⟩
  cases l with
  | nil => cases h1
  | cons x t =>
    unfold nameGo at h1
    by_cases c1 : 97 ≤ x.toNat ∧ x.toNat ≤ 122
    · exact ⟨x, t, rfl, c1⟩
    · rw [if_neg c1, if_pos rfl] at h1
      cases h1

theorem isName_ev (s : ByteArray) (hs : s.size ≤ 2147483647) : ∃ b, Ev (fun k => P.spec_IsName.f k s) b ∧ (b = true → Nm (BL s)) := by
  refine ⟨nameGo true (BL s) && decide ((BL s).length ≤ 100), ⟨(BL s).length + 1, fun k hk => ?_⟩, nameGo_nm⟩
  have := isName_l (BL s) (by rw [BL_size]; omega) (BL s).length k 0 true (by omega) (by omega)
  rw [MK_BL, BL_size] at this
  exact this

/-- The test of a port, over bytes. -/
def portEnd (l : List UInt8) : Bool := decide (1 ≤ l.length) && (decide (l.length ≤ 5) && (bt (MK l) 0 != 48))
theorem isPort_l (l : List UInt8) (hl : l.length ≤ 2147483647) : ∀ (d k i : Nat), l.length = i + d → d < k →
    P.spec_IsPort.l0 k (MK l) (l.length : Int) (i : Int) = some ((l.drop i).all (fun b => decide (48 ≤ b.toNat ∧ b.toNat ≤ 57)) && portEnd l) := by
  intro d
  have hz : ((MK l).size : Int) = l.length := by rw [MK_size]
  induction d with
  | zero =>
    intro k i hi hk
    obtain ⟨k, rfl⟩ : ∃ m, k = m + 1 := ⟨k - 1, by omega⟩
    simp only [P.spec_IsPort.l0]
    rw [if_neg (by omega), List.drop_of_length_le (by omega), hz]
    simp only [List.all_nil, Bool.true_and, portEnd]
    by_cases c1 : 1 ≤ l.length
    · rw [if_pos (by omega), decide_eq_true c1]
      by_cases c2 : l.length ≤ 5
      · rw [if_pos (by omega), if_pos (by omega), decide_eq_true c2]
        rfl
      · rw [if_neg (by omega), decide_eq_false c2]; rfl
    · rw [if_neg (by omega), decide_eq_false c1]; rfl
  | succ d ih =>
    intro k i hi hk
    obtain ⟨k, rfl⟩ : ∃ m, k = m + 1 := ⟨k - 1, by omega⟩
    have hlt : i < l.length := by omega
    have ew : wrap64 ((i : Int) + 1) = ((i + 1 : Nat) : Int) := by unfold wrap64; omega
    simp only [P.spec_IsPort.l0]
    rw [if_pos (by omega), if_pos (by omega), hz, if_pos (by omega), bt_MK l i hlt, isDigit_f, ew, List.drop_eq_getElem_cons hlt]
    simp only [Option.bind_some, decide_eq_true_eq, List.all_cons, ih k (i + 1) (by omega) (by omega)]
    by_cases c1 : 48 ≤ (l[i]'hlt).toNat ∧ (l[i]'hlt).toNat ≤ 57
    · rw [if_pos c1, decide_eq_true c1]; rfl
    · rw [if_neg c1, decide_eq_false c1]; rfl

theorem isPort_ev (s : ByteArray) (hs : s.size ≤ 2147483647) : ∃ b, Ev (fun k => P.spec_IsPort.f k s) b ∧ (b = true → Pt (BL s)) := by
  refine ⟨(BL s).all (fun b => decide (48 ≤ b.toNat ∧ b.toNat ≤ 57)) && portEnd (BL s), ⟨(BL s).length + 1, fun k hk => ?_⟩, fun h => ?_⟩
  · have := isPort_l (BL s) (by rw [BL_size]; omega) (BL s).length k 0 (by omega) (by omega)
    rw [MK_BL, BL_size] at this
    exact this
  · rw [Bool.and_eq_true, List.all_eq_true] at h
    unfold portEnd at h
    rw [Bool.and_eq_true, Bool.and_eq_true] at h
    exact ⟨of_decide_eq_true h.2.1, of_decide_eq_true h.2.2.1, fun b hb => of_decide_eq_true (h.1 b hb)⟩

theorem isAddr_l (l : List Int) (hl : l.length ≤ 2147483647) : ∀ (d k i : Nat), l.length = i + d → d < k →
    P.spec_IsAddress.l0 k l l (l.length : Int) (i : Int) = some ((l.drop i).all (fun n => decide (0 ≤ n ∧ n ≤ 255)) && ((l.length : Int) == 4)) := by
  intro d
  induction d with
  | zero =>
    intro k i hi hk
    obtain ⟨k, rfl⟩ : ∃ m, k = m + 1 := ⟨k - 1, by omega⟩
    simp only [P.spec_IsAddress.l0]
    rw [if_neg (by omega), List.drop_of_length_le (by omega)]
    simp
  | succ d ih =>
    intro k i hi hk
    obtain ⟨k, rfl⟩ : ∃ m, k = m + 1 := ⟨k - 1, by omega⟩
    have hlt : i < l.length := by omega
    have ew : wrap64 ((i : Int) + 1) = ((i + 1 : Nat) : Int) := by unfold wrap64; omega
    have er : rd l (i : Int) = l[i]'hlt := by simp [rd, hlt]
    simp only [P.spec_IsAddress.l0]
    rw [if_pos (by omega), if_pos (by omega), if_pos (by omega), er, ew, List.drop_eq_getElem_cons hlt]
    simp only [List.all_cons, ih k (i + 1) (by omega) (by omega)]
    generalize l[i]'hlt = n
    by_cases c1 : n < 0
    · rw [if_pos c1, decide_eq_false (by omega)]; rfl
    rw [if_neg c1]
    by_cases c2 : n > 255
    · rw [if_pos c2, decide_eq_false (by omega)]; rfl
    · rw [if_neg c2, decide_eq_true (by omega)]; rfl

theorem isAddr_ev (l : List Int) (hl : l.length ≤ 2147483647) : ∃ b, Ev (fun k => P.spec_IsAddress.f k l) b ∧ (b = true → IsAd l) := by
  refine ⟨l.all (fun n => decide (0 ≤ n ∧ n ≤ 255)) && ((l.length : Int) == 4), ⟨l.length + 1, fun k hk => ?_⟩, fun h => ?_⟩
  · exact isAddr_l l hl l.length k 0 (by omega) (by omega)
  · rw [Bool.and_eq_true, List.all_eq_true, beq_iff_eq] at h
    obtain ⟨h1, h2⟩ := h
    match l, h1, h2 with
    | [a, b, c, d], h1, _ =>
      have k := fun n hn => of_decide_eq_true (h1 n hn)
      exact ⟨a, b, c, d, rfl, k a (by simp), k b (by simp), k c (by simp), k d (by simp)⟩
    | [], _, h2 => cases h2
    | [_], _, h2 => cases h2
    | [_, _], _, h2 => cases h2
    | [_, _, _], _, h2 => cases h2
    | _ :: _ :: _ :: _ :: _ :: _, _, h2 => simp at h2; omega

/-- What zzFits says of a rule. -/
structure Fits (r : P.S42) : Prop where
  name : r.f1.size ≤ 2147483647
  nums : r.f2.length ≤ 2147483647
  port : r.f4.size ≤ 2147483647

theorem isRule_j0 (r : P.S42) (h : Fits r) (x : Bool) (hp : x = false → BL r.f4 = [] ∨ Pt (BL r.f4)) : ∃ b, Ev (fun k => P.spec_IsRule.j0 k x r.f0 r.f1 r.f2 r.f3 r.f4) b ∧ (b = true → Rk r) := by
  cases x with
  | true =>
    refine ⟨false, ⟨1, fun k hk => ?_⟩, fun h => by cases h⟩
    obtain ⟨k, rfl⟩ : ∃ m, k = m + 1 := ⟨k - 1, by omega⟩
    simp only [P.spec_IsRule.j0]
    rfl
  | false =>
    have hp := hp rfl
    obtain ⟨bn, ⟨Kn, hn⟩, en⟩ := isName_ev r.f1 h.name
    obtain ⟨ba, ⟨Ka, ha⟩, ea⟩ := isAddr_ev r.f2 h.nums
    have hn : ∀ k, Kn ≤ k → P.spec_IsName.f k r.f1 = some bn := hn
    have ha : ∀ k, Ka ≤ k → P.spec_IsAddress.f k r.f2 = some ba := ha
    have open_ : ∀ k, P.spec_IsRule.j0 (k + 1 + 1) false r.f0 r.f1 r.f2 r.f3 r.f4 = P.spec_IsRule.j1 (k + 1) r.f0 (if r.f0 = 0 then true else (r.f0 == 1)) r.f0 r.f1 r.f2 r.f3 r.f4 := fun k => by
      simp only [P.spec_IsRule.j0]
      rw [if_neg (by decide)]
      by_cases k0 : r.f0 = 0
      · rw [if_pos k0, if_pos k0, beq_iff_eq.2 k0]
      · rw [if_neg k0, if_neg k0]
    by_cases k01 : r.f0 = 0 ∨ r.f0 = 1
    · refine ⟨bn, ⟨Kn + 2, fun k hk => ?_⟩, fun e => ⟨hp, by rcases k01 with k | k <;> simp [k], fun _ => en e, fun k => by rcases k01 with h | h <;> rw [h] at k <;> simp at k, fun k => by rcases k01 with h | h <;> rw [h] at k <;> simp at k⟩⟩
      obtain ⟨k, rfl⟩ : ∃ m, k = m + 1 + 1 := ⟨k - 2, by omega⟩
      show P.spec_IsRule.j0 _ _ _ _ _ _ _ = _
      rw [open_, show (if r.f0 = 0 then true else (r.f0 == 1)) = true by rcases k01 with k | k <;> simp [k]]
      simp only [P.spec_IsRule.j1]
      rw [if_pos trivial, hn k (by omega)]
      rfl
    have t0 : (if r.f0 = 0 then true else (r.f0 == 1)) = false := by
      rw [if_neg (fun e => k01 (.inl e))]
      exact beq_eq_false_iff_ne.2 fun e => k01 (.inr e)
    by_cases k2 : r.f0 = 2
    · refine ⟨ba, ⟨Ka + 2, fun k hk => ?_⟩, fun e => ⟨hp, by simp [k2], fun k => absurd k k01, fun _ => ea e, fun k => by rw [k2] at k; simp at k⟩⟩
      obtain ⟨k, rfl⟩ : ∃ m, k = m + 1 + 1 := ⟨k - 2, by omega⟩
      show P.spec_IsRule.j0 _ _ _ _ _ _ _ = _
      rw [open_, t0]
      simp only [P.spec_IsRule.j1]
      rw [if_neg (by decide), if_pos k2, ha k (by omega)]
      rfl
    by_cases k3 : r.f0 = 3
    · refine ⟨ba && decide (0 ≤ r.f3 ∧ r.f3 ≤ 32), ⟨Ka + 2, fun k hk => ?_⟩, fun e => ?_⟩
      · obtain ⟨k, rfl⟩ : ∃ m, k = m + 1 + 1 := ⟨k - 2, by omega⟩
        show P.spec_IsRule.j0 _ _ _ _ _ _ _ = _
        rw [open_, t0]
        simp only [P.spec_IsRule.j1]
        rw [if_neg (by decide), if_neg k2, if_pos k3, ha k (by omega)]
        simp only [Option.bind_some]
        cases ba with
        | false => rfl
        | true =>
          rw [if_pos rfl]
          by_cases c1 : r.f3 ≥ 0
          · rw [if_pos c1]
            by_cases c2 : r.f3 ≤ 32
            · rw [decide_eq_true c2, decide_eq_true ⟨c1, c2⟩]; rfl
            · rw [decide_eq_false c2, decide_eq_false (fun e => c2 e.2)]; rfl
          · rw [if_neg c1, decide_eq_false (fun e => c1 e.1)]; rfl
      · rw [Bool.and_eq_true] at e
        exact ⟨hp, by simp [k3], fun k => absurd k k01, fun _ => ea e.1, fun _ => of_decide_eq_true e.2⟩
    · refine ⟨(r.f0 == 4), ⟨2, fun k hk => ?_⟩, fun e => ?_⟩
      · obtain ⟨k, rfl⟩ : ∃ m, k = m + 1 + 1 := ⟨k - 2, by omega⟩
        show P.spec_IsRule.j0 _ _ _ _ _ _ _ = _
        rw [open_, t0]
        simp only [P.spec_IsRule.j1]
        rw [if_neg (by decide), if_neg k2, if_neg k3]
      · have k4 := beq_iff_eq.1 e
        exact ⟨hp, by simp [k4], fun k => absurd k k01, fun k => by rw [k4] at k; simp at k, fun k => by rw [k4] at k; simp at k⟩

theorem isRule_ev (r : P.S42) (h : Fits r) : ∃ b, Ev (fun k => P.spec_IsRule.f k r.f0 r.f1 r.f2 r.f3 r.f4) b ∧ (b = true → Rk r) := by
  by_cases e : r.f4.toList = ([] : List UInt8)
  · obtain ⟨b, ⟨K, hK⟩, hb⟩ := isRule_j0 r h false (fun _ => .inl (by rw [← toList_BL]; exact e))
    refine ⟨b, ⟨K, fun k hk => ?_⟩, hb⟩
    simp only [P.spec_IsRule.f]
    rw [if_pos e]
    exact hK k hk
  · obtain ⟨bp, ⟨Kp, hKp⟩, ep⟩ := isPort_ev r.f4 h.port
    have hKp : ∀ k, Kp ≤ k → P.spec_IsPort.f k r.f4 = some bp := hKp
    obtain ⟨b, ⟨K, hK⟩, hb⟩ := isRule_j0 r h (!bp) (fun e => .inr (ep (by cases bp; cases e; rfl)))
    refine ⟨b, ⟨K + Kp, fun k hk => ?_⟩, hb⟩
    simp only [P.spec_IsRule.f]
    rw [if_neg e, hKp k (by omega)]
    exact hK k (by omega)

theorem areRules_l (rs : List P.S42) (hf : ∀ r ∈ rs, Fits r) (hl : rs.length ≤ 2147483647) : ∀ (d i : Nat), rs.length = i + d →
    ∃ b, Ev (fun k => P.spec_AreRules.l0 k rs rs (rs.length : Int) (i : Int)) b ∧ (b = true → rs.length ≤ 30 ∧ ∀ r ∈ rs.drop i, Rk r) := by
  intro d
  induction d with
  | zero =>
    intro i hi
    refine ⟨decide (rs.length ≤ 30), ⟨1, fun k hk => ?_⟩, fun e => ⟨of_decide_eq_true e, fun r hr => by rw [List.drop_of_length_le (by omega)] at hr; cases hr⟩⟩
    obtain ⟨k, rfl⟩ : ∃ m, k = m + 1 := ⟨k - 1, by omega⟩
    simp only [P.spec_AreRules.l0]
    rw [if_neg (by omega)]
    congr 1
    simp
    omega
  | succ d ih =>
    intro i hi
    have hlt : i < rs.length := by omega
    obtain ⟨b, ⟨K, hK⟩, hb⟩ := isRule_ev _ (hf _ (List.getElem_mem hlt))
    have hK : ∀ k, K ≤ k → P.spec_IsRule.f k (rs[i]'hlt).f0 (rs[i]'hlt).f1 (rs[i]'hlt).f2 (rs[i]'hlt).f3 (rs[i]'hlt).f4 = some b := hK
    obtain ⟨b', ⟨K', hK'⟩, hb'⟩ := ih (i + 1) (by omega)
    have ew : wrap64 ((i : Int) + 1) = ((i + 1 : Nat) : Int) := by unfold wrap64; omega
    have e : P.rd_T42 rs (i : Int) = rs[i]'hlt := by simp [P.rd_T42, hlt]
    refine ⟨b && b', ⟨K + K' + 1, fun k hk => ?_⟩, fun h => ?_⟩
    · obtain ⟨k, rfl⟩ : ∃ m, k = m + 1 := ⟨k - 1, by omega⟩
      simp only [P.spec_AreRules.l0]
      rw [if_pos (by omega), if_pos (by omega), if_pos (by omega), e, hK k (by omega), ew]
      simp only [Option.bind_some]
      cases b with
      | false => rfl
      | true =>
        rw [if_pos rfl]
        exact hK' k (by omega)
    · rw [Bool.and_eq_true] at h
      obtain ⟨h1, h2⟩ := hb' h.2
      refine ⟨h1, fun r hr => ?_⟩
      rw [List.drop_eq_getElem_cons hlt] at hr
      rcases List.mem_cons.1 hr with rfl | hr
      · exact hb h.1
      · exact h2 r hr

theorem areRules_ev (rs : List P.S42) (hf : ∀ r ∈ rs, Fits r) (hl : rs.length ≤ 2147483647) : ∃ b, Ev (fun k => P.spec_AreRules.f k rs) b ∧ (b = true → rs.length ≤ 30 ∧ ∀ r ∈ rs, Rk r) := by
  obtain ⟨b, h1, h2⟩ := areRules_l rs hf hl rs.length 0 (by omega)
  rw [List.drop_zero] at h2
  exact ⟨b, h1, h2⟩

theorem fits3_f (r : P.S42) : ∃ b, P.laws_zzFits3.f r.f0 r.f1 r.f2 r.f3 r.f4 = some b ∧ (b = true → Fits r) := by
  unfold P.laws_zzFits3.f
  by_cases c1 : (r.f1.size : Int) > 2147483647
  · exact ⟨false, by rw [if_pos c1], fun h => by cases h⟩
  rw [if_neg c1]
  by_cases c2 : (r.f2.length : Int) > 2147483647
  · exact ⟨false, by rw [if_pos c2], fun h => by cases h⟩
  rw [if_neg c2]
  by_cases c3 : (r.f4.size : Int) > 2147483647
  · exact ⟨false, by rw [if_pos c3], fun h => by cases h⟩
  · exact ⟨true, by rw [if_neg c3], fun _ => ⟨by omega, by omega, by omega⟩⟩

theorem fits2_l (rs : List P.S42) (hl : rs.length ≤ 2147483647) : ∀ (d k i : Nat), rs.length = i + d → d < k →
    ∃ b, P.laws_zzFits2.l0 k rs (rs.length : Int) (i : Int) = some b ∧ (b = true → ∀ r ∈ rs.drop i, Fits r) := by
  intro d
  induction d with
  | zero =>
    intro k i hi hk
    obtain ⟨k, rfl⟩ : ∃ m, k = m + 1 := ⟨k - 1, by omega⟩
    refine ⟨true, ?_, fun _ r hr => by rw [List.drop_of_length_le (by omega)] at hr; cases hr⟩
    simp only [P.laws_zzFits2.l0]
    rw [if_neg (by omega)]
  | succ d ih =>
    intro k i hi hk
    obtain ⟨k, rfl⟩ : ∃ m, k = m + 1 := ⟨k - 1, by omega⟩
    have hlt : i < rs.length := by omega
    obtain ⟨b, hb, hf⟩ := fits3_f (rs[i]'hlt)
    obtain ⟨b', hb', hf'⟩ := ih k (i + 1) (by omega) (by omega)
    have ew : wrap64 ((i : Int) + 1) = ((i + 1 : Nat) : Int) := by unfold wrap64; omega
    have e : P.rd_T42 rs (i : Int) = rs[i]'hlt := by simp [P.rd_T42, hlt]
    refine ⟨b && b', ?_, fun h => ?_⟩
    · simp only [P.laws_zzFits2.l0]
      rw [if_pos (by omega), if_pos (by omega), if_pos (by omega), e, hb, ew]
      simp only [Option.bind_some]
      cases b with
      | false => rfl
      | true => rw [if_pos rfl]; exact hb'
    · rw [Bool.and_eq_true] at h
      intro r hr
      rw [List.drop_eq_getElem_cons hlt] at hr
      rcases List.mem_cons.1 hr with rfl | hr
      · exact hf h.1
      · exact hf' h.2 r hr

theorem fits2_ev (rs : List P.S42) : ∃ k b, P.laws_zzFits2.f k rs = some b ∧ (b = true → rs.length ≤ 2147483647 ∧ ∀ r ∈ rs, Fits r) := by
  by_cases c : (rs.length : Int) > 2147483647
  · exact ⟨0, false, by unfold P.laws_zzFits2.f; rw [if_pos c], fun h => by cases h⟩
  · obtain ⟨b, hb, hf⟩ := fits2_l rs (by omega) rs.length (rs.length + 1) 0 (by omega) (by omega)
    rw [List.drop_zero] at hf
    exact ⟨rs.length + 1, b, by unfold P.laws_zzFits2.f; rw [if_neg c]; exact hb, fun h => ⟨by omega, hf h⟩⟩
end Go.Proofs.YtnchgmjeoajmiaaGreatDoor

/-! Works -/
namespace Go.Proofs.YtnchgmjeoajmiaaGreatDoor
open Go.RowKit Go.Proofs.YtnchgmjeoajmiaaGreatDoorW.PrintWords
set_option linter.unusedSimpArgs false
set_option linter.unusedVariables false

/-- A host that is a name in letters of whatever size, and a port. -/
theorem nameAddr_of {q nm p : List UInt8} (hne : q ≠ []) (hlen : q.length ≤ 200) (hall : ∀ b ∈ q, 32 < b.toNat ∧ b.toNat < 128 ∧ b.toNat ≠ 58 ∧ b.toNat ≠ 91 ∧ b.toNat ≠ 93 ∧ b.toNat ≠ 37) (hfirst : ¬ (48 ≤ bt (MK q) 0 ∧ bt (MK q) 0 ≤ 57)) (hlow : q.map Lib.lowerB = nm) (hp : Pt p) :
    NameAddr (MK (q ++ [58] ++ p)) (MK q) (MK p) (MK nm) := by
  have hpos : 0 < q.length := List.length_pos_iff.2 hne
  have h5 := hp.five
  have hs := splits_of (h := q) (p := p) hne (fun b hb => by have := hall b hb; omega) (fun b hb => by have := hall b hb; omega) (fun b hb => by have := hall b hb; omega) (hp.no 58 (by decide)) (hp.no 91 (by decide)) (hp.no 93 (by decide)) (by omega)
  have hit := item_of (a := []) (q := q) (b := []) (fun x hx => by cases hx) (fun x hx => by cases hx) (fun b hb => ⟨(hall b hb).1, (hall b hb).2.1⟩) (by simp; omega)
  rw [List.nil_append, List.append_nil, hlow] at hit
  refine ⟨?_, ⟨q.length, hs⟩, by rw [MK_size]; omega, by rw [MK_size]; omega, hfirst, fun i h0 h1 => ?_, hit, ?_⟩
  · rw [MK_size]; simp; omega
  · rw [MK_size] at h1
    obtain ⟨b, hb, e⟩ := bt_mem h0 h1
    rw [e]
    have := hall b hb
    omega
  · rw [MK_size, ← hlow, List.length_map]; omega

theorem Nm.lower {l : List UInt8} (h : Nm l) : l.map Lib.lowerB = l := lower_map fun b hb => by have := h.all b hb; omega

theorem Nm.nameAddr {nm p : List UInt8} (h : Nm nm) (hp : Pt p) : NameAddr (MK (nm ++ [58] ++ p)) (MK nm) (MK p) (MK nm) := by
  obtain ⟨x, t, e, h1, h2⟩ := h.head
  have hf := MK_first e
  exact nameAddr_of h.ne (by have := h.len; omega) (fun b hb => by have := h.all b hb; omega) (by rw [hf]; omega) h.lower hp

theorem localhost_iff {l : List UInt8} : (MK l).toList ≠ [108, 111, 99, 97, 108, 104, 111, 115, 116] ↔ l ≠ [108, 111, 99, 97, 108, 104, 111, 115, 116] := by rw [toList_MK]

/-- A request to a name, by a list of rules. -/
theorem uses_rules (p4 p6 : Addr) (w : World) (no : ByteArray) (rs : List P.S42) (nm p : List UInt8) (G : GW p4 p6 w) (hl : Listed no (effsOf rs)) (hn : Nm nm) (hp : Pt p) :
    Calls Tryz.prog 24 #[.string no, .string (MK (nm ++ [58] ++ p))] w fun e w' => e = .returned (.bool (!(nm == [108, 111, 99, 97, 108, 104, 111, 115, 116]) && !((lists (effsOf rs) [] []).2.any (mok (MK nm) (MK p) none)))) ∧ Below w.heap.size w w' := by
  have ha := hn.nameAddr hp
  by_cases h : nm = [108, 111, 99, 97, 108, 104, 111, 115, 116]
  · refine (uses_localhost p4 p6 no (effsOf rs) w _ (MK nm) (MK p) G hl ⟨ha.ssize, ha.split⟩ (by rw [toList_MK]; exact h)).mono fun e w' ⟨h1, h2⟩ => ⟨?_, h2⟩
    rw [h1]
    refine ret_bool ?_
    rw [beq_iff_eq.2 h]
    rfl
  · refine (uses_name p4 p6 no (effsOf rs) w _ (MK nm) (MK p) (MK nm) G hl ha (localhost_iff.2 h)).mono fun e w' ⟨h1, h2⟩ => ⟨?_, h2⟩
    rw [h1]
    refine ret_bool ?_
    rw [beq_eq_false_iff_ne.2 h]
    rfl

/-- 'a.b' -/
theorem nm_ab : Nm [97, 46, 98] := ⟨by decide, by decide, 97, [46, 98], rfl, by decide⟩
theorem pt_80 : Pt [56, 48] := ⟨by decide, by decide, by decide⟩
def ruleAB : P.S42 := ⟨0, MK [97, 46, 98], [], 0, ⟨#[]⟩⟩
theorem rk_ab : Rk ruleAB := ⟨.inl rfl, .inl rfl, fun _ => nm_ab, fun k => (by rcases k with k | k <;> cases k), fun k => (by cases k)⟩

set_option maxRecDepth 100000 in
set_option maxHeartbeats 400000 in
theorem works_calls (p4 p6 : Addr) (w : World) (G : GW p4 p6 w) : Calls Tryz.prog 22 #[] w fun e w' => e = .returned (.bool true) ∧ Below w.heap.size w w' := by
  have l0 : Listed ⟨#[]⟩ (effsOf []) := listed_plain [] ⟨by decide, fun r h => by cases h⟩
  have l1 : Listed ⟨#[97, 46, 98]⟩ (effsOf [ruleAB]) := by
    have := listed_plain [ruleAB] ⟨by decide, fun r h => by simp at h; subst h; exact rk_ab⟩
    rw [List.map_cons, List.map_nil, joinB_one, show ruleText ruleAB = ⟨#[97, 46, 98]⟩ by unfold ruleText; rw [if_pos (show ruleAB.f0 = 0 from rfl)]; exact (wp_MK [97, 46, 98] []).trans (if_pos rfl)] at this
    exact this
  have u0 := uses_rules p4 p6 w ⟨#[]⟩ [] [97, 46, 98] [56, 48] G l0 nm_ab pt_80
  have U1 := fun w' G => Aside0.mk (uses_rules p4 p6 w' ⟨#[97, 46, 98]⟩ [ruleAB] [97, 46, 98] [56, 48] G l1 nm_ab pt_80)
  have r0 : (!(([97, 46, 98] : List UInt8) == [108, 111, 99, 97, 108, 104, 111, 115, 116]) && !((lists (effsOf []) [] []).2.any (mok (MK [97, 46, 98]) (MK [56, 48]) none))) = true := by decide +kernel
  have r1 : (!(([97, 46, 98] : List UInt8) == [108, 111, 99, 97, 108, 104, 111, 115, 116]) && !((lists (effsOf [ruleAB]) [] []).2.any (mok (MK [97, 46, 98]) (MK [56, 48]) none))) = false := by decide +kernel
  rw [r0] at u0
  have U0 := Aside0.mk u0
  have R1 := Aside0.mk r1
  clear u0 r0 r1 l0 l1
  go_enter Tryz.func22, Tryz.ntmps22
  go_wp2_with fail
  refine U0.out.mono ?_
  rintro e w1 ⟨rfl, b1⟩
  go_wp2_with fail
  refine (U1 w1 (G.below b1)).out.mono ?_
  rw [R1.out]
  rintro e w2 ⟨rfl, b2⟩
  have B2 := bel_then b1 b2
  clear b1 b2
  go_wp2_with fail
  go_ret
  exact ⟨rfl, B2⟩
end Go.Proofs.YtnchgmjeoajmiaaGreatDoor

/-! Laid -/
namespace Go.Proofs.YtnchgmjeoajmiaaGreatDoor
open Go.ChangeShapes Go.WideShapes Go.ChangeAt Go.RowKit Go.Proofs.YtnchgmjeoajmiaaGreatDoorW.PrintWords
set_option linter.unusedSimpArgs false
set_option linter.unusedVariables false

theorem laid_places {P : Program} {w : World} : ∀ {l : List (String × DataW Unit)} {ps : List MemPlace}, DataW.LaidVars P w l ps → ∀ n d, (n, d) ∈ l →
    ∃ g t cs fuel p, P.globalNamed n = some g ∧ (P.globals[g]?).map (·.type) = some t ∧ w.var? P n = some cs ∧ DataW.trod (fun _ => ()) P w 0 (fun _ => true) false fuel t cs.toList = some (d, p) ∧ ∀ x ∈ p, x ∈ ps
  | [], _, _, _, _, hm => by cases hm
  | (n', d') :: r, ps, h, n, d, hm => by
    obtain ⟨g, t, cs, fuel, p, q, h1, h2, h3, h4, h5, rfl⟩ := h
    rcases List.mem_cons.1 hm with e | hm
    · injection e with e1 e2
      subst e1 e2
      exact ⟨g, t, cs, fuel, p, h1, h2, h3, h4, fun x hx => by simp [hx]⟩
    · obtain ⟨g', t', cs', fuel', p', k1, k2, k3, k4, k5⟩ := laid_places h5 n d hm
      exact ⟨g', t', cs', fuel', p', k1, k2, k3, k4, fun x hx => by simp [k5 x hx]⟩

theorem tab_of {W : World} {l : List (String × DataW Unit)} (h : laidMet Tryz.prog l W) {name : String} {k : IntKind} {zs : List Int} {g t e n : Nat} (hm : (name, Lib.tabData k zs) ∈ l) (hg : Tryz.prog.globalNamed name = some g)
    (hty : (Tryz.prog.globals[g]?).map (·.type) = some t) (ht : Tryz.prog.underlying t = some (.array n e)) (he : Tryz.prog.underlying e = some (.int k)) (hce : Tryz.prog.cellsOf e = 1) (hct : Tryz.prog.cellsOf t = n) : Lib.TabIs Tryz.prog W name k zs := by
  obtain ⟨ps, hl, _⟩ := h
  obtain ⟨g', t', cs, fuel, p, hg', ht', hvar, hd, _⟩ := laid_places hl _ _ hm
  obtain rfl := Option.some.inj (hg.symm.trans hg')
  obtain rfl := Option.some.inj (hty.symm.trans ht')
  unfold Lib.TabIs
  rw [hvar, ← Lib.cells_of_tab ht he hce hct hd]

/-- A handle of netip's. -/
theorem handle_of {W : World} {l : List (String × DataW Unit)} (h : laidMet Tryz.prog l W) {name : String} {g : Nat} {b : Bool} (hm : (name, (.agg [.ptr (.agg [.lit (.bool b), .lit (.string [])])] : DataW Unit)) ∈ l) (hg : Tryz.prog.globalNamed name = some g)
    (hty : (Tryz.prog.globals[g]?).map (·.type) = some 106) : ∃ a, W.cell? ⟨g, 0, none⟩ = some (.pointer (some a)) ∧ W.cell? a = some (.bool b) ∧ W.cell? ⟨a.block, a.off + 1, none⟩ = some (.string ⟨#[]⟩) ∧ ∃ ca ta, W.heap[a.block]? = some (.cells ca ta (0, 0)) := by
  obtain ⟨ps, hl, _, hrow⟩ := h
  obtain ⟨g', t', cs, fuel, p, hg', ht', hvar, hd, hp⟩ := laid_places hl _ _ hm
  obtain rfl := Option.some.inj (hg.symm.trans hg')
  obtain rfl := Option.some.inj (hty.symm.trans ht')
  obtain ⟨y0, m, e0, hlen, hd0⟩ := trod_struct1 Tryz.underlying106 hd
  have c104 : Tryz.prog.cellsOf 104 = 1 := by kernel_rfl
  have c106 : Tryz.prog.cellsOf 106 = 1 := by kernel_rfl
  have c181 : Tryz.prog.cellsOf 181 = 2 := by kernel_rfl
  have c4 : Tryz.prog.cellsOf 4 = 1 := by kernel_rfl
  have c9 : Tryz.prog.cellsOf 9 = 1 := by kernel_rfl
  simp only [Prod.mk.injEq, DataW.agg.injEq, List.cons.injEq, and_true] at e0
  obtain ⟨e1, e2⟩ := e0
  obtain ⟨y1, y2⟩ := y0
  simp only at e1 e2
  subst e1 e2
  simp only at hd0
  rw [c104] at hd0
  obtain ⟨fuel', a, cs', q, hcs, hcells, hd1, hpq⟩ := ptr_of_trod Tryz.underlying104 hd0
  rw [c181] at hcells hpq
  have hc0 : cs.toList[0]? = some (.pointer (some a)) := by
    have := congrArg (fun l => l[0]?) hcs
    simpa [List.getElem?_take, List.getElem?_drop] using this
  have hg0 : W.cell? ⟨g, 0, none⟩ = some (.pointer (some a)) := by
    rw [World.var?_cell hg hvar 0]
    simpa using hc0
  unfold World.cells? at hcells
  rw [if_pos (Nat.zero_le _)] at hcells
  cases hx0 : W.cell? (a.add 0) with
  | none => simp [List.range_succ, hx0] at hcells
  | some u0 =>
  cases hx1 : W.cell? (a.add 1) with
  | none => simp [List.range_succ, hx0, hx1] at hcells
  | some u1 =>
  simp [List.range_succ, hx0, hx1] at hcells
  subst hcells
  obtain ⟨z0, z1, m', e0, _, hz0, hz1⟩ := trod_struct2 Tryz.underlying181 hd1
  simp only [Prod.mk.injEq, DataW.agg.injEq, List.cons.injEq, and_true] at e0
  obtain ⟨⟨f0, f1⟩, _⟩ := e0
  simp only at hz0 hz1
  rw [c4] at hz0
  rw [c9] at hz1
  obtain ⟨b', eb, ex⟩ := DataW.trod_bool Tryz.underlying4 hz0
  obtain ⟨s', es, ey, _⟩ := DataW.trod_string Tryz.underlying9 hz1
  subst ex ey
  simp at f0 f1 eb es
  subst eb es f0
  have hs : s' = ⟨#[]⟩ := by
    apply ByteArray.ext
    first | exact f1 | (apply Array.toList_inj.1; exact f1.symm) | (simpa using f1)
  subst hs
  refine ⟨a, hg0, hx0, hx1, ?_⟩
  obtain ⟨⟨c, t, hh⟩, _⟩ := hrow a.block a.off (hp _ (by rw [hpq]; exact List.mem_append_left _ (MemPlace.mem_row.2 ⟨0, by decide, rfl⟩)))
  exact ⟨c, t, hh⟩

set_option maxRecDepth 100000 in
theorem nil_of_trod {W : World} {fuel : Nat} {t e : TypeId} {cs : List Value} {p : List MemPlace} (ht : Tryz.prog.underlying t = some (.pointer e))
    (h : DataW.trod (fun _ => ()) Tryz.prog W 0 (fun _ => true) false fuel t cs = some (.nil, p)) : cs = [.pointer none] := by
  cases fuel with
  | zero => simp [DataW.trod] at h
  | succ fuel =>
    match cs with
    | [] => simp [DataW.trod, ht] at h
    | _ :: _ :: _ => simp [DataW.trod, ht] at h
    | [c] =>
      cases c <;> simp [DataW.trod, ht] at h
      rename_i o
      cases o with
      | none => rfl
      | some a =>
        simp only [Option.bind_eq_some_iff, Function.comp, Option.map_eq_some_iff, Prod.mk.injEq] at h
        obtain ⟨cs', hc, x, hx, hn, _⟩ := h
        cases hn

theorem zero_of {W : World} {l : List (String × DataW Unit)} (h : laidMet Tryz.prog l W) {name : String} {g : Nat} (hm : (name, (.agg [.nil] : DataW Unit)) ∈ l) (hg : Tryz.prog.globalNamed name = some g)
    (hty : (Tryz.prog.globals[g]?).map (·.type) = some 106) : W.cell? ⟨g, 0, none⟩ = some (.pointer none) := by
  obtain ⟨ps, hl, _, hrow⟩ := h
  obtain ⟨g', t', cs, fuel, p, hg', ht', hvar, hd, hp⟩ := laid_places hl _ _ hm
  obtain rfl := Option.some.inj (hg.symm.trans hg')
  obtain rfl := Option.some.inj (hty.symm.trans ht')
  obtain ⟨y0, m, e0, hlen, hd0⟩ := trod_struct1 Tryz.underlying106 hd
  have c104 : Tryz.prog.cellsOf 104 = 1 := by kernel_rfl
  simp only [Prod.mk.injEq, DataW.agg.injEq, List.cons.injEq, and_true] at e0
  obtain ⟨e1, e2⟩ := e0
  obtain ⟨y1, y2⟩ := y0
  simp only at e1 e2
  subst e1 e2
  simp only at hd0
  rw [c104] at hd0
  have hcs := nil_of_trod Tryz.underlying104 hd0
  have hc0 : cs.toList[0]? = some (.pointer none) := by
    have := congrArg (fun l => l[0]?) hcs
    simpa [List.getElem?_take, List.getElem?_drop] using this
  rw [World.var?_cell hg hvar 0]
  simpa using hc0

set_option maxRecDepth 100000 in
theorem space_eq : (Rows.laid_strings_asciiSpace : DataW Unit) = Lib.tabData .u8 Lib.asciiSpaceTab := by kernel_rfl
/-- The variables that the walks read. -/
theorem gw_of {W : World} {l : List (String × DataW Unit)} (h : laidMet Tryz.prog l W) (m1 : ("strings.asciiSpace", Rows.laid_strings_asciiSpace) ∈ l)
    (m3 : ("net/netip.z0", Rows.laid_net_netip_z0) ∈ l) (m4 : ("net/netip.z4", Rows.laid_net_netip_z4) ∈ l) (m6 : ("net/netip.z6noz", Rows.laid_net_netip_z6noz) ∈ l) : ∃ p4 p6, GW p4 p6 W := by
  rw [space_eq] at m1
  have s := tab_of h m1 (g := 0) (t := 128) (e := 5) (n := 256) (by kernel_rfl) (by kernel_rfl) (by kernel_rfl) (by kernel_rfl) (by kernel_rfl) (by kernel_rfl)
  have z := zero_of h (name := "net/netip.z0") (g := 1) m3 (by kernel_rfl) (by kernel_rfl)
  obtain ⟨p4, a, b, c, d⟩ := handle_of h (name := "net/netip.z4") (g := 2) (b := false) m4 (by kernel_rfl) (by kernel_rfl)
  obtain ⟨p6, a', b', c', d'⟩ := handle_of h (name := "net/netip.z6noz") (g := 8) (b := true) m6 (by kernel_rfl) (by kernel_rfl)
  exact ⟨p4, p6, s, z, a, a', b, c, b', c', d, d'⟩
end Go.Proofs.YtnchgmjeoajmiaaGreatDoor

/-! Open -/
namespace Go.Proofs.YtnchgmjeoajmiaaGreatDoor
open Go.ChangeShapes Go.WideShapes Go.ChangeAt Go.RowKit Go.Proofs.YtnchgmjeoajmiaaGreatDoorW.PrintWords
set_option linter.unusedSimpArgs false
set_option linter.unusedVariables false

theorem addr_add_add (a : Addr) (m k : Nat) : (a.add m).add k = a.add (m + k) := by
  unfold Addr.add
  by_cases hm : m = 0
  · subst hm
    simp
  · by_cases hk : k = 0
    · subst hk; simp
    · simp [hm, hk, Nat.add_assoc]

theorem cells_at {W : World} {base : Nat} {a : Addr} {n : Nat} {cs : List Value} (h : W.cells? base a n = some cs) : cs.length = n ∧ ∀ (i : Nat) u, cs[i]? = some u → W.cell? (a.add i) = some u := by
  unfold World.cells? at h
  split at h
  · have hlen := Lib.mapM_length h
    simp at hlen
    refine ⟨hlen, fun i u hu => ?_⟩
    have hi : i < n := by rw [← hlen]; exact (List.getElem?_eq_some_iff.1 hu).1
    obtain ⟨b, hb, hf⟩ := Lib.mapM_at h i i (by simp [hi])
    rw [hu] at hb
    injection hb with hb
    subst hb
    exact hf
  · cases h

section
variable {H : Type} {enc : TypeId × Value → H} {W : World} {base : Nat} {sp : Nat → Bool} {held : Bool}

theorem open_nums {fuel : Nat} {v : Value} {x : DataW H × List MemPlace} (h : DataW.trod enc Tryz.prog W base sp held fuel 31 [v] = some x) :
    ∃ A c l, v = .slice A l.length c ∧ l.length ≤ c ∧ Kd.C (Kd.int .i64) W A l.length l := by
  rcases open_ints Tryz.underlying31 Tryz.underlying3 (by kernel_rfl) h with ⟨hcs, _⟩ | ⟨a, len, cap, zs, hcs, _, hl, hm, hz, _, hcell, _⟩
  · injection hcs with hcs _
    exact ⟨none, 0, [], hcs, Nat.le_refl _, rfl, by decide, fun h => absurd h (by decide)⟩
  · injection hcs with hcs _
    have hlen : len ≤ zs.length := by rw [hz]; split <;> omega
    have htl : (zs.take len).length = len := by simp; omega
    refine ⟨some a, cap, zs.take len, by rw [htl]; exact hcs, by omega, rfl, by unfold maxLen at hm; omega, fun _ => ⟨a, rfl, fun j p hj => ⟨[.int .i64 p], rfl, rfl, fun i u hu => ?_⟩⟩⟩
    match i, hu with
    | 0, hu =>
      simp only [List.getElem?_cons_zero, Option.some.injEq] at hu
      subst hu
      have hjl : j < (zs.take len).length := (List.getElem?_eq_some_iff.1 hj).1
      have hj' : j < zs.length := by omega
      rw [List.getElem?_take, if_pos (by omega), List.getElem?_eq_getElem hj'] at hj
      injection hj with hj
      have := hcell j hj'
      rw [List.getD_eq_getElem?_getD, List.getElem?_eq_getElem hj'] at this
      rw [← hj]
      show W.cell? (a.add (j * 1 + 0)) = _
      rw [Nat.mul_one]
      simpa using this

set_option maxRecDepth 100000 in
theorem open_rule {fuel : Nat} {cs : List Value} {x : DataW H × List MemPlace} (hb : base = 0 ∨ True) (h : DataW.trod enc Tryz.prog W base sp held fuel 42 cs = some x) : ∃ r : P.S42, P.k42.K W r cs ∧ cs.length = 5 := by
  obtain ⟨xs, n, _, rfl, hl, hlen, hf⟩ := DataW.trod_struct Tryz.underlying42 h
  have c42 : Tryz.prog.cellsOf 42 = 5 := by kernel_rfl
  have c3 : Tryz.prog.cellsOf 3 = 1 := by kernel_rfl
  have c9 : Tryz.prog.cellsOf 9 = 1 := by kernel_rfl
  have c31 : Tryz.prog.cellsOf 31 = 1 := by kernel_rfl
  rw [c42] at hl
  match xs, hlen, cs, hl with
  | [y0, y1, y2, y3, y4], _, [v0, v1, v2, v3, v4], _ =>
    have h0 : DataW.trod enc Tryz.prog W base sp held n 3 (([v0, v1, v2, v3, v4].drop 0).take (Tryz.prog.cellsOf 3)) = some y0 := hf 0 _ rfl
    have h1 : DataW.trod enc Tryz.prog W base sp held n 9 (([v0, v1, v2, v3, v4].drop 1).take (Tryz.prog.cellsOf 9)) = some y1 := hf 1 _ rfl
    have h2 : DataW.trod enc Tryz.prog W base sp held n 31 (([v0, v1, v2, v3, v4].drop 2).take (Tryz.prog.cellsOf 31)) = some y2 := hf 2 _ rfl
    have h3 : DataW.trod enc Tryz.prog W base sp held n 3 (([v0, v1, v2, v3, v4].drop 3).take (Tryz.prog.cellsOf 3)) = some y3 := hf 3 _ rfl
    have h4 : DataW.trod enc Tryz.prog W base sp held n 9 (([v0, v1, v2, v3, v4].drop 4).take (Tryz.prog.cellsOf 9)) = some y4 := hf 4 _ rfl
    rw [c3] at h0 h3
    rw [c9] at h1 h4
    rw [c31] at h2
    obtain ⟨z0, e0, _⟩ := DataW.trod_int Tryz.underlying3 h0
    obtain ⟨s1, e1, _⟩ := DataW.trod_string Tryz.underlying9 h1
    obtain ⟨A, c, l, e2, hlc, hC⟩ := open_nums h2
    obtain ⟨z3, e3, _⟩ := DataW.trod_int Tryz.underlying3 h3
    obtain ⟨s4, e4, _⟩ := DataW.trod_string Tryz.underlying9 h4
    simp at e0 e1 e3 e4
    subst e0 e1 e2 e3 e4
    exact ⟨⟨z0, s1, l, z3, s4⟩, P.k42_mk W ⟨z0, s1, l, z3, s4⟩ hlc hC, rfl⟩

theorem open_rules {fuel : Nat} {v : Value} {x : DataW H × List MemPlace} (h : DataW.trod enc Tryz.prog W base sp held fuel 30 [v] = some x) :
    ∃ A c rs, v = .slice A rs.length c ∧ rs.length ≤ c ∧ Kd.C P.k42 W A rs.length rs := by
  have c42 : Tryz.prog.cellsOf 42 = 5 := by kernel_rfl
  rcases Go.Deep.open_slice Tryz.underlying30 h with ⟨hcs, _⟩ | ⟨a, len, cap, m, n, D, Pl, hcs, _, hl, hm, hmm, _, hx⟩
  · injection hcs with hcs _
    exact ⟨none, 0, [], hcs, Nat.le_refl _, rfl, by decide, fun h => absurd h (by decide)⟩
  · injection hcs with hcs _
    have hlm : len ≤ m := by rw [hmm]; split <;> omega
    have each : ∀ i, i < len → ∃ r : P.S42, ∃ cs, P.k42.K W r cs ∧ cs.length = 5 ∧ ∀ (k : Nat) u, cs[k]? = some u → W.cell? (a.add (i * 5 + k)) = some u := fun i hi => by
      obtain ⟨cs', h1, h2⟩ := hx i (by omega)
      rw [c42] at h1
      obtain ⟨r, hr, h5⟩ := open_rule (.inr trivial) h2
      exact ⟨r, cs', hr, h5, fun k u hu => by rw [← addr_add_add]; exact (cells_at h1).2 k u hu⟩
    let f : Nat → P.S42 := fun i => if hi : i < len then Classical.choose (each i hi) else P.z42
    have hf : ∀ i, i < len → ∃ cs, P.k42.K W (f i) cs ∧ cs.length = 5 ∧ ∀ (k : Nat) u, cs[k]? = some u → W.cell? (a.add (i * 5 + k)) = some u := fun i hi => by
      have e : f i = Classical.choose (each i hi) := dif_pos hi
      rw [e]
      exact Classical.choose_spec (each i hi)
    have htl : ((List.range len).map f).length = len := by simp
    refine ⟨some a, cap, (List.range len).map f, by rw [htl]; exact hcs, by omega, rfl, by unfold maxLen at hm; omega, fun _ => ⟨a, rfl, fun j p hj => ?_⟩⟩
    have hjl : j < len := by have := (List.getElem?_eq_some_iff.1 hj).1; omega
    rw [List.getElem?_map, List.getElem?_range hjl] at hj
    injection hj with hj
    subst hj
    obtain ⟨cs, h1, h2, h3⟩ := hf j hjl
    exact ⟨cs, h2, h1, fun i u hu => h3 i u hu⟩
end

/-- One variable that lies below reads behind the call as it did. -/
theorem var_kept {H : Type} {enc : TypeId × Value → H} {W W' : World} {n : String} {gs : List (DataW H)} {ps : List MemPlace} {t0 : TypeId} (hl : laidOutB Tryz.prog = true) (hb : Below W.heap.size W W')
    (hty : ∀ g t, Tryz.prog.globalNamed n = some g → (Tryz.prog.globals[g]?).map (·.type) = some t → t = t0) (hr : Tryz.prog.readableRec t0 = true) (hlt0 : t0 < Tryz.prog.types.size)
    (h : DataW.TrodVars enc Tryz.prog W (fun _ => true) [n] gs ps) : DataW.TrodVars enc Tryz.prog W' (fun b => decide (b < W.heap.size)) [n] gs ps := by
  match gs, h with
  | [], h => exact h.elim
  | _ :: _ :: _, h =>
    obtain ⟨_, _, _, _, _, _, _, _, _, _, hs, _⟩ := h
    exact hs.elim
  | [d], h =>
    obtain ⟨g, t, cs, fuel, p, q, h1, h2, h3, h4, hs, e⟩ := h
    obtain rfl := hty g t h1 h2
    have hp : ∀ x ∈ p, x.block < W.heap.size := DataW.trod_lt _ _ _ _ h4
    have h3' : W'.var? Tryz.prog n = some cs := by
      unfold World.var? at h3 ⊢
      rw [h1] at h3 ⊢
      simp only [Option.bind_some] at h3 ⊢
      have hg : g < W.heap.size := by
        cases hh : W.heap[g]? with
        | none => rw [hh] at h3; cases h3
        | some o => exact (Array.getElem?_eq_some_iff.1 hh).1
      rw [hb.block g hg]
      exact h3
    exact ⟨g, t, cs, fuel, p, q, h1, h2, h3', DataW.trod_stays (Go.kids_book hl hr) (Go.book_sized hr) (fun h => by cases h) ⟨hlt0, Go.book_self t⟩ h4 (fun x hx => hb.same (hp x hx)) (fun x hx => by simpa using hp x hx), hs, e⟩
theorem table_type : ∀ g t, Tryz.prog.globalNamed "loop.example/pub-g01468/pub/neturl.table" = some g → (Tryz.prog.globals[g]?).map (·.type) = some t → t = 246 := by
  intro g t h1 h2
  have e1 : Tryz.prog.globalNamed "loop.example/pub-g01468/pub/neturl.table" = some 13 := by kernel_rfl
  have e2 : (Tryz.prog.globals[13]?).map (·.type) = some 246 := by kernel_rfl
  rw [e1] at h1
  injection h1 with h1
  subst h1
  rw [e2] at h2
  injection h2 with h2
  exact h2.symm
/-- A row's closed facts, one by one. -/
theorem joined_of {P : Program} {f : FuncId} {fn : Func} {s : ChangeSpec} {c : OpenClaim}
    (k0 : (c.wf (OpenSpec.ofChange s)) = true)
    (k1 : (laidOutB P) = true)
    (k2 : (mapsRowed P) = true)
    (k3 : (fn.params.all (P.readableRec ·)) = true)
    (k4 : (namedTie P c.named s.vars) = true)
    (k5 : ((c.stops == [])) = true)
    (k6 : ((P.stops == [])) = true)
    (k7 : ((c.knobs == [])) = true)
    (k8 : ((P.stopKnobs == [])) = true)
    (k9 : ((c.inPlace == P.inPlace f)) = true)
    (k10 : ((c.unfollowed == P.unfollowed f)) = true)
    (k11 : ((c.recurses == P.recurses f)) = true)
    (k12 : ((c.named == P.varsNamed f)) = true)
    (k13 : ((c.maps == (fn.params.toList ++ s.plain.varTypes P).any (P.mapsRec ·))) = true)
    (k14 : ((c.ifaces == (fn.params.toList ++ s.plain.varTypes P).any (P.ifacesRec ·))) = true)
    (k15 : ((c.mapsOut == P.mapsAmong fn.resultTypes.toList)) = true)
    (k16 : ((c.loops == (fn.params.toList ++ s.plain.varTypes P).any (P.loopsFrom ·))) = true)
    (k17 : ((c.wideKeys == (fn.params.toList ++ s.plain.varTypes P ++ fn.resultTypes.toList).any (P.wideKeysFrom ·))) = true)
    (k18 : (s.vars.all (P.varReadable ·)) = true)
    (k19 : (fn.resultTypes.all (fun t => P.readableRec t && decide (t < P.types.size))) = true)
    (k20 : ((c.ifacesOut == fn.resultTypes.toList.any (P.ifacesRec ·))) = true)
    (k21 : ((c.loopsOut == fn.resultTypes.toList.any (P.loopsFrom ·))) = true)
    (k22 : ((c.plainKeys == P.plainKeys)) = true)
    (k23 : (c.shortTexts.isNone) = true)
    (k24 : (P.stopsHeard) = true)
    (k25 : (P.mayEnter) = true)
    (k26 : ((c.lifted == P.liftsFinal)) = true)
    (k27 : ((P.make == some c.make)) = true)
    (k28 : ((c.kinds == (if c.domain.isEmpty then [] else fn.params.toList.map fun t => match P.underlying t with | some (.int k) => some k | _ => none))) = true)
    (k29 : ((c.pinned == c.pinnedBy)) = true)
    (k30 : ((c.veiled == (fn.params.toList ++ s.plain.varTypes P ++ fn.resultTypes.toList).any (P.veiledRec ·))) = true)
    (k31 : (c.veiledFits P fn.params.toList (fn.params.toList ++ s.plain.varTypes P ++ fn.resultTypes.toList)) = true) : joinedFacts P f fn s c = true := by
  unfold joinedFacts
  simp only [Bool.and_eq_true]
  exact ⟨⟨⟨⟨⟨⟨⟨⟨⟨⟨⟨⟨⟨⟨⟨⟨⟨⟨⟨⟨⟨⟨⟨⟨⟨⟨⟨⟨⟨⟨⟨k0, k1⟩, k2⟩, k3⟩, k4⟩, k5⟩, k6⟩, k7⟩, k8⟩, k9⟩, k10⟩, k11⟩, k12⟩, k13⟩, k14⟩, k15⟩, k16⟩, k17⟩, k18⟩, k19⟩, k20⟩, k21⟩, k22⟩, k23⟩, k24⟩, k25⟩, k26⟩, k27⟩, k28⟩, k29⟩, k30⟩, k31⟩
theorem fact_laid : laidOutB Tryz.pinned.checked.prog = true := by kernel_rfl
theorem fact_maps : mapsRowed Tryz.pinned.checked.prog = true := by kernel_rfl
end Go.Proofs.YtnchgmjeoajmiaaGreatDoor

/-! Lawa -/
namespace Go.Proofs.YtnchgmjeoajmiaaGreatDoor
open Go.RowKit Go.Proofs.YtnchgmjeoajmiaaGreatDoorW.PrintWords
set_option linter.unusedSimpArgs false
set_option linter.unusedVariables false

/-- What each law gives. -/
def SaysTrue (w : World) (e : Ending) (w' : World) : Prop := e = .returned (.bool true) ∧ Below w.heap.size w w'

theorem not_le_big {n : Nat} (h : ¬ (2147483647 : Int) < (n : Int)) : n ≤ 2147483647 := by omega

theorem rks_of {rs : List P.S42} (h : rs.length ≤ 30 ∧ ∀ r ∈ rs, Rk r) : Rks rs := ⟨by omega, h.2⟩

theorem addr_text (nm port : ByteArray) : ((nm ++ (⟨#[58]⟩ : ByteArray)) ++ port) = MK (BL nm ++ [58] ++ BL port) := by
  apply eq_of_BL
  rw [BL_append, BL_append]

theorem bel_drawn {w w1 w2 : World} (h : Below w.heap.size w w1) (k : Drawn0 w1 w2) : Below w.heap.size w w2 := by
  obtain ⟨n, rfl⟩ := k
  exact pw_below_drewN h n

theorem local_eq (nm : ByteArray) : (nm.toList == [108, 111, 99, 97, 108, 104, 111, 115, 116]) = (BL nm == [108, 111, 99, 97, 108, 104, 111, 115, 116]) := by rw [toList_BL]

end Go.Proofs.YtnchgmjeoajmiaaGreatDoor
