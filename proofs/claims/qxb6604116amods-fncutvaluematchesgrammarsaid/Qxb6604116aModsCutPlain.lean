/-
  SEAT b6604116aM. THE PLAIN LAW OF cutForwarded: the scan from the right, and why what stands left of the cut does not matter.
-/
import GoSem.Claim
import Derived.WideShapes
import Derived.WalkKit
import Derived.ProofKit
import Derived.Lib.Strings
namespace Go.Proofs.Qxb6604116aMods

/-- The string's bytes, then zeros. -/
def bya (s : ByteArray) (k : Nat) : Nat := (s.data.toList.getD k 0).toNat
theorem bya_at {s : ByteArray} {k : Nat} (h : k < s.size) : s[k].toNat = bya s k := by
  unfold bya
  have h' : k < s.data.toList.length := by simpa using h
  rw [List.getD_eq_getElem?_getD, List.getElem?_eq_getElem h', Option.getD_some]
  simp only [Array.getElem_toList]
  rfl

/-- How many backslashes stand right ahead of place i. -/
def bsl (b : Nat → Nat) : Nat → Nat
  | 0 => 0
  | i + 1 => if b i = 92 then bsl b i + 1 else 0
/-- What a quote does to the state: inside a quoted string an escaped one leaves it. -/
def flip (q : Bool) (n : Nat) : Bool := if q = false ∨ n % 2 = 0 then !q else q
/-- The scan from the right: i bytes are still to be read. -/
def scan (b : Nat → Nat) : Nat → Bool → Option Nat
  | 0, _ => none
  | i + 1, q => if b i = 34 then scan b i (flip q (bsl b i)) else if b i = 44 then (if q = true then scan b i q else some i) else scan b i q

theorem scan_some {b : Nat → Nat} : ∀ {n : Nat} {q : Bool} {p : Nat}, scan b n q = some p → p < n ∧ b p = 44
  | 0, _, _, h => by simp [scan] at h
  | n + 1, q, p, h => by
    unfold scan at h
    split at h
    · have := scan_some h; exact ⟨by omega, this.2⟩
    · split at h
      · split at h
        · have := scan_some h; exact ⟨by omega, this.2⟩
        · rename_i h1 _
          cases h
          exact ⟨by omega, h1⟩
      · have := scan_some h; exact ⟨by omega, this.2⟩

theorem bsl_shift {b b' : Nat → Nat} {l p : Nat} (hb : ∀ i, b' (l + i) = b i) (hp : b p = 44) : ∀ i, p < i → bsl b' (l + i) = bsl b i
  | 0, h => by omega
  | i + 1, h => by
    show bsl b' ((l + i) + 1) = _
    unfold bsl
    rw [hb i]
    by_cases h92 : b i = 92
    · have : p ≠ i := fun e => by rw [e, h92] at hp; omega
      rw [if_pos h92, if_pos h92, bsl_shift hb hp i (by omega)]
    · rw [if_neg h92, if_neg h92]

/-- WHAT STANDS LEFT DOES NOT MATTER: the cut of the longer text is the same one. -/
theorem scan_shift {b b' : Nat → Nat} {l : Nat} (hb : ∀ i, b' (l + i) = b i) : ∀ {n : Nat} {q : Bool} {p : Nat}, scan b n q = some p → scan b' (l + n) q = some (l + p)
  | 0, _, _, h => by simp [scan] at h
  | n + 1, q, p, h => by
    show scan b' ((l + n) + 1) q = _
    have hs := scan_some h
    unfold scan at h ⊢
    rw [hb n]
    split at h
    · rename_i h34
      have h2 := scan_some h
      rw [if_pos h34, bsl_shift hb h2.2 n h2.1]
      exact scan_shift hb h
    · rename_i h34
      rw [if_neg h34]
      split at h
      · rename_i h44
        rw [if_pos h44]
        split at h
        · rename_i hq
          rw [if_pos hq]
          exact scan_shift hb h
        · rename_i hq
          rw [if_neg hq]
          cases h
          rfl
      · rename_i h44
        rw [if_neg h44]
        exact scan_shift hb h

/-- The cut of a string. -/
def cutOf (s : ByteArray) : Option Nat := scan (bya s) s.size false

/-! ### Strings as lists of bytes -/
theorem ext_list {a b : ByteArray} (h : a.data.toList = b.data.toList) : a = b := Go.WideShapes.bytes_inj h
theorem size_list (s : ByteArray) : s.size = s.data.toList.length := by simp
theorem extract_list (s : ByteArray) (i j : Nat) : (s.extract i j).data.toList = (s.data.toList.drop i).take (j - i) := Lib.extract_data s i j
theorem append_list (a b : ByteArray) : (a ++ b).data.toList = a.data.toList ++ b.data.toList := by simp
theorem size_append (a b : ByteArray) : (a ++ b).size = a.size + b.size := by simp
theorem bya_append (l s : ByteArray) (i : Nat) : bya (l ++ s) (l.size + i) = bya s i := by
  unfold bya
  rw [append_list, size_list l, List.getD_eq_getElem?_getD, List.getElem?_append_right (by omega), Nat.add_sub_cancel_left, List.getD_eq_getElem?_getD]
theorem beq_list {a b : ByteArray} (h : a = b) : (a.toList == b.toList) = true := by rw [h]; simp

/-- What is cut apart at a comma and joined by one is the whole. -/
theorem join_at {s : ByteArray} {p : Nat} (h : p < s.size) (hp : bya s p = 44) : s.extract 0 p ++ ⟨#[44]⟩ ++ s.extract (p + 1) s.size = s := by
  apply ext_list
  rw [append_list, append_list, extract_list, extract_list]
  have h' : p < s.data.toList.length := by rw [← size_list]; exact h
  have e1 : s.data.toList[p] = 44 := by
    unfold bya at hp
    rw [List.getD_eq_getElem?_getD, List.getElem?_eq_getElem h', Option.getD_some] at hp
    exact UInt8.toNat_inj.1 hp
  have e2 : (s.data.toList.drop (p + 1)).take (s.size - (p + 1)) = s.data.toList.drop (p + 1) := List.take_of_length_le (by rw [List.length_drop, size_list]; omega)
  rw [e2, List.drop_zero, Nat.sub_zero]
  show s.data.toList.take p ++ [44] ++ _ = _
  rw [← e1, List.take_append_getElem, List.take_append_drop]
theorem left_of {l s : ByteArray} {p : Nat} : (l ++ s).extract 0 (l.size + p) = l ++ s.extract 0 p := by
  apply ext_list
  rw [append_list, extract_list, append_list, extract_list, List.drop_zero, List.drop_zero, Nat.sub_zero, Nat.sub_zero, size_list l, List.take_length_add_append]
theorem right_of {l s : ByteArray} {p : Nat} : (l ++ s).extract (l.size + p + 1) (l ++ s).size = s.extract (p + 1) s.size := by
  apply ext_list
  rw [extract_list, append_list, extract_list, size_append, size_list l, Nat.add_assoc, List.drop_length_add_append]
  congr 1
  omega
theorem cut_left {l s : ByteArray} {p : Nat} (h : cutOf s = some p) : cutOf (l ++ s) = some (l.size + p) := by
  unfold cutOf at h ⊢
  rw [size_append]
  exact scan_shift (bya_append l s) h
end Go.Proofs.Qxb6604116aMods
