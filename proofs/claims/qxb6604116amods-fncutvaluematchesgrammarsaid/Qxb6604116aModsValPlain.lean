/-
  SEAT b6604116aM. THE PLAIN LAW OF cutValue: the places that a reader of a quoted string comes to, and what they say of a string that is cut off or carried on.
-/
import Derived.Test.Qxb6604116aModsCutPlain
namespace Go.Proofs.Qxb6604116aMods

/-- The byte ends a value that is written bare. -/
def dl (c : Nat) : Bool := decide (c = 59) || decide (c = 32) || decide (c = 9)

/-- The place that a reader of a quoted string has come to behind k steps: past the quote, then a byte or a pair at a time. -/
def pos (b : Nat → Nat) : Nat → Nat
  | 0 => 1
  | k + 1 => if b (pos b k) = 92 then pos b k + 2 else pos b k + 1
theorem pos_pair {b : Nat → Nat} {k : Nat} (h : b (pos b k) = 92) : pos b (k + 1) = pos b k + 2 := by rw [pos, if_pos h]
theorem pos_one {b : Nat → Nat} {k : Nat} (h : b (pos b k) ≠ 92) : pos b (k + 1) = pos b k + 1 := by rw [pos, if_neg h]
theorem pos_up (b : Nat → Nat) (k : Nat) : pos b k < pos b (k + 1) ∧ pos b (k + 1) ≤ pos b k + 2 := by
  by_cases h : b (pos b k) = 92
  · rw [pos_pair h]; omega
  · rw [pos_one h]; omega
theorem pos_mono (b : Nat → Nat) {k : Nat} : ∀ {m : Nat}, k ≤ m → pos b k ≤ pos b m
  | 0, h => by rw [show k = 0 from by omega]; exact Nat.le_refl _
  | m + 1, h => by
    by_cases e : k = m + 1
    · rw [e]; exact Nat.le_refl _
    · have := pos_mono b (m := m) (show k ≤ m by omega)
      have := (pos_up b m).1
      omega
theorem pos_ge (b : Nat → Nat) (k : Nat) : 1 ≤ pos b k := pos_mono b (Nat.zero_le k)
theorem pos_congr {b c : Nat → Nat} {n : Nat} (h : ∀ i, i < n → c i = b i) : ∀ k, (∀ j, j < k → pos b j < n) → pos c k = pos b k
  | 0, _ => rfl
  | k + 1, hk => by
    have ih := pos_congr h k fun j hj => hk j (by omega)
    show (if c (pos c k) = 92 then pos c k + 2 else pos c k + 1) = if b (pos b k) = 92 then pos b k + 2 else pos b k + 1
    rw [ih, h _ (hk k (by omega))]

/-- t is a quoted string: quotes at both ends; the reader comes to the last one and to none before it. -/
structure Good (t : ByteArray) (K : Nat) : Prop where
  size : 2 ≤ t.size
  head : bya t 0 = 34
  last : bya t (t.size - 1) = 34
  comes : pos (bya t) K = t.size - 1
  none : ∀ j, j < K → bya t (pos (bya t) j) ≠ 34

/-! ### The cut of a string, as lists of bytes -/
theorem bya_take {s : ByteArray} {e k : Nat} (h : k < e) : bya (s.extract 0 e) k = bya s k := by
  unfold bya
  rw [extract_list, List.drop_zero, Nat.sub_zero, List.getD_eq_getElem?_getD, List.getElem?_take, if_pos h, List.getD_eq_getElem?_getD]
theorem bya_drop {s : ByteArray} {e : Nat} (he : e < s.size) : bya (s.extract e s.size) 0 = bya s e := by
  unfold bya
  rw [extract_list, List.getD_eq_getElem?_getD, List.getElem?_take, if_pos (by omega), List.getElem?_drop, Nat.add_zero, List.getD_eq_getElem?_getD]
theorem size_take {s : ByteArray} {e : Nat} (he : e ≤ s.size) : (s.extract 0 e).size = e := by simp; omega
theorem size_drop {s : ByteArray} {e : Nat} : (s.extract e s.size).size = s.size - e := by simp
theorem join_cut {s : ByteArray} {e : Nat} : s.extract 0 e ++ s.extract e s.size = s := by
  apply ext_list
  rw [append_list, extract_list, extract_list, List.drop_zero, Nat.sub_zero]
  have e2 : (s.data.toList.drop e).take (s.size - e) = s.data.toList.drop e := List.take_of_length_le (by rw [List.length_drop, size_list]; omega)
  rw [e2, List.take_append_drop]
theorem bya_app_left {s x : ByteArray} {i : Nat} (h : i < s.size) : bya (s ++ x) i = bya s i := by
  unfold bya
  rw [append_list, List.getD_eq_getElem?_getD, List.getElem?_append_left (by rw [← size_list]; exact h), List.getD_eq_getElem?_getD]

/-- A string that is cut off behind the quote that the reader comes to first is a quoted string. -/
theorem good_cut {s : ByteArray} {K : Nat} (h0 : bya s 0 = 34) (hK : pos (bya s) K < s.size) (hq : bya s (pos (bya s) K) = 34) (hn : ∀ j, j < K → bya s (pos (bya s) j) ≠ 34) :
    Good (s.extract 0 (pos (bya s) K + 1)) K := by
  have hsz := size_take (s := s) (e := pos (bya s) K + 1) hK
  have hg := pos_ge (bya s) K
  have hag : ∀ i, i < pos (bya s) K + 1 → bya (s.extract 0 (pos (bya s) K + 1)) i = bya s i := fun i hi => bya_take hi
  have hlt : ∀ j, j < K → pos (bya s) j < pos (bya s) K + 1 := fun j hj => by have := pos_mono (bya s) (Nat.le_of_lt hj); omega
  have hpos : ∀ j, j ≤ K → pos (bya (s.extract 0 (pos (bya s) K + 1))) j = pos (bya s) j := fun j hj => pos_congr hag j fun i hi => hlt i (by omega)
  refine ⟨by omega, by rw [hag 0 (by omega)]; exact h0, ?_, ?_, fun j hj => ?_⟩
  · rw [hsz, Nat.add_sub_cancel, hag _ (by omega)]; exact hq
  · rw [hpos K (Nat.le_refl _), hsz]; omega
  · rw [hpos j (by omega), hag _ (hlt j hj)]; exact hn j hj

/-- A quoted string that does not end, its reader at the end: a quote ends it. -/
theorem good_end {s : ByteArray} {K : Nat} (h1 : 1 ≤ s.size) (h0 : bya s 0 = 34) (hK : pos (bya s) K = s.size) (hlt : ∀ j, j < K → pos (bya s) j < s.size) (hn : ∀ j, j < K → bya s (pos (bya s) j) ≠ 34) :
    Good (s ++ ⟨#[34]⟩) K := by
  have hsz : (s ++ ⟨#[34]⟩ : ByteArray).size = s.size + 1 := by rw [size_append]; rfl
  have hag : ∀ i, i < s.size → bya (s ++ ⟨#[34]⟩) i = bya s i := fun i hi => bya_app_left hi
  have hpos : ∀ j, j ≤ K → pos (bya (s ++ ⟨#[34]⟩)) j = pos (bya s) j := fun j hj => pos_congr hag j fun i hi => hlt i (by omega)
  refine ⟨by omega, by rw [hag 0 (by omega)]; exact h0, ?_, ?_, fun j hj => ?_⟩
  · rw [hsz, Nat.add_sub_cancel]
    have := bya_append s ⟨#[34]⟩ 0
    rw [Nat.add_zero] at this
    rw [this]; rfl
  · rw [hpos K (Nat.le_refl _), hsz]; omega
  · rw [hpos j (by omega), hag _ (hlt j hj)]; exact hn j hj
/-- .. its reader past the end, behind a lone backslash: a byte and a quote end it. -/
theorem good_past {s : ByteArray} {K : Nat} (h1 : 1 ≤ s.size) (h0 : bya s 0 = 34) (hK : pos (bya s) K = s.size + 1) (hlt : ∀ j, j < K → pos (bya s) j < s.size) (hn : ∀ j, j < K → bya s (pos (bya s) j) ≠ 34) :
    Good (s ++ ⟨#[97, 34]⟩) K := by
  have hsz : (s ++ ⟨#[97, 34]⟩ : ByteArray).size = s.size + 2 := by rw [size_append]; rfl
  have hag : ∀ i, i < s.size → bya (s ++ ⟨#[97, 34]⟩) i = bya s i := fun i hi => bya_app_left hi
  have hpos : ∀ j, j ≤ K → pos (bya (s ++ ⟨#[97, 34]⟩)) j = pos (bya s) j := fun j hj => pos_congr hag j fun i hi => hlt i (by omega)
  refine ⟨by omega, by rw [hag 0 (by omega)]; exact h0, ?_, ?_, fun j hj => ?_⟩
  · have := bya_append s ⟨#[97, 34]⟩ 1
    rw [hsz, show s.size + 2 - 1 = s.size + 1 from by omega, this]; rfl
  · rw [hpos K (Nat.le_refl _), hsz]; omega
  · rw [hpos j (by omega), hag _ (hlt j hj)]; exact hn j hj
end Go.Proofs.Qxb6604116aMods
