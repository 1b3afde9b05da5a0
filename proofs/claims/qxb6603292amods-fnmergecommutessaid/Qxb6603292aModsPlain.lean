/-
  SEAT b6603292aM. THE PLAIN LAW: lists in strictly ascending order, their union, one step of 'merge'. No Go in sight but the order of bytes itself.
-/
import GoSem.Claim
import Derived.WideShapes
import Derived.WalkKit
import Derived.ProofKit
namespace Go.Proofs.Qxb6603292aMods

/-- Go's '<' on strings. -/
def less (a b : ByteArray) : Bool := Op.bytesLess a.toList b.toList

theorem bl_irrefl : ∀ x : List UInt8, Op.bytesLess x x = false
  | [] => rfl
  | a :: x => by simp [Op.bytesLess, bl_irrefl x]
theorem bl_trans : ∀ x y z : List UInt8, Op.bytesLess x y = true → Op.bytesLess y z = true → Op.bytesLess x z = true
  | _, _, [], _, h => by cases ‹List UInt8› <;> simp [Op.bytesLess] at h
  | [], _, _ :: _, _, _ => rfl
  | _ :: _, [], _ :: _, h, _ => by simp [Op.bytesLess] at h
  | a :: x, b :: y, c :: z, h1, h2 => by
    simp only [Op.bytesLess, Bool.or_eq_true, Bool.and_eq_true, decide_eq_true_eq, beq_iff_eq] at h1 h2 ⊢
    rcases h1 with h1 | ⟨rfl, h1⟩
    · rcases h2 with h2 | ⟨rfl, h2⟩
      · exact .inl (UInt8.lt_trans h1 h2)
      · exact .inl h1
    · rcases h2 with h2 | ⟨rfl, h2⟩
      · exact .inl h2
      · exact .inr ⟨rfl, bl_trans x y z h1 h2⟩
theorem bl_total : ∀ x y : List UInt8, Op.bytesLess x y = false → Op.bytesLess y x = false → x = y
  | [], [], _, _ => rfl
  | [], _ :: _, h, _ => by simp [Op.bytesLess] at h
  | _ :: _, [], _, h => by simp [Op.bytesLess] at h
  | a :: x, b :: y, h1, h2 => by
    simp only [Op.bytesLess, Bool.or_eq_false_iff, Bool.and_eq_false_iff, decide_eq_false_iff_not, beq_eq_false_iff_ne] at h1 h2
    have hab : a = b := UInt8.le_antisymm (UInt8.not_lt.1 h2.1) (UInt8.not_lt.1 h1.1)
    subst hab
    rw [bl_total x y (h1.2.resolve_left (by simp)) (h2.2.resolve_left (by simp))]

theorem less_irrefl (a : ByteArray) : less a a = false := bl_irrefl _
theorem less_trans {a b c : ByteArray} (h1 : less a b = true) (h2 : less b c = true) : less a c = true := bl_trans _ _ _ h1 h2
theorem toList_inj {a b : ByteArray} (h : a.toList = b.toList) : a = b := by
  rw [ByteArray.toList_eq, ByteArray.toList_eq] at h
  exact Go.WideShapes.bytes_inj h
theorem less_total {a b : ByteArray} (h1 : less a b = false) (h2 : less b a = false) : a = b := toList_inj (bl_total _ _ h1 h2)
theorem less_asymm {a b : ByteArray} (h1 : less a b = true) : less b a = false := by
  cases h : less b a with
  | false => rfl
  | true => have := less_trans h1 h; rw [less_irrefl] at this; cases this
/-- a < b or a = b, where not b < a -/
theorem less_of_not {a b c : ByteArray} (h1 : less a b = true) (h2 : less c b = false) : less a c = true := by
  cases h : less a c with
  | true => rfl
  | false =>
    cases h3 : less c a with
    | true => have := less_trans h3 h1; rw [h2] at this; cases this
    | false => have := less_total h h3; subst this; rw [h1] at h2; cases h2

/-- Strictly ascending. -/
def Asc (l : List ByteArray) : Prop := l.Pairwise fun a b => less a b = true

theorem asc_uniq : ∀ {l k : List ByteArray}, Asc l → Asc k → (∀ x, x ∈ l ↔ x ∈ k) → l = k
  | [], [], _, _, _ => rfl
  | [], b :: _, _, _, h => absurd ((h b).2 (by simp)) (by simp)
  | a :: _, [], _, _, h => absurd ((h a).1 (by simp)) (by simp)
  | a :: l, b :: k, hl, hk, h => by
    have hl' := List.pairwise_cons.1 hl
    have hk' := List.pairwise_cons.1 hk
    have hab : a = b := by
      have h1 : a = b ∨ a ∈ k := by simpa using (h a).1 (by simp)
      have h2 : b = a ∨ b ∈ l := by simpa using (h b).2 (by simp)
      rcases h1 with h1 | h1
      · exact h1
      · rcases h2 with h2 | h2
        · exact h2.symm
        · have p := hk'.1 a h1
          have q := hl'.1 b h2
          rw [less_asymm p] at q; cases q
    subst hab
    rw [asc_uniq hl'.2 hk'.2 fun x => ?_]
    have hx := h x
    simp only [List.mem_cons] at hx
    constructor
    · intro hm
      rcases hx.1 (.inr hm) with e | hm'
      · subst e; have := hl'.1 x hm; rw [less_irrefl] at this; cases this
      · exact hm'
    · intro hm
      rcases hx.2 (.inr hm) with e | hm'
      · subst e; have := hk'.1 x hm; rw [less_irrefl] at this; cases this
      · exact hm'

/-- A string laid into an ascending list, unless it is there. -/
def ins (t : ByteArray) : List ByteArray → List ByteArray
  | [] => [t]
  | x :: xs => if less x t = true then x :: ins t xs else if less t x = true then t :: x :: xs else x :: xs
theorem mem_ins (t y : ByteArray) : ∀ xs, y ∈ ins t xs ↔ y = t ∨ y ∈ xs
  | [] => by simp [ins]
  | x :: xs => by
    unfold ins
    split
    · simp only [List.mem_cons, mem_ins t y xs]
      constructor
      · rintro (h | h | h)
        · exact .inr (.inl h)
        · exact .inl h
        · exact .inr (.inr h)
      · rintro (h | h | h)
        · exact .inr (.inl h)
        · exact .inl h
        · exact .inr (.inr h)
    · split
      · simp
      · rename_i h1 h2
        have e : x = t := less_total (by simpa using h1) (by simpa using h2)
        subst e
        simp
theorem asc_ins (t : ByteArray) : ∀ {xs}, Asc xs → Asc (ins t xs)
  | [], _ => by simp [ins, Asc]
  | x :: xs, h => by
    have h' := List.pairwise_cons.1 h
    unfold ins
    split
    · rename_i h1
      refine List.pairwise_cons.2 ⟨fun y hy => ?_, asc_ins t h'.2⟩
      rcases (mem_ins t y xs).1 hy with e | hm
      · subst e; exact h1
      · exact h'.1 y hm
    · split
      · rename_i h1 h2
        refine List.pairwise_cons.2 ⟨fun y hy => ?_, h⟩
        rcases List.mem_cons.1 hy with e | hm
        · subst e; exact h2
        · exact less_trans h2 (h'.1 y hm)
      · exact h
theorem length_ins (t : ByteArray) : ∀ xs, xs.length ≤ (ins t xs).length
  | [] => by simp [ins]
  | x :: xs => by
    have := length_ins t xs
    unfold ins
    split
    · simp; omega
    · split
      · simp
      · simp

/-- The union of two lists, the first ascending. -/
def U (a : List ByteArray) : List ByteArray → List ByteArray
  | [] => a
  | t :: b => ins t (U a b)
theorem mem_U (a : List ByteArray) (y : ByteArray) : ∀ b, y ∈ U a b ↔ y ∈ a ∨ y ∈ b
  | [] => by simp [U]
  | t :: b => by
    simp only [U, mem_ins, mem_U a y b, List.mem_cons]
    constructor
    · rintro (h | h | h)
      · exact .inr (.inl h)
      · exact .inl h
      · exact .inr (.inr h)
    · rintro (h | h | h)
      · exact .inr (.inl h)
      · exact .inl h
      · exact .inr (.inr h)
theorem asc_U {a : List ByteArray} (h : Asc a) : ∀ b, Asc (U a b)
  | [] => h
  | t :: b => asc_ins t (asc_U h b)
theorem length_U (a : List ByteArray) : ∀ b, a.length ≤ (U a b).length
  | [] => Nat.le_refl _
  | t :: b => Nat.le_trans (length_U a b) (length_ins t _)
theorem U_comm {a b : List ByteArray} (ha : Asc a) (hb : Asc b) : U a b = U b a :=
  asc_uniq (asc_U ha b) (asc_U hb a) fun x => by rw [mem_U, mem_U]; exact Or.comm
theorem U_of {a b l : List ByteArray} (ha : Asc a) (hl : Asc l) (h : ∀ x, x ∈ l ↔ x ∈ a ∨ x ∈ b) : l = U a b :=
  asc_uniq hl (asc_U ha b) fun x => by rw [mem_U, h]

theorem asc_append {a b : List ByteArray} (ha : Asc a) (hb : Asc b) (h : ∀ x ∈ a, ∀ y ∈ b, less x y = true) : Asc (a ++ b) :=
  List.pairwise_append.2 ⟨ha, hb, h⟩
theorem asc_left {a b : List ByteArray} (h : Asc (a ++ b)) : Asc a := (List.pairwise_append.1 h).1
theorem asc_right {a b : List ByteArray} (h : Asc (a ++ b)) : Asc b := (List.pairwise_append.1 h).2.1

/-- ONE STEP OF merge, t held: the tail Y, which begins with t, goes to the back as it is. -/
theorem step_held {X Y C : List ByteArray} {t : ByteArray} (hA : Asc (X ++ t :: Y)) (hC : ∀ x ∈ C, less x t = true) :
    U (X ++ t :: Y) (C ++ [t]) = U X C ++ t :: Y := by
  have hp := List.pairwise_append.1 hA
  have hY := List.pairwise_cons.1 hp.2.1
  refine (U_of hA (asc_append (asc_U hp.1 C) hp.2.1 fun x hx y hy => ?_) fun x => ?_).symm
  · rcases (mem_U X x C).1 hx with h | h
    · exact hp.2.2 x h y hy
    · rcases List.mem_cons.1 hy with e | hm
      · subst e; exact hC x h
      · exact less_trans (hC x h) (hY.1 y hm)
  · simp only [List.mem_append, mem_U, List.mem_cons, List.not_mem_nil, or_false]
    constructor
    · rintro ((h | h) | h | h)
      · exact .inl (.inl h)
      · exact .inr (.inl h)
      · exact .inr (.inr h)
      · exact .inl (.inr (.inr h))
    · rintro ((h | h | h) | h | h)
      · exact .inl (.inl h)
      · exact .inr (.inl h)
      · exact .inr (.inr h)
      · exact .inl (.inr h)
      · exact .inr (.inl h)
/-- ONE STEP OF merge, t new: it is laid ahead of the tail. -/
theorem step_new {X Y C : List ByteArray} {t : ByteArray} (hA : Asc (X ++ Y)) (hX : ∀ x ∈ X, less x t = true) (hY : ∀ y ∈ Y, less t y = true) (hC : ∀ x ∈ C, less x t = true) :
    U (X ++ Y) (C ++ [t]) = U X C ++ t :: Y := by
  have hp := List.pairwise_append.1 hA
  have hlt : ∀ x ∈ U X C, less x t = true := fun x hx => by
    rcases (mem_U X x C).1 hx with h | h
    · exact hX x h
    · exact hC x h
  refine (U_of hA (asc_append (asc_U hp.1 C) (List.pairwise_cons.2 ⟨hY, hp.2.1⟩) fun x hx y hy => ?_) fun x => ?_).symm
  · rcases List.mem_cons.1 hy with e | hm
    · subst e; exact hlt x hx
    · exact less_trans (hlt x hx) (hY y hm)
  · simp only [List.mem_append, mem_U, List.mem_cons, List.not_mem_nil, or_false]
    constructor
    · rintro ((h | h) | h | h)
      · exact .inl (.inl h)
      · exact .inr (.inl h)
      · exact .inr (.inr h)
      · exact .inl (.inr h)
    · rintro ((h | h) | h | h)
      · exact .inl (.inl h)
      · exact .inr (.inr h)
      · exact .inl (.inr h)
      · exact .inr (.inl h)

/-- The list f 0 .. f (n-1). -/
def lst (n : Nat) (f : Nat → ByteArray) : List ByteArray := (List.range n).map f
theorem lst_succ (n : Nat) (f : Nat → ByteArray) : lst (n + 1) f = lst n f ++ [f n] := by simp [lst, List.range_succ]
theorem length_lst (n : Nat) (f : Nat → ByteArray) : (lst n f).length = n := by simp [lst]
theorem mem_lst {n : Nat} {f : Nat → ByteArray} {x : ByteArray} : x ∈ lst n f ↔ ∃ p, p < n ∧ f p = x := by simp [lst]
theorem get_lst (n : Nat) (f : Nat → ByteArray) {j : Nat} (h : j < n) : (lst n f).getD j ByteArray.empty = f j := by simp [lst, h]
def AscF (n : Nat) (f : Nat → ByteArray) : Prop := ∀ k l, k < l → l < n → less (f k) (f l) = true
theorem ascF_of {n : Nat} {f : Nat → ByteArray} (h : ∀ j, j + 1 < n → less (f j) (f (j + 1)) = true) : AscF n f := by
  intro k l hkl
  induction l with
  | zero => omega
  | succ l ih =>
    intro hl
    by_cases e : k = l
    · subst e; exact h k hl
    · exact less_trans (ih (by omega) (by omega)) (h l hl)
theorem AscF.mono {n m : Nat} {f : Nat → ByteArray} (h : AscF n f) (hm : m ≤ n) : AscF m f := fun k l h1 h2 => h k l h1 (by omega)
theorem asc_lst : ∀ {n : Nat} {f : Nat → ByteArray}, AscF n f → Asc (lst n f)
  | 0, _, _ => List.Pairwise.nil
  | n + 1, f, h => by
    rw [lst_succ]
    refine asc_append (asc_lst (h.mono (Nat.le_succ n))) (List.pairwise_singleton _ _) fun x hx y hy => ?_
    obtain ⟨p, hp, rfl⟩ := mem_lst.1 hx
    obtain rfl : y = f n := by simpa using hy
    exact h p n hp (Nat.lt_succ_self n)

/-- The union by two pointers: what has been gathered, T, when i of the first and j of the second are through. -/
structure UInv (n m : Nat) (f g : Nat → ByteArray) (i j : Nat) (T : List ByteArray) : Prop where
  asc : Asc T
  mem : ∀ x, x ∈ T ↔ x ∈ lst i f ∨ x ∈ lst j g
  lf : ∀ x, x ∈ T → i < n → less x (f i) = true
  lg : ∀ x, x ∈ T → j < m → less x (g j) = true
theorem UInv.start (n m : Nat) (f g : Nat → ByteArray) : UInv n m f g 0 0 [] :=
  ⟨List.Pairwise.nil, fun x => by simp [lst], fun x h => absurd h (by simp), fun x h => absurd h (by simp)⟩
theorem UInv.left {n m : Nat} {f g : Nat → ByteArray} {i j : Nat} {T : List ByteArray} (h : UInv n m f g i j T) (hi : i < n) (hf : AscF n f) (hj : j < m → less (f i) (g j) = true) : UInv n m f g (i + 1) j (T ++ [f i]) := by
  refine ⟨asc_append h.asc (List.pairwise_singleton _ _) fun x hx y hy => ?_, fun x => ?_, fun x hx h1 => ?_, fun x hx h1 => ?_⟩
  · obtain rfl : y = f i := by simpa using hy
    exact h.lf x hx hi
  · rw [lst_succ]
    simp only [List.mem_append, h.mem x, List.mem_cons, List.not_mem_nil, or_false]
    constructor
    · rintro ((a | a) | a)
      · exact .inl (.inl a)
      · exact .inr a
      · exact .inl (.inr a)
    · rintro ((a | a) | a)
      · exact .inl (.inl a)
      · exact .inr a
      · exact .inl (.inr a)
  · rcases List.mem_append.1 hx with a | a
    · exact less_trans (h.lf x a hi) (hf i (i + 1) (by omega) h1)
    · obtain rfl : x = f i := by simpa using a
      exact hf i (i + 1) (by omega) h1
  · rcases List.mem_append.1 hx with a | a
    · exact h.lg x a h1
    · obtain rfl : x = f i := by simpa using a
      exact hj h1
theorem UInv.swap {n m : Nat} {f g : Nat → ByteArray} {i j : Nat} {T : List ByteArray} (h : UInv n m f g i j T) : UInv m n g f j i T :=
  ⟨h.asc, fun x => (h.mem x).trans Or.comm, h.lg, h.lf⟩
theorem UInv.right {n m : Nat} {f g : Nat → ByteArray} {i j : Nat} {T : List ByteArray} (h : UInv n m f g i j T) (hj : j < m) (hg : AscF m g) (hi : i < n → less (g j) (f i) = true) : UInv n m f g i (j + 1) (T ++ [g j]) :=
  (h.swap.left hj hg hi).swap
theorem UInv.both {n m : Nat} {f g : Nat → ByteArray} {i j : Nat} {T : List ByteArray} (h : UInv n m f g i j T) (hi : i < n) (hj : j < m) (hf : AscF n f) (hg : AscF m g) (he : f i = g j) : UInv n m f g (i + 1) (j + 1) (T ++ [f i]) := by
  refine ⟨asc_append h.asc (List.pairwise_singleton _ _) fun x hx y hy => ?_, fun x => ?_, fun x hx h1 => ?_, fun x hx h1 => ?_⟩
  · obtain rfl : y = f i := by simpa using hy
    exact h.lf x hx hi
  · rw [lst_succ, lst_succ, ← he]
    simp only [List.mem_append, h.mem x, List.mem_cons, List.not_mem_nil, or_false]
    constructor
    · rintro ((a | a) | a)
      · exact .inl (.inl a)
      · exact .inr (.inl a)
      · exact .inl (.inr a)
    · rintro ((a | a) | a | a)
      · exact .inl (.inl a)
      · exact .inr a
      · exact .inl (.inr a)
      · exact .inr a
  · rcases List.mem_append.1 hx with a | a
    · exact less_trans (h.lf x a hi) (hf i (i + 1) (by omega) h1)
    · obtain rfl : x = f i := by simpa using a
      exact hf i (i + 1) (by omega) h1
  · rcases List.mem_append.1 hx with a | a
    · exact less_trans (h.lg x a hj) (hg j (j + 1) (by omega) h1)
    · obtain rfl : x = f i := by simpa using a
      rw [he]
      exact hg j (j + 1) (by omega) h1
theorem UInv.done {n m : Nat} {f g : Nat → ByteArray} {T : List ByteArray} (h : UInv n m f g n m T) (hf : AscF n f) : T = U (lst n f) (lst m g) := U_of (asc_lst hf) h.asc h.mem
theorem take_set_succ {L : List ByteArray} {k : Nat} (x : ByteArray) (h : k < L.length) : (L.set k x).take (k + 1) = L.take k ++ [x] := by
  rw [List.take_succ_eq_append_getElem (by simpa using h), List.take_set_of_le (Nat.le_refl _)]
  simp
end Go.Proofs.Qxb6603292aMods
