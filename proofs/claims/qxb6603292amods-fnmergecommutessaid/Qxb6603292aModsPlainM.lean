/-
  SEAT b6603292aM. THE PLAIN LAW OF merge: the state of its loop, and what one round does to it.
-/
import Derived.Test.Qxb6603292aModsPlain
namespace Go.Proofs.Qxb6603292aMods

/-- Where t stands, or would stand, among the first n of f: the binary search's answer as a function. -/
def bsI (f : Nat → ByteArray) (t : ByteArray) : Nat → Nat
  | 0 => 0
  | n + 1 => if less (f n) t = true then n + 1 else bsI f t n
theorem bsI_of (f : Nat → ByteArray) (t : ByteArray) (i : Nat) : ∀ n, i ≤ n → (∀ k, k < i → less (f k) t = true) → (∀ k, i ≤ k → k < n → less (f k) t = false) → bsI f t n = i
  | 0, h, _, _ => by simp [bsI]; omega
  | n + 1, h, h1, h2 => by
    unfold bsI
    by_cases e : i = n + 1
    · rw [if_pos (h1 n (by omega))]; exact e.symm
    · rw [if_neg (by rw [h2 n (by omega) (by omega)]; simp)]
      exact bsI_of f t i n (by omega) h1 fun k a b => h2 k a (by omega)
def bsH (f : Nat → ByteArray) (t : ByteArray) (n : Nat) : Bool := Nat.blt (bsI f t n) n && (f (bsI f t n)).toList == t.toList
theorem bsH_of {f : Nat → ByteArray} {t : ByteArray} {n i : Nat} {held : Bool} (hi : bsI f t n = i) (h1 : held = true → i < n ∧ f i = t) (h2 : held = false → i < n → f i ≠ t) : bsH f t n = held := by
  unfold bsH
  rw [hi]
  cases held with
  | true =>
    obtain ⟨a, b⟩ := h1 rfl
    simp [a, b]
  | false =>
    by_cases a : i < n
    · have := h2 rfl a
      simp only [Bool.and_eq_false_iff, beq_eq_false_iff_ne]
      exact .inr fun e => this (toList_inj e)
    · simp [a]

/-- X laid over M from place off on. -/
def spl (M : List ByteArray) (off : Nat) (X : List ByteArray) : List ByteArray := M.take off ++ (X ++ M.drop (off + X.length))
theorem length_spl {M : List ByteArray} {off : Nat} {X : List ByteArray} (h : off + X.length ≤ M.length) : (spl M off X).length = M.length := by simp [spl]; omega

/-- The state of merge's loop: p of the first n and j of the others are still to come; from e on all stands in its place. L: the union of all. -/
structure MInv (N : List ByteArray) (G : Nat → ByteArray) (L : List ByteArray) (p e j : Nat) (M : List ByteArray) : Prop where
  hp : p ≤ N.length
  he : e ≤ N.length
  lenL : L.length = N.length
  lenM : M.length = N.length
  front : M.take p = N.take p
  mid : L.take e = U (N.take p) (lst j G)
  back : M.drop e = L.drop e

theorem MInv.pe {N : List ByteArray} {G : Nat → ByteArray} {L : List ByteArray} {p e j : Nat} {M : List ByteArray} (h : MInv N G L p e j M) : p ≤ e := by
  have h1 := length_U (N.take p) (lst j G)
  rw [← h.mid] at h1
  have := h.hp; have := h.he; have := h.lenL
  simp at h1; omega

theorem MInv.done {N : List ByteArray} {G : Nat → ByteArray} {L : List ByteArray} {p e : Nat} {M : List ByteArray} (h : MInv N G L p e 0 M) : M = L := by
  have hm : L.take e = N.take p := h.mid
  have e1 : e = p := by
    have := congrArg List.length hm
    have := h.hp; have := h.he; have := h.lenL
    simp at *; omega
  rw [← List.take_append_drop p M, ← List.take_append_drop e L, hm, h.front, ← h.back, e1]

theorem split_take {N : List ByteArray} {i p : Nat} (h : i ≤ p) : N.take p = N.take i ++ (N.take p).drop i := by
  have := List.take_append_drop i (N.take p)
  rw [List.take_take, Nat.min_eq_left h] at this
  exact this.symm

theorem MInv.held {N : List ByteArray} {G : Nat → ByteArray} {L : List ByteArray} {p e j i : Nat} {M : List ByteArray} (h : MInv N G L p e (j + 1) M) (hA : Asc (N.take p)) (hG : AscF (j + 1) G)
    (hip : i < p) (hit : N.getD i ByteArray.empty = G j) : i ≤ e - (p - i) ∧ MInv N G L i (e - (p - i)) j (spl M (e - (p - i)) ((M.take p).drop i)) := by
  have hpe := h.pe
  have hpN := h.hp
  have heN := h.he
  have hlM := h.lenM
  have hlL := h.lenL
  have hlY : ((N.take p).drop i).length = p - i := by simp; omega
  have hY : (N.take p).drop i = G j :: (N.take p).drop (i + 1) := by
    rw [List.drop_eq_getElem_cons (by simp; omega)]
    congr 1
    rw [← hit, List.getD_eq_getElem?_getD, List.getElem_take, List.getElem?_eq_getElem (by omega)]; rfl
  have hC : ∀ x ∈ lst j G, less x (G j) = true := fun x hx => by
    obtain ⟨q, hq, rfl⟩ := mem_lst.1 hx
    exact hG q j hq (by omega)
  have hstep : L.take e = U (N.take i) (lst j G) ++ (N.take p).drop i := by
    have hs := split_take (N := N) (Nat.le_of_lt hip)
    have hA' : Asc (N.take i ++ G j :: (N.take p).drop (i + 1)) := by rw [← hY, ← hs]; exact hA
    have hu := step_held hA' hC
    rw [← hY, ← hs] at hu
    rw [h.mid, lst_succ, hu]
  have hlen := congrArg List.length hstep
  have hiV := length_U (N.take i) (lst j G)
  simp only [List.length_append, hlY, List.length_take] at hlen hiV
  have ee : e - (p - i) = (U (N.take i) (lst j G)).length := by omega
  have hsplitL : L = U (N.take i) (lst j G) ++ ((N.take p).drop i ++ L.drop e) := by
    rw [← List.append_assoc, ← hstep, List.take_append_drop]
  have hie : i ≤ e - (p - i) := by omega
  refine ⟨hie, by omega, by omega, hlL, ?_, ?_, ?_, ?_⟩
  · rw [h.front, length_spl (by rw [hlY]; omega)]; exact hlM
  · rw [spl, List.take_append_of_le_length (by simp; omega), List.take_take, Nat.min_eq_left hie]
    have := congrArg (List.take i) h.front
    rw [List.take_take, List.take_take, Nat.min_eq_left (by omega)] at this
    exact this
  · rw [hsplitL, ee, List.take_left]
  · rw [h.front]
    have e2 : e - (p - i) + ((N.take p).drop i).length = e := by rw [hlY]; omega
    rw [spl, List.drop_left' (by simp; omega), e2, h.back]
    conv => rhs; rw [hsplitL, ee, List.drop_left]

theorem MInv.new {N : List ByteArray} {G : Nat → ByteArray} {L : List ByteArray} {p e j i : Nat} {M : List ByteArray} (h : MInv N G L p e (j + 1) M) (hA : Asc (N.take p)) (hG : AscF (j + 1) G)
    (hip : i ≤ p) (hlo : ∀ k, k < i → less (N.getD k ByteArray.empty) (G j) = true) (hhi : ∀ k, i ≤ k → k < p → less (N.getD k ByteArray.empty) (G j) = false) (hne : i < p → N.getD i ByteArray.empty ≠ G j) :
    i + 1 ≤ e - (p - i) ∧ MInv N G L i (e - (p - i) - 1) j ((spl M (e - (p - i)) ((M.take p).drop i)).set (e - (p - i) - 1) (G j)) := by
  have hpe := h.pe
  have hpN := h.hp
  have heN := h.he
  have hlM := h.lenM
  have hlL := h.lenL
  have hlY : ((N.take p).drop i).length = p - i := by simp; omega
  have hC : ∀ x ∈ lst j G, less x (G j) = true := fun x hx => by
    obtain ⟨q, hq, rfl⟩ := mem_lst.1 hx
    exact hG q j hq (by omega)
  have getD_of : ∀ k (hk : k < N.length), N.getD k ByteArray.empty = N[k] := fun k hk => by simp [hk]
  have hX : ∀ x ∈ N.take i, less x (G j) = true := fun x hx => by
    obtain ⟨k, hk, rfl⟩ := List.getElem_of_mem hx
    have hk' : k < i ∧ k < N.length := by rw [List.length_take] at hk; omega
    rw [List.getElem_take, ← getD_of k hk'.2]
    exact hlo k hk'.1
  have hYg : ∀ y ∈ (N.take p).drop i, less (G j) y = true := fun y hy => by
    obtain ⟨k, hk, rfl⟩ := List.getElem_of_mem hy
    have hk' : i + k < p := by rw [hlY] at hk; omega
    have h0 : ∀ q, q < p → (hq : q < N.length) → i ≤ q → less (G j) N[q] = true := by
      intro q hqp hq hiq
      have a : less (G j) (N.getD i ByteArray.empty) = true := by
        cases hx : less (G j) (N.getD i ByteArray.empty) with
        | true => rfl
        | false => exact absurd (less_total (hhi i (Nat.le_refl _) (by omega)) hx) (hne (by omega))
      by_cases eq : q = i
      · subst eq; rw [← getD_of q hq]; exact a
      · refine less_trans a ?_
        rw [getD_of i (by omega)]
        have := List.pairwise_iff_getElem.1 hA i q (by simp; omega) (by simp; omega) (by omega)
        simpa using this
    rw [List.getElem_drop, List.getElem_take]
    exact h0 (i + k) hk' (by omega) (by omega)
  have hstep : L.take e = U (N.take i) (lst j G) ++ G j :: (N.take p).drop i := by
    have hs := split_take (N := N) hip
    have hA' : Asc (N.take i ++ (N.take p).drop i) := by rw [← hs]; exact hA
    have hu := step_new hA' hX hYg hC
    rw [← hs] at hu
    rw [h.mid, lst_succ, hu]
  have hlen := congrArg List.length hstep
  have hiV := length_U (N.take i) (lst j G)
  simp only [List.length_append, List.length_cons, hlY, List.length_take] at hlen hiV
  have ee : e - (p - i) - 1 = (U (N.take i) (lst j G)).length := by omega
  have hsplitL : L = U (N.take i) (lst j G) ++ (G j :: (N.take p).drop i ++ L.drop e) := by
    rw [← List.append_assoc, ← hstep, List.take_append_drop]
  have hlS : (spl M (e - (p - i)) ((M.take p).drop i)).length = M.length := by rw [h.front]; exact length_spl (by rw [hlY]; omega)
  refine ⟨by omega, by omega, by omega, hlL, ?_, ?_, ?_, ?_⟩
  · rw [List.length_set, hlS]; exact hlM
  · rw [List.take_set_of_le (by omega), spl, List.take_append_of_le_length (by simp; omega), List.take_take, Nat.min_eq_left (by omega)]
    have := congrArg (List.take i) h.front
    rw [List.take_take, List.take_take, Nat.min_eq_left (by omega)] at this
    exact this
  · rw [hsplitL, ee, List.take_left]
  · have e2 : e - (p - i) + ((N.take p).drop i).length = e := by rw [hlY]; omega
    rw [List.drop_eq_getElem_cons (by rw [List.length_set, hlS]; omega), List.getElem_set_self]
    have e3 : e - (p - i) - 1 + 1 = e - (p - i) := by omega
    rw [e3, List.drop_set_of_lt (by omega), h.front, spl, List.drop_left' (by simp; omega), e2, h.back]
    conv => rhs; rw [hsplitL, ee, List.drop_left]
    rfl
end Go.Proofs.Qxb6603292aMods
