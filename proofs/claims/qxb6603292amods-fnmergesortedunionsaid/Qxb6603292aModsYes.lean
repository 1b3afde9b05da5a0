/-
  SEAT b6603292aM. SMALL WORDS SHARED BY THE TWO LAWS' WALKS.
-/
import Derived.Test.Qxb6603292aModsUnion
import Derived.Test.Qxb6603292aModsMerge
namespace Go.Proofs.Qxb6603292aMods
open Go.ChangeShapes Go.WideShapes Go.ChangeAt Go.RowKit

/-- The law answers true; nothing that was there has turned. -/
def Yes (w : World) (e : Ending) (w' : World) : Prop := e = .returned (.bool true) ∧ Below w.heap.size w w'
theorem Yes.mk {w w' : World} (h : Below w.heap.size w w') : Yes w (.returned (.bool true)) w' := ⟨rfl, h⟩
theorem Sl.drewN {w : World} {ao : Option Addr} {n : Nat} {f : Nat → ByteArray} (h : Sl w ao n f) (q : Nat) : Sl (w.drewN q) ao n f := h

theorem Cl.sl {w w1 : World} {ao : Option Addr} {n : Nat} {f : Nat → ByteArray} (hc : 0 < n → ao = some ⟨w.heap.size, 0, none⟩ ∧ ∃ L, Row w1 w.heap.size L ∧ L.length = n ∧ ∀ j, j < n → L.getD j ByteArray.empty = f j) :
    Sl w1 ao n f ∧ ∀ a, ao = some a → 0 < n → a.block < w1.heap.size := by
  refine ⟨fun h0 => ?_, fun a h1 h0 => ?_⟩
  · obtain ⟨rfl, L, hr, hl, hj⟩ := hc h0
    exact ⟨w.heap.size, 0, rfl, fun j hj' => by rw [Nat.zero_add, hr.cell (by omega), hj j hj']⟩
  · obtain ⟨h2, L, hr, _⟩ := hc h0
    rw [h2] at h1
    cases h1
    exact hr.lt
theorem take_over {f : Nat → ByteArray} {L : List ByteArray} {k : Nat} (h : k ≤ L.length) : (over f L k).take k = lst k f := by
  refine List.ext_getElem (by rw [List.length_take, length_over, length_lst]; omega) fun j h1 h2 => ?_
  have hj : j < k := by rw [length_lst] at h2; exact h2
  have h3 := get_over f L j k (by omega)
  rw [if_pos hj, List.getD_eq_getElem?_getD, List.getElem?_eq_getElem (by rw [length_over]; omega), Option.getD_some] at h3
  simp [lst, h3]
end Go.Proofs.Qxb6603292aMods
