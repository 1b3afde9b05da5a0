/-
  SEAT b6603292aM. A SLICE OF STRINGS THAT CAME IN, as the walks take it.
-/
import Derived.Test.Qxb6603292aModsReads
import Derived.SliceStrings
import Derived.OpenShut
import Derived.ShutString
import Derived.ChangeOld
import Derived.Below
namespace Go.Proofs.Qxb6603292aMods
open Go.ChangeShapes Go.WideShapes Go.ChangeAt Go.RowKit

theorem own : ownKnob Trym.prog.godebug = none := by kernel_rfl
theorem laidOut : laidOutB Trym.prog = true := by kernel_rfl

/-- It is nil; or it leads to a row of 'cap' cells, the strings 'ss' (the first 'len' are its elements, the rest its spare room). -/
def IsRowS (w : World) (a : Option Addr) (len cap : Nat) (ss : List ByteArray) : Prop :=
  (a = none ∧ len = 0 ∧ cap = 0 ∧ ss = []) ∨
  ∃ x, a = some x ∧ len ≤ cap ∧ cap ≤ maxLen ∧ ss.length = cap ∧ ∀ i, i < ss.length → w.cell? (x.add i) = some (.string (ss.getD i ByteArray.empty))

theorem IsRowS.facts {w : World} {a : Option Addr} {len cap : Nat} {ss : List ByteArray} (h : IsRowS w a len cap ss) :
    len ≤ maxLen ∧ len ≤ cap ∧ Sl w a len (fun j => ss.getD j ByteArray.empty) ∧ ∀ x, a = some x → 0 < len → x.block < w.heap.size := by
  rcases h with ⟨rfl, rfl, rfl, rfl⟩ | ⟨x, rfl, hl, hm, hs, hc⟩
  · exact ⟨Nat.zero_le _, Nat.le_refl _, fun h => absurd h (Nat.lt_irrefl _), fun x h => by cases h⟩
  · obtain ⟨b, off, spot⟩ := x
    refine ⟨Nat.le_trans hl hm, hl, fun h0 => ?_, fun x hx h0 => ?_⟩
    · have hspot : spot = none := by simpa [Addr.add] using World.cell?_spot (hc 0 (by omega))
      subst hspot
      exact ⟨b, off, rfl, fun j hj => by rw [← add_plain]; exact hc j (by omega)⟩
    · cases hx
      have h1 := hc 0 (by omega)
      have hspot : spot = none := by simpa [Addr.add] using World.cell?_spot h1
      subst hspot
      rw [add_plain] at h1
      show b < w.heap.size
      by_cases hb : b < w.heap.size
      · exact hb
      · exfalso
        unfold World.cell? at h1
        rw [Array.getElem?_eq_none (by simpa using hb)] at h1
        cases h1

theorem isRowS_of {H : Type} {enc : TypeId × Value → H} {W : World} {a : Option Addr} {len cap : Nat} {d : DataW H} {p : List MemPlace} (h : DataW.Trod enc Trym.prog W 0 (fun _ => true) true 24 (.slice a len cap) d p) :
    ∃ ss, IsRowS W a len cap ss := by
  obtain ⟨fuel, hf⟩ := h
  rcases open_strings Trym.underlying24 Trym.underlying9 (by kernel_rfl) hf with ⟨hcs, _⟩ | ⟨x, l, c, ss, hcs, _, hl, hm, hz, _, hcell, _⟩
  · simp [Value.cells] at hcs
    obtain ⟨rfl, rfl, rfl⟩ := hcs
    exact ⟨[], .inl ⟨rfl, rfl, rfl, rfl⟩⟩
  · simp [Value.cells] at hcs
    obtain ⟨rfl, rfl, rfl⟩ := hcs
    exact ⟨ss, .inr ⟨_, rfl, hl, hm, by simpa using hz, hcell⟩⟩
end Go.Proofs.Qxb6603292aMods
