/-
  SEAT b6603292aM. ROWS OF STRINGS THAT THE CALL ITSELF MAKES; zzCloneResB1 by its contract.
-/
import Derived.Test.Qxb6603292aModsReads
import Derived.Laws.CopyOwn
namespace Go.Proofs.Qxb6603292aMods
open Go.ChangeShapes Go.WideShapes Go.ChangeAt Go.RowKit

/-- Block g holds just the strings L. -/
def Row (w : World) (g : Nat) (L : List ByteArray) : Prop := w.heap[g]? = some (.cells (L.map Value.string).toArray 9 (0, 0))

theorem Row.lt {w : World} {g : Nat} {L : List ByteArray} (h : Row w g L) : g < w.heap.size := (Array.getElem?_eq_some_iff.1 h).1
theorem Row.cell {w : World} {g : Nat} {L : List ByteArray} (h : Row w g L) {j : Nat} (hj : j < L.length) : w.cell? ⟨g, j, none⟩ = some (.string (L.getD j ByteArray.empty)) := by
  rw [cell_of_row w g j _ 9 (0, 0) h]
  simp [hj]
theorem Row.frozen {w : World} {g : Nat} {L : List ByteArray} (h : Row w g L) (j : Nat) : w.frozen? ⟨g, j, none⟩ = false := frozen_of_row w g j _ 9 h
theorem Row.set {w : World} {g : Nat} {L : List ByteArray} (h : Row w g L) (j : Nat) (x : ByteArray) : Row (w.setCell ⟨g, j, none⟩ (.string x)) g (L.set j x) := by
  unfold Row
  rw [heap_setCell_same w g j _ 9 _ h]
  simp [List.map_set]
theorem Row.other {w : World} {g : Nat} {L : List ByteArray} (h : Row w g L) (a : Addr) (v : Value) (hne : g ≠ a.block) : Row (w.setCell a v) g L := by
  unfold Row
  rw [Below.heap_setCell _ _ _ _ hne]; exact h
theorem Row.below {w w' : World} {g B : Nat} {L : List ByteArray} (h : Row w g L) (hb : Below B w w') (hg : g < B) : Row w' g L := (hb.block g hg).trans h
theorem Row.drewN {w : World} {g : Nat} {L : List ByteArray} (h : Row w g L) (q : Nat) : Row (w.drewN q) g L := h
theorem Row.sl {w : World} {g : Nat} {L : List ByteArray} (h : Row w g L) {n : Nat} (hn : n ≤ L.length) : Sl w (some ⟨g, 0, none⟩) n (fun j => L.getD j ByteArray.empty) :=
  fun _ => ⟨g, 0, rfl, fun j hj => by rw [Nat.zero_add]; exact h.cell (by omega)⟩
theorem Sl.below {w w' : World} {ao : Option Addr} {n : Nat} {f : Nat → ByteArray} {B : Nat} (h : Sl w ao n f) (hb : Below B w w') (ha : ∀ a, ao = some a → 0 < n → a.block < B) : Sl w' ao n f := by
  intro h0
  obtain ⟨b, off, rfl, hc⟩ := h h0
  exact ⟨b, off, rfl, fun j hj => (hb.cell (by exact ha ⟨b, off, none⟩ rfl h0)).trans (hc j hj)⟩
theorem Sl.take {w : World} {ao : Option Addr} {n m : Nat} {f : Nat → ByteArray} (h : Sl w ao n f) (hm : m ≤ n) : Sl w ao m f := by
  intro h0
  obtain ⟨b, off, rfl, hc⟩ := h (by omega)
  exact ⟨b, off, rfl, fun j hj => hc j (by omega)⟩
theorem Sl.congr {w : World} {ao : Option Addr} {n : Nat} {f g : Nat → ByteArray} (h : Sl w ao n f) (hfg : ∀ j, j < n → f j = g j) : Sl w ao n g := by
  intro h0
  obtain ⟨b, off, rfl, hc⟩ := h h0
  exact ⟨b, off, rfl, fun j hj => by rw [hc j hj, hfg j hj]⟩

theorem row_made {w' : World} {base g n : Nat} {v : Value} (hv : v = .slice (some ⟨g, 0, none⟩) n n) (h : w'.ownsRow base 9 1 v n (madeCells #[Value.string ByteArray.empty] n).toList) : Row w' g (List.replicate n ByteArray.empty) := by
  subst hv
  rcases h.2 with ⟨h', _⟩ | ⟨g', cap', cur, h', hb, hg, hnc, hcm, hcs, htake⟩
  · simp at h'
  · simp only [Value.slice.injEq, Option.some.injEq, Addr.mk.injEq, and_true, true_and] at h'
    obtain ⟨rfl, rfl⟩ := h'
    unfold Row
    rw [hg]
    have e1 : cur.toList = List.replicate n (Value.string ByteArray.empty) := by
      rw [toList_madeCells_one, Nat.mul_one] at htake
      rw [← htake, List.take_of_length_le (by rw [Array.length_toList, hcs]; omega)]
    have e2 : cur = (List.map Value.string (List.replicate n ByteArray.empty)).toArray := by
      rw [List.map_replicate, ← e1]
    rw [e2]

theorem Trym.info9 : (Trym.prog.info? 9).map (fun i => (i.zero, i.size, i.bytes)) = some (some (.string ByteArray.empty), 1, 16) := by kernel_rfl

/-- A copy of a list's first k elements over the first k of L. -/
def over (f : Nat → ByteArray) (L : List ByteArray) : Nat → List ByteArray
  | 0 => L
  | k + 1 => (over f L k).set k (f k)
theorem length_over (f : Nat → ByteArray) (L : List ByteArray) : ∀ k, (over f L k).length = L.length
  | 0 => rfl
  | k + 1 => by simp [over, length_over f L k]
theorem get_over (f : Nat → ByteArray) (L : List ByteArray) (j : Nat) : ∀ k, j < L.length → (over f L k).getD j ByteArray.empty = if j < k then f j else L.getD j ByteArray.empty
  | 0, _ => by simp [over]
  | k + 1, h => by
    have ih := get_over f L j k h
    have hl := length_over f L k
    simp only [List.getD_eq_getElem?_getD] at ih ⊢
    by_cases e : k = j
    · subst e
      simp [over, hl, h]
    · simp only [over, List.getElem?_set_ne e]
      rw [ih]
      by_cases h1 : j < k
      · rw [if_pos h1, if_pos (by omega)]
      · rw [if_neg h1, if_neg (by omega)]

/-- What zzCloneResB1 hands back: n elements in a row of its own (or nil). -/
def Cl (w : World) (n : Nat) (f : Nat → ByteArray) (e : Ending) (w' : World) : Prop :=
  ∃ ao, e = .returned (.slice ao n n) ∧ (0 < n → ao = some ⟨w.heap.size, 0, none⟩ ∧ ∃ L, Row w' w.heap.size L ∧ L.length = n ∧ ∀ j, j < n → L.getD j ByteArray.empty = f j) ∧ Below w.heap.size w w'

set_option maxHeartbeats 400000 in
theorem clone_any (ao : Option Addr) (n cap : Nat) (f : Nat → ByteArray) (w : World) (hn : n ≤ 1048576) (hs : Sl w ao n f) (hb : ∀ a, ao = some a → 0 < n → a.block < w.heap.size) :
    Calls Trym.prog 11 #[.slice ao n cap] w (Cl w n f) := by
  obtain ⟨i0, hi, hz0, hz1, hz2⟩ := info_parts Trym.info9
  have q24 : ∀ (w : World) (a : Option Addr) (n c n' c' : Nat), (binOp .eql 24 (.slice a n c) (.slice none n' c')).run Trym.prog w = .ok (.bool a.isNone) w := fun w a n c n' c' => Lib.run_eql_slice_nil w _ _ a n c n' c' Trym.underlying24
  cases ao with
  | none =>
    have h0 : n = 0 := by
      cases n with
      | zero => rfl
      | succ k => obtain ⟨b, off, h, _⟩ := hs (by omega); cases h
    subst h0
    go_enter Trym.func11, Trym.ntmps11
    go_wp2
    go_ret
    exact ⟨none, rfl, fun h => absurd h (by omega), Below.refl _ _⟩
  | some a =>
    go_enter Trym.func11, Trym.ntmps11
    go_wp2_with (at_make; refine wpList_make_full _ rfl _ _ 24 rfl w.heap.size 9 i0 (.string ByteArray.empty) 1 Trym.underlying24 hi hz0 hz1 _ _ _ _ n rfl rfl rfl rfl ?b2 ?b3 (Nat.le_refl _) ?_)
    case b2 => rw [hz2]; omega
    case b3 => unfold maxLen; omega
    intro w0 hown0 hgrow0
    have hrow0 := row_made rfl hown0
    have hb0 : Below w.heap.size w w0 := (Below.refl _ _).grown hgrow0 (Nat.le_refl _) (fun k h => by cases h)
    clear hown0 hgrow0 hz0 hz1 hz2 hi
    go_wp2
    go_loopw [4] (fun i wr => ∃ k : Nat, k ≤ n ∧ i = .int .i64 k ∧ Row wr w.heap.size (over f (List.replicate n ByteArray.empty) k) ∧ Below w.heap.size w wr) (fun i _ => n - (intOf i).toNat)
    case atStart => exact ⟨0, Nat.zero_le _, rfl, hrow0, hb0⟩
    case round =>
      obtain ⟨k, hk, rfl, hrow, hbel⟩ := hrel
      by_cases hlt : k < n
      · obtain ⟨b1, o1, hao, hc⟩ := hs (by omega)
        have ha := Option.some.inj hao
        have hbb : b1 < w.heap.size := by have := hb _ rfl (by omega); rw [ha] at this; exact this
        have c0 : wr.cell? ⟨b1, o1 + k, none⟩ = some (.string (f k)) := (hbel.cell (by exact hbb)).trans (hc k hlt)
        have hl : k < (over f (List.replicate n ByteArray.empty) k).length := by rw [length_over]; simpa using hlt
        obtain ⟨v1, c1⟩ : ∃ v1, wr.cell? ⟨w.heap.size, k, none⟩ = some v1 := ⟨_, hrow.cell hl⟩
        have f1 := hrow.frozen k
        have HR := hrow.set k (f k)
        have HB : Below w.heap.size w (wr.setCell ⟨w.heap.size, k, none⟩ (.string (f k))) := hbel.setCell (Nat.le_refl _) _
        clear hs hc hb hao hb0 hrow0 hrow hbel hl
        rw [ha]
        clear ha
        go_wp2
        go_roundw
        case rel => exact ⟨k + 1, by omega, by go_num, HR, HB⟩
        case measure => simp [intOf]; omega
      · go_wp2
        go_ret
        have e : k = n := by omega
        refine ⟨some ⟨w.heap.size, 0, none⟩, rfl, fun _ => ⟨rfl, _, hrow, by rw [length_over]; simp, fun j hj => ?_⟩, hbel⟩
        rw [get_over _ _ _ _ (by simpa using hj), if_pos (by omega)]
end Go.Proofs.Qxb6603292aMods
