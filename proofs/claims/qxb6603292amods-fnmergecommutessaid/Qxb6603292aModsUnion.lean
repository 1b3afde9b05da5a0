/-
  SEAT b6603292aM. zzUnionResB1 by its contract.
-/
import Derived.Test.Qxb6603292aModsMade
namespace Go.Proofs.Qxb6603292aMods
open Go.ChangeShapes Go.WideShapes Go.ChangeAt Go.RowKit

/-- What zzUnionResB1 hands back: the union, at the head of a row of its own. -/
def Un (w : World) (n m : Nat) (f g : Nat → ByteArray) (e : Ending) (w' : World) : Prop :=
  ∃ (k c : Nat) (L : List ByteArray), e = .returned (.slice (some ⟨w.heap.size, 0, none⟩) k c) ∧ Row w' w.heap.size L ∧ k ≤ L.length ∧ L.take k = U (lst n f) (lst m g) ∧ k ≤ n + m ∧ Below w.heap.size w w'

theorem Sl.at {w wr : World} {ao : Option Addr} {n : Nat} {f : Nat → ByteArray} (h : Sl w ao n f) (hb : ∀ a, ao = some a → 0 < n → a.block < w.heap.size) (hbel : Below w.heap.size w wr) {k : Nat} (hk : k < n) :
    ∃ b o, ao = some ⟨b, o, none⟩ ∧ wr.cell? ⟨b, o + k, none⟩ = some (.string (f k)) := by
  obtain ⟨b, o, rfl, hc⟩ := h (by omega)
  exact ⟨b, o, rfl, (hbel.cell (by exact hb ⟨b, o, none⟩ rfl (by omega))).trans (hc k hk)⟩

/-- The state of the union's loop. -/
structure UW (w : World) (n m : Nat) (f g : Nat → ByteArray) (wr : World) (i j k : Nat) (L : List ByteArray) : Prop where
  hi : i ≤ n
  hj : j ≤ m
  hk : k ≤ i + j
  row : Row wr w.heap.size L
  len : L.length = n + m
  inv : UInv n m f g i j (L.take k)
  bel : Below w.heap.size w wr

theorem UW.draw {w : World} {n m : Nat} {f g : Nat → ByteArray} {wr : World} {i j k : Nat} {L : List ByteArray} (h : UW w n m f g wr i j k L) (q : Nat) : UW w n m f g (wr.drewN q) i j k L :=
  ⟨h.hi, h.hj, h.hk, h.row, h.len, h.inv, below_drewN h.bel q⟩
theorem UW.left {w : World} {n m : Nat} {f g : Nat → ByteArray} {wr : World} {i j k : Nat} {L : List ByteArray} (h : UW w n m f g wr i j k L) (hf : AscF n f) (hi : i < n) (hj : j < m → less (f i) (g j) = true) :
    UW w n m f g (wr.setCell ⟨w.heap.size, k, none⟩ (.string (f i))) (i + 1) j (k + 1) (L.set k (f i)) :=
  ⟨hi, h.hj, by have := h.hk; omega, h.row.set _ _, by simp [h.len], by rw [take_set_succ _ (by rw [h.len]; have := h.hk; have := h.hj; omega)]; exact h.inv.left hi hf hj, h.bel.setCell (Nat.le_refl _) _⟩
theorem UW.right {w : World} {n m : Nat} {f g : Nat → ByteArray} {wr : World} {i j k : Nat} {L : List ByteArray} (h : UW w n m f g wr i j k L) (hg : AscF m g) (hj : j < m) (hi : i < n → less (g j) (f i) = true) :
    UW w n m f g (wr.setCell ⟨w.heap.size, k, none⟩ (.string (g j))) i (j + 1) (k + 1) (L.set k (g j)) :=
  ⟨h.hi, hj, by have := h.hk; omega, h.row.set _ _, by simp [h.len], by rw [take_set_succ _ (by rw [h.len]; have := h.hk; have := h.hi; omega)]; exact h.inv.right hj hg hi, h.bel.setCell (Nat.le_refl _) _⟩
theorem UW.both {w : World} {n m : Nat} {f g : Nat → ByteArray} {wr : World} {i j k : Nat} {L : List ByteArray} (h : UW w n m f g wr i j k L) (hf : AscF n f) (hg : AscF m g) (hi : i < n) (hj : j < m) (he : f i = g j) :
    UW w n m f g (wr.setCell ⟨w.heap.size, k, none⟩ (.string (f i))) (i + 1) (j + 1) (k + 1) (L.set k (f i)) :=
  ⟨hi, hj, by have := h.hk; omega, h.row.set _ _, by simp [h.len], by rw [take_set_succ _ (by rw [h.len]; have := h.hk; omega)]; exact h.inv.both hi hj hf hg he, h.bel.setCell (Nat.le_refl _) _⟩

set_option maxHeartbeats 1000000 in
set_option maxRecDepth 100000 in
theorem union_any (ao bo : Option Addr) (n m ca cb : Nat) (f g : Nat → ByteArray) (w : World) (hn : n ≤ 65536) (hm : m ≤ 65536) (ha : Sl w ao n f) (hb : Sl w bo m g)
    (hal : ∀ a, ao = some a → 0 < n → a.block < w.heap.size) (hbl : ∀ a, bo = some a → 0 < m → a.block < w.heap.size) (hf : AscF n f) (hg : AscF m g) :
    Calls Trym.prog 12 #[.slice ao n ca, .slice bo m cb] w (Un w n m f g) := by
  have HF : Hid (AscF n f) := hf
  have HG : Hid (AscF m g) := hg
  clear hf hg
  obtain ⟨i0, hi, hz0, hz1, hz2⟩ := info_parts Trym.info9
  go_enter Trym.func12, Trym.ntmps12
  go_wp2_with (at_make; refine wpList_make_full _ rfl _ _ 24 rfl w.heap.size 9 i0 (.string ByteArray.empty) 1 Trym.underlying24 hi hz0 hz1 _ _ _ _ (n + m) rfl rfl (by omega) (by omega) ?b2 ?b3 (Nat.le_refl _) ?_)
  case b2 => rw [hz2]; omega
  case b3 => unfold maxLen; omega
  intro w0 hown0 hgrow0
  have hrow0 := row_made rfl hown0
  have hb0 : Below w.heap.size w w0 := (Below.refl _ _).grown hgrow0 (Nat.le_refl _) (fun k h => by cases h)
  clear hown0 hgrow0 hz0 hz1 hz2 hi
  go_wp2
  go_loopw [6, 7, 8] (fun sk si sj wr => ∃ (i j k : Nat) (L : List ByteArray), si = .int .i64 i ∧ sj = .int .i64 j ∧ sk = .int .i64 k ∧ UW w n m f g wr i j k L) (fun _ si sj _ => (n - (intOf si).toNat) + (m - (intOf sj).toNat))
  case atStart => exact ⟨0, 0, 0, _, rfl, rfl, rfl, Nat.zero_le _, Nat.zero_le _, Nat.le_refl _, hrow0, by simp, UInv.start _ _ _ _, hb0⟩
  case round =>
    obtain ⟨i, j, k, L, rfl, rfl, rfl, hU⟩ := hrel
    have hin := hU.hi
    have hjm := hU.hj
    have hkk := hU.hk
    have f1 := hU.row.frozen k
    clear hrow0 hb0
    by_cases hi : i < n
    · obtain ⟨b1, o1, hao, c1⟩ := ha.at hal hU.bel hi
      obtain ⟨v1, c3⟩ : ∃ v1, wr.cell? ⟨w.heap.size, k, none⟩ = some v1 := ⟨_, hU.row.cell (by rw [hU.len]; omega)⟩
      by_cases hj : j < m
      · obtain ⟨b2, o2, hbo, c2⟩ := hb.at hbl hU.bel hj
        have d1 : decide ((m : Int) ≤ (j : Int)) = false := decide_eq_false (by omega)
        have d1n : decide (m ≤ j) = false := decide_eq_false (by omega)
        have d2 : decide ((n : Int) ≤ (i : Int)) = false := decide_eq_false (by omega)
        have d2n : decide (n ≤ i) = false := decide_eq_false (by omega)
        have hiI : (i : Int) < (n : Int) := by omega
        have hjI : (j : Int) < (m : Int) := by omega
        have HU : Hid (UW w n m f g wr i j k L) := hU
        clear hU ha hb hal hbl
        rw [hao, hbo]
        clear hao hbo
        cases h1 : less (f i) (g j) with
        | true =>
          have hl : Op.bytesLess (f i).toList (g j).toList = true := h1
          go_wp2
          go_big_quiet (fail)
          go_wp2
          go_roundw
          case rel => exact ⟨i + 1, j, k + 1, _, by go_num, rfl, by go_num, (HU.out.draw nq).left HF.out hi (fun _ => h1)⟩
          case measure => simp [intOf]; omega
        | false =>
          have hl : Op.bytesLess (f i).toList (g j).toList = false := h1
          cases h2 : less (g j) (f i) with
          | true =>
            have hl2 : Op.bytesLess (g j).toList (f i).toList = true := h2
            go_wp2
            go_big_quiet (fail)
            go_wp2
            go_big_quiet (fail)
            go_wp2
            go_roundw
            case rel => exact ⟨i, j + 1, k + 1, _, rfl, by go_num, by go_num, (HU.out.draw _).right HG.out hj (fun _ => h2)⟩
            case measure => simp [intOf]; omega
          | false =>
            have hl2 : Op.bytesLess (g j).toList (f i).toList = false := h2
            have HE : Hid (f i = g j) := less_total h1 h2
            go_wp2
            go_big_quiet (fail)
            go_wp2
            go_big_quiet (fail)
            go_wp2
            go_roundw
            case rel => exact ⟨i + 1, j + 1, k + 1, _, by go_num, by go_num, by go_num, (HU.out.draw _).both HF.out HG.out hi hj HE.out⟩
            case measure => simp [intOf]; omega
      · have d1 : (m : Int) ≤ (j : Int) := by omega
        have hiI : (i : Int) < (n : Int) := by omega
        have HU : Hid (UW w n m f g wr i j k L) := hU
        clear hU ha hb hal hbl
        rw [hao]
        clear hao
        go_wp2
        go_big_quiet (fail)
        go_wp2
        go_roundw
        case rel => exact ⟨i + 1, j, k + 1, _, by go_num, rfl, by go_num, (HU.out.draw _).left HF.out hi (fun h => absurd h hj)⟩
        case measure => simp [intOf]; omega
    · by_cases hj : j < m
      · obtain ⟨b2, o2, hbo, c2⟩ := hb.at hbl hU.bel hj
        obtain ⟨v1, c3⟩ : ∃ v1, wr.cell? ⟨w.heap.size, k, none⟩ = some v1 := ⟨_, hU.row.cell (by rw [hU.len]; omega)⟩
        have d1 : decide ((m : Int) ≤ (j : Int)) = false := decide_eq_false (by omega)
        have d1n : decide (m ≤ j) = false := decide_eq_false (by omega)
        have d2 : (n : Int) ≤ (i : Int) := by omega
        have d3 : decide ((i : Int) < (n : Int)) = false := decide_eq_false (by omega)
        have d3n : decide (i < n) = false := decide_eq_false (by omega)
        have hjI : (j : Int) < (m : Int) := by omega
        have HU : Hid (UW w n m f g wr i j k L) := hU
        clear hU ha hb hal hbl
        rw [hbo]
        clear hbo
        go_wp2
        go_big_quiet (fail)
        go_wp2
        go_big_quiet (fail)
        go_wp2
        go_roundw
        case rel => exact ⟨i, j + 1, k + 1, _, rfl, by go_num, by go_num, (HU.out.draw _).right HG.out hj (fun h => absurd h hi)⟩
        case measure => simp [intOf]; omega
      · have ei : i = n := by omega
        have ej : j = m := by omega
        have hUL : k ≤ L.length := by rw [hU.len]; omega
        have HT : Hid (L.take k = U (lst n f) (lst m g)) := by
          have h := hU.inv
          rw [ei, ej] at h
          exact h.done HF.out
        have HI : Hid (i = n) := ei
        have HJ : Hid (j = m) := ej
        have HR : Hid (Row wr w.heap.size L) := hU.row
        have HB : Hid (Below w.heap.size w wr) := hU.bel
        clear hU ha hb hal hbl ei ej f1
        go_wp2
        go_ret
        exact ⟨k, n + m, L, rfl, HR.out, hUL, HT.out, by omega, HB.out⟩
end Go.Proofs.Qxb6603292aMods
