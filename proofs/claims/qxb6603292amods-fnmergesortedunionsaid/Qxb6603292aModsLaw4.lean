/-
  SEAT b6603292aM. THE WALK OF FnMergeSortedUnion.
-/
import Derived.Test.Qxb6603292aModsYes
namespace Go.Proofs.Qxb6603292aMods
open Go.ChangeShapes Go.WideShapes Go.ChangeAt Go.RowKit

set_option maxHeartbeats 1000000 in
set_option maxRecDepth 100000 in
theorem law4 (ao bo : Option Addr) (n m ca cb : Nat) (x : Int) (f g : Nat → ByteArray) (w : World) (hn : n ≤ maxLen) (hm : m ≤ maxLen) (hca : n ≤ ca) (hx : (Lit.int .i64 x).wf = true) (ha : Sl w ao n f) (hb : Sl w bo m g)
    (hal : ∀ a, ao = some a → 0 < n → a.block < w.heap.size) (hbl : ∀ a, bo = some a → 0 < m → a.block < w.heap.size) :
    Calls Trym.prog 4 #[.slice ao n ca, .int .i64 x, .slice bo m cb] w (Yes w) := by
  go_enter Trym.func4, Trym.ntmps4
  go_wp2_with fail
  refine (bytes8_any ao bo n m ca cb x f g _ hn hm ha hb).mono ?_
  rintro e w' ⟨bl, rfl, -, q, rfl⟩
  cases bl with
  | false =>
    go_wp2_with fail
    go_ret
    exact Yes.mk (below_drewN (Below.refl _ _) q)
  | true =>
  go_wp2_with fail
  refine (within_any ao bo n m ca cb f g _ hn hm (ha.drewN q) (hb.drewN q)).mono ?_
  rintro e w' ⟨bl, rfl, hsm, q', rfl⟩
  rw [World.drewN_drewN]
  generalize q + q' = q
  cases bl with
  | false =>
    go_wp2_with fail
    go_ret
    exact Yes.mk (below_drewN (Below.refl _ _) q)
  | true =>
  obtain ⟨hn', hm'⟩ := hsm rfl
  clear hsm
  by_cases hx0 : x < 0
  · go_wp2_with fail
    go_ret
    exact Yes.mk (below_drewN (Below.refl _ _) q)
  by_cases hxn : (n : Int) < x
  · go_wp2_with fail
    go_ret
    exact Yes.mk (below_drewN (Below.refl _ _) q)
  obtain ⟨k, rfl⟩ : ∃ k : Nat, x = (k : Int) := ⟨x.toNat, by omega⟩
  have hkn : k ≤ n := by omega
  clear hx0 hxn hx
  go_wp2_with fail
  refine (asc_any ao k ca f _ (by omega) ((ha.take hkn).drewN q)).mono ?_
  rintro e w' ⟨bl, rfl, hasc, q', rfl⟩
  rw [World.drewN_drewN]
  generalize q + q' = q
  cases bl with
  | false =>
    go_wp2_with fail
    go_ret
    exact Yes.mk (below_drewN (Below.refl _ _) q)
  | true =>
  have HF : Hid (AscF k f) := ascF_of (hasc rfl)
  clear hasc
  go_wp2_with fail
  refine (asc_any bo m cb g _ hm (hb.drewN q)).mono ?_
  rintro e w' ⟨bl, rfl, hasc, q', rfl⟩
  rw [World.drewN_drewN]
  generalize q + q' = q
  cases bl with
  | false =>
    go_wp2_with fail
    go_ret
    exact Yes.mk (below_drewN (Below.refl _ _) q)
  | true =>
  have HG : Hid (AscF m g) := ascF_of (hasc rfl)
  clear hasc
  go_wp2_with fail
  refine (clone_any ao n ca f _ (by omega) (ha.drewN q) (by simpa using hal)).mono ?_
  rintro e w1 ⟨ao1, rfl, hc1, hb1⟩
  simp only [World.heap_drewN] at hc1 hb1
  have hB1 : Below w.heap.size w w1 := (below_drewN (Below.refl _ _) q).trans hb1
  have hs1 : Sl w1 ao1 n f := by
    intro h0
    obtain ⟨rfl, L, hr, hl, hj⟩ := hc1 h0
    exact ⟨w.heap.size, 0, rfl, fun j hj' => by rw [Nat.zero_add, hr.cell (by omega), hj j hj']⟩
  have hl1 : ∀ a, ao1 = some a → 0 < n → a.block < w1.heap.size := by
    intro a h1 h0
    obtain ⟨h2, L, hr, _⟩ := hc1 h0
    rw [h2] at h1
    cases h1
    exact hr.lt
  have hbs1 : Sl w1 bo m g := hb.below hB1 hbl
  have hbl1 : ∀ a, bo = some a → 0 < m → a.block < w1.heap.size := fun a h1 h0 => Nat.lt_of_lt_of_le (hbl a h1 h0) hB1.size
  have HC1 : Hid (0 < n → ao1 = some ⟨w.heap.size, 0, none⟩ ∧ ∃ L, Row w1 w.heap.size L ∧ L.length = n ∧ ∀ j, j < n → L.getD j ByteArray.empty = f j) := hc1
  have HB1 : Hid (Below w.heap.size w w1) := hB1
  clear hc1 hB1 hb1 ha hb hal hbl
  go_wp2_with fail
  refine (clone_any bo m cb g _ (by omega) hbs1 hbl1).mono ?_
  rintro e w2 ⟨bo2, rfl, hc2, hb2⟩
  have hs2 : Sl w2 bo2 m g := by
    intro h0
    obtain ⟨rfl, L, hr, hl, hj⟩ := hc2 h0
    exact ⟨w1.heap.size, 0, rfl, fun j hj' => by rw [Nat.zero_add, hr.cell (by omega), hj j hj']⟩
  have hl2 : ∀ a, bo2 = some a → 0 < m → a.block < w2.heap.size := by
    intro a h1 h0
    obtain ⟨h2, L, hr, _⟩ := hc2 h0
    rw [h2] at h1
    cases h1
    exact hr.lt
  have hbo : 0 < n → ∀ a, bo2 = some a → 0 < m → a.block ≠ w.heap.size := by
    intro hn0 a h1 h0
    obtain ⟨h2, _⟩ := hc2 h0
    rw [h2] at h1
    cases h1
    obtain ⟨_, L, hr, _⟩ := HC1.out hn0
    have := hr.lt
    show w1.heap.size ≠ w.heap.size
    omega
  have hs1' : Sl w2 ao1 n f := hs1.below hb2 hl1
  have hl1' : ∀ a, ao1 = some a → 0 < n → a.block < w2.heap.size := fun a h1 h0 => Nat.lt_of_lt_of_le (hl1 a h1 h0) hb2.size
  have HB2 : Hid (Below w1.heap.size w1 w2) := hb2
  clear hc2 hb2 hs1 hl1 hbs1 hbl1
  go_wp2_with fail
  refine (union_any ao1 bo2 k m n m f g _ (by omega) (by omega) (hs1'.take hkn) hs2 (fun a h1 h0 => hl1' a h1 (by omega)) hl2 HF.out HG.out).mono ?_
  rintro e w3 ⟨kk, cc, L, rfl, hr3, hkL, hLU, hkk, hb3⟩
  have HB3 : Hid (Below w.heap.size w w3) := (HB1.out.trans (HB2.out.mono HB1.out.size)).trans (hb3.mono (Nat.le_trans HB1.out.size HB2.out.size))
  by_cases hkn' : kk = n
  · subst hkn'
    have hlen : (U (lst k f) (lst m g)).length = kk := by rw [← hLU, List.length_take]; omega
    by_cases hz : kk = 0
    · have hm0 : m = 0 := by
        by_cases h : m = 0
        · exact h
        · have h1 : g 0 ∈ U (lst k f) (lst m g) := by rw [mem_U]; exact .inr (mem_lst.2 ⟨0, by omega, rfl⟩)
          have := List.length_pos_of_mem h1
          omega
      subst hm0
      subst hz
      clear HC1 HB1 HB2 HF HG hs2 hl2 hbo hs1' hl1' hr3 hLU hlen hb3
      go_wp2_with fail
      refine (zzmerge_none _ _ _ _ rfl (by omega) _ _ _ _).mono ?_
      rintro e w4 ⟨rfl, rfl⟩
      go_wp2_with fail
      refine (equal_true _ _ 0 _ _ f _ (by omega) (fun h => absurd h (by omega)) (fun h => absurd h (by omega))).mono ?_
      rintro e w5 ⟨bl, rfl, rfl, q5, rfl⟩
      go_wp2_with fail
      go_ret
      exact Yes.mk (below_drewN HB3.out q5)
    · obtain ⟨hao, L1, hr1, hl1, hf1⟩ := HC1.out (by omega)
      have hb1 : w.heap.size < w1.heap.size := hr1.lt
      have hr1' : Row w3 w.heap.size (lst kk f) := by
        have e1 : L1 = lst kk f := by
          refine List.ext_getElem (by rw [hl1, length_lst]) fun j h1 h2 => ?_
          have h3 := hf1 j (by omega)
          simp only [List.getD_eq_getElem?_getD, List.getElem?_eq_getElem h1, Option.getD_some] at h3
          simp [lst, h3]
        rw [← e1]
        exact (hr1.below HB2.out hb1).below hb3 (Nat.lt_of_lt_of_le hb1 HB2.out.size)
      have hs3 : Sl w3 bo2 m g := hs2.below hb3 hl2
      have htk : (lst kk f).take k = lst k f := by
        simp [lst, ← List.map_take, List.take_range, Nat.min_eq_left hkn]
      have hne3 : w2.heap.size ≠ w.heap.size := by have := HB2.out.size; omega
      have HM : Calls Trym.prog 13 #[.slice (some ⟨w.heap.size, 0, none⟩) kk kk, .int .i64 k, .slice bo2 m m] w3 (Mg w3 w.heap.size (U (lst k f) (lst m g))) :=
        zzmerge_any w.heap.size k kk m m (lst kk f) bo2 g _ w3 (length_lst _ _) (by omega) hkn (by omega) hr1' hs3 (hbo (by omega)) (by rw [htk]; exact asc_lst HF.out) HG.out (by rw [htk]) hlen
      have HR3 : Hid (Row w3 w2.heap.size L) := hr3
      have HLU : Hid (L.take kk = U (lst k f) (lst m g)) := hLU
      have HLN : Hid ((U (lst k f) (lst m g)).length = kk) := hlen
      clear HC1 HB1 HB2 HF HG hs2 hl2 hbo hs1' hl1' hr3 hLU hlen hb3 hr1' hs3 htk hr1 hl1 hf1
      rw [hao]
      clear hao
      go_wp2_with fail
      refine HM.mono ?_
      rintro e w4 ⟨rfl, hr4, ho4⟩
      go_wp2_with fail
      refine (equal_true _ _ kk _ _ (fun j => (U (lst k f) (lst m g)).getD j ByteArray.empty) _ (by omega) (hr4.sl (by rw [HLN.out]; exact Nat.le_refl _))
        (((ho4.row hne3 HR3.out).sl hkL).congr fun j hj => by rw [← HLU.out]; simp [hj])).mono ?_
      rintro e w5 ⟨bl, rfl, rfl, q5, rfl⟩
      go_wp2_with fail
      go_ret
      exact Yes.mk (below_drewN (HB3.out.trans (ho4.below (Nat.le_refl _))) q5)
  · have hkI : ((kk : Int) == (n : Int)) = false := by simp; omega
    go_wp2_with fail
    go_ret
    exact Yes.mk HB3.out
end Go.Proofs.Qxb6603292aMods
