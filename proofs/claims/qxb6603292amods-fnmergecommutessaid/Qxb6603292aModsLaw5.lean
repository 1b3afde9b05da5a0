/-
  SEAT b6603292aM. THE WALK OF FnMergeCommutes.
-/
import Derived.Test.Qxb6603292aModsYes
namespace Go.Proofs.Qxb6603292aMods
open Go.ChangeShapes Go.WideShapes Go.ChangeAt Go.RowKit

set_option maxHeartbeats 1000000 in
set_option maxRecDepth 100000 in
theorem law5 (ao bo : Option Addr) (n m ca cb : Nat) (f g : Nat → ByteArray) (w : World) (hn : n ≤ maxLen) (hm : m ≤ maxLen) (ha : Sl w ao n f) (hb : Sl w bo m g)
    (hal : ∀ a, ao = some a → 0 < n → a.block < w.heap.size) (hbl : ∀ a, bo = some a → 0 < m → a.block < w.heap.size) :
    Calls Trym.prog 5 #[.slice ao n ca, .slice bo m cb] w (Yes w) := by
  obtain ⟨i0, hi, hz0, hz1, hz2⟩ := info_parts Trym.info9
  go_enter Trym.func5, Trym.ntmps5
  go_wp2_with fail
  refine (bytes15_any ao bo n m ca cb f g _ hn hm ha hb).mono ?_
  rintro e w' ⟨bl, rfl, -, q, rfl⟩
  cases bl with
  | false =>
    go_wp2_with fail
    go_ret
    exact Yes.mk (below_drewN (Below.refl _ _) q)
  | true =>
  go_wp2_with fail
  refine (within_any ao bo n m ca cb f g _ hn hm (ha.drewN q) (hb.drewN q)).mono ?_
  rintro e w' ⟨bl, rfl, hsm, q', rfl⟩
  rw [World.drewN_drewN]
  generalize q + q' = q
  cases bl with
  | false =>
    go_wp2_with fail
    go_ret
    exact Yes.mk (below_drewN (Below.refl _ _) q)
  | true =>
  obtain ⟨hn', hm'⟩ := hsm rfl
  clear hsm
  go_wp2_with fail
  refine (asc_any ao n ca f _ hn (ha.drewN q)).mono ?_
  rintro e w' ⟨bl, rfl, hasc, q', rfl⟩
  rw [World.drewN_drewN]
  generalize q + q' = q
  cases bl with
  | false =>
    go_wp2_with fail
    go_ret
    exact Yes.mk (below_drewN (Below.refl _ _) q)
  | true =>
  have HF : Hid (AscF n f) := ascF_of (hasc rfl)
  clear hasc
  go_wp2_with fail
  refine (asc_any bo m cb g _ hm (hb.drewN q)).mono ?_
  rintro e w' ⟨bl, rfl, hasc, q', rfl⟩
  rw [World.drewN_drewN]
  generalize q + q' = q
  cases bl with
  | false =>
    go_wp2_with fail
    go_ret
    exact Yes.mk (below_drewN (Below.refl _ _) q)
  | true =>
  have HG : Hid (AscF m g) := ascF_of (hasc rfl)
  clear hasc hn hm
  go_wp2_with fail
  refine (clone_any ao n ca f _ (by omega) (ha.drewN q) (by simpa using hal)).mono ?_
  rintro e w1 ⟨ao1, rfl, hc1, hb1⟩
  simp only [World.heap_drewN] at hc1 hb1
  obtain ⟨hs1, hl1⟩ := Cl.sl hc1
  have HB1 : Hid (Below w.heap.size w w1) := (below_drewN (Below.refl _ _) q).trans hb1
  have hbs1 : Sl w1 bo m g := hb.below HB1.out hbl
  have hbl1 : ∀ a, bo = some a → 0 < m → a.block < w1.heap.size := fun a h1 h0 => Nat.lt_of_lt_of_le (hbl a h1 h0) HB1.out.size
  clear hc1 hb1 ha hb hal hbl
  go_wp2_with fail
  refine (clone_any bo m cb g _ (by omega) hbs1 hbl1).mono ?_
  rintro e w2 ⟨bo2, rfl, hc2, hb2⟩
  obtain ⟨hs2, hl2⟩ := Cl.sl hc2
  have hs1' : Sl w2 ao1 n f := hs1.below hb2 hl1
  have hl1' : ∀ a, ao1 = some a → 0 < n → a.block < w2.heap.size := fun a h1 h0 => Nat.lt_of_lt_of_le (hl1 a h1 h0) hb2.size
  have HB2 : Hid (Below w.heap.size w w2) := HB1.out.trans (hb2.mono HB1.out.size)
  clear hc2 hb2 hs1 hl1 hbs1 hbl1 HB1
  go_wp2_with fail
  refine (union_any ao1 bo2 n m n m f g _ hn' hm' hs1' hs2 hl1' hl2 HF.out HG.out).mono ?_
  rintro e w3 ⟨u, cc, L, rfl, hr3, hkL, hLU, hkk, hb3⟩
  have hlen : (U (lst n f) (lst m g)).length = u := by rw [← hLU, List.length_take]; omega
  have hnu : n ≤ u := by
    have := length_U (lst n f) (lst m g)
    rw [length_lst] at this; omega
  have hcomm := U_comm (asc_lst HF.out) (asc_lst HG.out)
  have hmu : m ≤ u := by
    have := length_U (lst m g) (lst n f)
    rw [length_lst, ← hcomm] at this; omega
  have HCm : Hid (U (lst n f) (lst m g) = U (lst m g) (lst n f)) := hcomm
  have HLN : Hid ((U (lst n f) (lst m g)).length = u) := hlen
  have hs1 : Sl w3 ao1 n f := hs1'.below hb3 hl1'
  have hs2' : Sl w3 bo2 m g := hs2.below hb3 hl2
  have hl1 : ∀ a, ao1 = some a → 0 < n → a.block < w3.heap.size := fun a h1 h0 => Nat.lt_of_lt_of_le (hl1' a h1 h0) hb3.size
  have hl2' : ∀ a, bo2 = some a → 0 < m → a.block < w3.heap.size := fun a h1 h0 => Nat.lt_of_lt_of_le (hl2 a h1 h0) hb3.size
  have HB3 : Hid (Below w.heap.size w w3) := HB2.out.trans (hb3.mono HB2.out.size)
  clear hr3 hkL hLU hb3 hlen hcomm hs1' hs2 hl1' hl2 HB2
  go_wp2_with (at_make; refine wpList_make_full _ rfl _ _ 24 rfl w3.heap.size 9 i0 (.string ByteArray.empty) 1 Trym.underlying24 hi hz0 hz1 _ _ _ _ u rfl rfl rfl rfl ?b2 ?b3 (Nat.le_refl _) ?_)
  case b2 => rw [hz2]; omega
  case b3 => unfold maxLen; omega
  intro w4 hown4 hgrow4
  have hr4 := row_made rfl hown4
  have hb4 : Below w3.heap.size w3 w4 := (Below.refl _ _).grown hgrow4 (Nat.le_refl _) (fun k h => by cases h)
  clear hown4 hgrow4
  go_wp2_with fail
  go_loopw [7] (fun i wr => ∃ k : Nat, k ≤ n ∧ i = .int .i64 k ∧ Row wr w3.heap.size (over f (List.replicate u ByteArray.empty) k) ∧ Below w3.heap.size w3 wr) (fun i _ => n - (intOf i).toNat)
  case atStart => exact ⟨0, Nat.zero_le _, rfl, hr4, hb4⟩
  case round =>
    obtain ⟨k, hk, rfl, hrow, hbel⟩ := hrel
    clear hr4 hb4
    by_cases hlt : k < n
    · obtain ⟨b1, o1, hao, c0⟩ := hs1.at hl1 hbel hlt
      obtain ⟨v1, c1⟩ : ∃ v1, wr.cell? ⟨w3.heap.size, k, none⟩ = some v1 := ⟨_, hrow.cell (by rw [length_over, List.length_replicate]; omega)⟩
      have f1 := hrow.frozen k
      have HR := hrow.set k (f k)
      have HB : Below w3.heap.size w3 (wr.setCell ⟨w3.heap.size, k, none⟩ (.string (f k))) := hbel.setCell (Nat.le_refl _) _
      clear hs1 hl1 hs2' hl2' hrow hbel HF HG HCm HLN HB3 hi hz0 hz1 hz2
      rw [hao]
      clear hao
      go_wp2
      go_roundw
      case rel => exact ⟨k + 1, by omega, by go_num, HR, HB⟩
      case measure => simp [intOf]; omega
    · obtain rfl : k = n := by omega
      have hX : (over f (List.replicate u ByteArray.empty) k).take k = lst k f := take_over (by rw [List.length_replicate]; omega)
      have HM1 : Calls Trym.prog 13 #[.slice (some ⟨w3.heap.size, 0, none⟩) u u, .int .i64 k, .slice bo2 m m] wr (Mg wr w3.heap.size (U (lst k f) (lst m g))) :=
        zzmerge_any w3.heap.size k u m m _ bo2 g _ wr (by rw [length_over, List.length_replicate]) (by omega) hnu hm' hrow (hs2'.below hbel hl2') (fun a h1 h0 => Nat.ne_of_lt (hl2' a h1 h0)) (by rw [hX]; exact asc_lst HF.out) HG.out (by rw [hX]) HLN.out
      have hgx := hrow.lt
      have HBel : Hid (Below w3.heap.size w3 wr) := hbel
      clear hX hrow hbel
      go_wp2_with fail
      refine HM1.mono ?_
      rintro e w5 ⟨rfl, hr5, ho5⟩
      have hb5 : Below w3.heap.size w3 w5 := HBel.out.trans (ho5.below (Nat.le_refl _))
      have hs1' : Sl w5 ao1 k f := hs1.below hb5 hl1
      have hl1' : ∀ a, ao1 = some a → 0 < k → a.block < w5.heap.size := fun a h1 h0 => Nat.lt_of_lt_of_le (hl1 a h1 h0) hb5.size
      have hs2 : Sl w5 bo2 m g := hs2'.below hb5 hl2'
      have hl2 : ∀ a, bo2 = some a → 0 < m → a.block < w5.heap.size := fun a h1 h0 => Nat.lt_of_lt_of_le (hl2' a h1 h0) hb5.size
      have HB5 : Hid (Below w.heap.size w w5) := HB3.out.trans (hb5.mono HB3.out.size)
      have hgx5 := hr5.lt
      have HR5 : Hid (Row w5 w3.heap.size (U (lst k f) (lst m g))) := hr5
      clear HM1 HBel hb5 ho5 hr5 hs1 hl1 hs2' hl2' HB3
      go_wp2_with (at_make; refine wpList_make_full _ rfl _ _ 24 rfl w5.heap.size 9 i0 (.string ByteArray.empty) 1 Trym.underlying24 hi hz0 hz1 _ _ _ _ u rfl rfl rfl rfl ?b2 ?b3 (Nat.le_refl _) ?_)
      case b2 => rw [hz2]; omega
      case b3 => unfold maxLen; omega
      intro w6 hown6 hgrow6
      have hr6 := row_made rfl hown6
      have hb6 : Below w5.heap.size w5 w6 := (Below.refl _ _).grown hgrow6 (Nat.le_refl _) (fun k h => by cases h)
      clear hown6 hgrow6
      go_wp2_with fail
      go_loopw [9] (fun i wr => ∃ k : Nat, k ≤ m ∧ i = .int .i64 k ∧ Row wr w5.heap.size (over g (List.replicate u ByteArray.empty) k) ∧ Below w5.heap.size w5 wr) (fun i _ => m - (intOf i).toNat)
      case atStart => exact ⟨0, Nat.zero_le _, rfl, hr6, hb6⟩
      case round =>
        obtain ⟨l, hl, rfl, hrow, hbel⟩ := hrel
        clear hr6 hb6
        by_cases hlt2 : l < m
        · obtain ⟨b1, o1, hbo, c0⟩ := hs2.at hl2 hbel hlt2
          obtain ⟨v1, c1⟩ : ∃ v1, wr.cell? ⟨w5.heap.size, l, none⟩ = some v1 := ⟨_, hrow.cell (by rw [length_over, List.length_replicate]; omega)⟩
          have f1 := hrow.frozen l
          have HR := hrow.set l (g l)
          have HB : Below w5.heap.size w5 (wr.setCell ⟨w5.heap.size, l, none⟩ (.string (g l))) := hbel.setCell (Nat.le_refl _) _
          clear hs1' hl1' hs2 hl2 hrow hbel HF HG HCm HLN HB5 HR5 hi hz0 hz1 hz2
          rw [hbo]
          clear hbo
          go_wp2
          go_roundw
          case rel => exact ⟨l + 1, by omega, by go_num, HR, HB⟩
          case measure => simp [intOf]; omega
        · obtain rfl : l = m := by omega
          have hX : (over g (List.replicate u ByteArray.empty) l).take l = lst l g := take_over (by rw [List.length_replicate]; omega)
          have HM1 : Calls Trym.prog 13 #[.slice (some ⟨w5.heap.size, 0, none⟩) u u, .int .i64 l, .slice ao1 k k] wr (Mg wr w5.heap.size (U (lst l g) (lst k f))) :=
            zzmerge_any w5.heap.size l u k k _ ao1 f _ wr (by rw [length_over, List.length_replicate]) (by omega) hmu hn' hrow (hs1'.below hbel hl1') (fun a h1 h0 => Nat.ne_of_lt (hl1' a h1 h0)) (by rw [hX]; exact asc_lst HG.out) HF.out (by rw [hX]) (by rw [← HCm.out]; exact HLN.out)
          have HBel : Hid (Below w5.heap.size w5 wr) := hbel
          clear hX hrow hbel hs1' hl1' hs2 hl2
          go_wp2_with fail
          refine HM1.mono ?_
          rintro e w7 ⟨rfl, hr7, ho7⟩
          have hbx : Below w5.heap.size w5 w7 := HBel.out.trans (ho7.below (Nat.le_refl _))
          have hrx : Row w7 w3.heap.size (U (lst k f) (lst l g)) := HR5.out.below hbx hgx5
          have HB7 : Hid (Below w.heap.size w w7) := HB5.out.trans (hbx.mono HB5.out.size)
          clear HM1 HBel hbx ho7
          go_wp2_with fail
          refine (equal_true _ _ u _ _ (fun j => (U (lst k f) (lst l g)).getD j ByteArray.empty) _ (by unfold maxLen; omega) (hrx.sl (by rw [HLN.out]; exact Nat.le_refl _))
            ((hr7.sl (by rw [← HCm.out, HLN.out]; exact Nat.le_refl _)).congr fun j hj => by rw [← HCm.out])).mono ?_
          rintro e w8 ⟨bl, rfl, rfl, q8, rfl⟩
          go_wp2_with fail
          go_ret
          exact Yes.mk (below_drewN HB7.out q8)
end Go.Proofs.Qxb6603292aMods
