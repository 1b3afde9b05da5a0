/-
  SEAT b6603292aM. slices.BinarySearch[[]string,string] and what it calls, by contracts.
-/
import Derived.Test.Qxb6603292aModsReads
namespace Go.Proofs.Qxb6603292aMods
open Go.ChangeShapes Go.WideShapes Go.ChangeAt Go.RowKit

theorem cmpNaN_any (x : ByteArray) (w : World) : Calls Trym.prog 26 #[.string x] w fun e w' => e = .returned (.bool false) ∧ w' = w := by
  go_enter Trym.func26, Trym.ntmps26
  go_wp2
  go_ret
  exact ⟨by simp, rfl⟩
theorem slNaN_any (x : ByteArray) (w : World) : Calls Trym.prog 24 #[.string x] w fun e w' => e = .returned (.bool false) ∧ w' = w := by
  go_enter Trym.func24, Trym.ntmps24
  go_wp2
  go_ret
  exact ⟨by simp, rfl⟩
theorem less_any (x y : ByteArray) (w : World) : Calls Trym.prog 23 #[.string x, .string y] w fun e w' => e = .returned (.bool (less x y)) ∧ w' = w := by
  go_enter Trym.func23, Trym.ntmps23
  go_wp2_with (go_at_call 26; refine (cmpNaN_any _ _).mono ?_; rintro e w' ⟨rfl, rfl⟩)
  go_ret
  exact ⟨rfl, rfl⟩

/-- Where t stands, or would stand, among f 0 < .. < f (n-1). -/
def BS (w : World) (n : Nat) (f : Nat → ByteArray) (t : ByteArray) (e : Ending) (w' : World) : Prop :=
  ∃ (i : Nat) (held : Bool), e = .returned (.tuple #[.int .i64 i, .bool held]) ∧ i ≤ n ∧ (∀ k, k < i → less (f k) t = true) ∧ (∀ k, i ≤ k → k < n → less (f k) t = false) ∧ (held = true → i < n ∧ f i = t) ∧ (held = false → i < n → f i ≠ t) ∧ w' = w

theorem eqb {a b : ByteArray} (h : a ≠ b) : (a.toList == b.toList) = false := by
  simp only [beq_eq_false_iff_ne]; exact fun e => h (toList_inj e)

set_option maxHeartbeats 400000 in
theorem bs_any (ao : Option Addr) (n cap : Nat) (f : Nat → ByteArray) (t : ByteArray) (w : World) (hn : n ≤ 1048576) (hs : Sl w ao n f) (hasc : ∀ k l, k < l → l < n → less (f k) (f l) = true) :
    Calls Trym.prog 20 #[.slice ao n cap, .string t] w (BS w n f t) := by
  have HAs : Hid (∀ k l, k < l → l < n → less (f k) (f l) = true) := hasc
  clear hasc
  go_enter Trym.func20, Trym.ntmps20
  go_wp2
  go_loop [7, 8] (fun si sj => ∃ i j : Nat, i ≤ j ∧ j ≤ n ∧ si = .int .i64 i ∧ sj = .int .i64 j ∧ (∀ k, k < i → less (f k) t = true) ∧ (∀ k, j ≤ k → k < n → less (f k) t = false)) (fun si sj => (intOf sj).toNat - (intOf si).toNat)
  case atStart => exact ⟨0, n, Nat.zero_le _, Nat.le_refl _, rfl, rfl, fun k h => absurd h (by omega), fun k h1 h2 => absurd h1 (by omega)⟩
  case round =>
    obtain ⟨i, j, hij, hjn, rfl, rfl, hlo, hhi⟩ := hrel
    have HL : Hid (∀ k, k < i → less (f k) t = true) := hlo
    have HH : Hid (∀ k, j ≤ k → k < n → less (f k) t = false) := hhi
    clear hlo hhi
    by_cases hlt : i < j
    · obtain ⟨b, off, hao, hc⟩ := hs (by omega)
      have c0 := hc ((i + j) / 2) (by omega)
      clear hs hc
      rw [hao]
      clear hao
      go_wp2_with (go_at_call 23; refine (less_any _ _ _).mono ?_; rintro e w' ⟨rfl, rfl⟩)
      · have hl : less (f ((i + j) / 2)) t = true := by assumption
        go_round
        case rel =>
          refine ⟨(i + j) / 2 + 1, j, by omega, by omega, by go_num, rfl, fun k hk => ?_, HH.out⟩
          by_cases ek : k = (i + j) / 2
          · rw [ek]; exact hl
          · exact less_trans (HAs.out k ((i + j) / 2) (by omega) (by omega)) hl
        case measure => simp [intOf]; omega
      · have hl : less (f ((i + j) / 2)) t = false := by assumption
        go_round
        case rel =>
          refine ⟨i, (i + j) / 2, by omega, by omega, rfl, by go_num, HL.out, fun k hk hkn => ?_⟩
          by_cases ek : k = (i + j) / 2
          · rw [ek]; exact hl
          · cases hx : less (f k) t with
            | false => rfl
            | true => have := less_trans (HAs.out ((i + j) / 2) k (by omega) hkn) hx; rw [hl] at this; cases this
        case measure => simp [intOf]; omega
    · have e : i = j := by omega
      subst e
      by_cases hin : i < n
      · obtain ⟨b, off, hao, hc⟩ := hs (by omega)
        have c0 := hc i (by omega)
        clear hs hc
        rw [hao]
        clear hao
        by_cases ht : f i = t
        · subst ht
          go_wp2_with (go_at_call 24; refine (slNaN_any _ _).mono ?_; rintro e w' ⟨rfl, rfl⟩)
          go_ret2
          exact ⟨i, true, rfl, hjn, HL.out, HH.out, fun _ => ⟨hin, rfl⟩, (fun h => by cases h), rfl⟩
        · have hb := eqb ht
          have HT : Hid (f i ≠ t) := ht
          clear ht
          go_wp2_with (go_at_call 24; refine (slNaN_any _ _).mono ?_; rintro e w' ⟨rfl, rfl⟩)
          go_ret2
          exact ⟨i, false, rfl, hjn, HL.out, HH.out, (fun h => by cases h), fun _ _ => HT.out, rfl⟩
      · go_wp2_with (go_at_call 24; refine (slNaN_any _ _).mono ?_; rintro e w' ⟨rfl, rfl⟩)
        go_ret2
        exact ⟨i, false, rfl, hjn, HL.out, HH.out, (fun h => by cases h), fun _ h => absurd h hin, rfl⟩
end Go.Proofs.Qxb6603292aMods
