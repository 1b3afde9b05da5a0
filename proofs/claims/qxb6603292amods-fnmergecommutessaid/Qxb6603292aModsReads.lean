/-
  SEAT b6603292aM. THE FUNCTIONS THAT ONLY READ: zzAscendingResB1, zzEqualResB1, zzWithinBytesResB1, zzBytes_*: each by a contract.
-/
import Derived.Test.Qxb6603292aModsRows
import Derived.Test.Qxb6603292aModsPlain
import Derived.WalkKit
import Derived.ProofKit
import Derived.WalkLawsBesides
import Derived.Deep.QuietTactic
import Derived.BigQuiet
namespace Go.Proofs.Qxb6603292aMods
open Go.ChangeShapes Go.WideShapes Go.ChangeAt Go.RowKit

/-- A slice value (address ao, n elements) reads in w as the strings f 0 .. f (n-1). -/
def Sl (w : World) (ao : Option Addr) (n : Nat) (f : Nat → ByteArray) : Prop :=
  0 < n → ∃ b off, ao = some ⟨b, off, none⟩ ∧ ∀ j, j < n → w.cell? ⟨b, off + j, none⟩ = some (.string (f j))

/-- A bool of which P is known is handed back; the world has at most drawn. -/
def RB (w : World) (P : Bool → Prop) (e : Ending) (w' : World) : Prop := ∃ bl, e = .returned (.bool bl) ∧ P bl ∧ ∃ q, w' = w.drewN q
theorem RB.mk {w : World} {P : Bool → Prop} {bl : Bool} {w' : World} (h : P bl) (hw : ∃ q, w' = w.drewN q) : RB w P (.returned (.bool bl)) w' := ⟨bl, rfl, h, hw⟩

/-- What zzWithinBytesResB1's yes says. -/
def Small (n m : Nat) (bl : Bool) : Prop := bl = true → n ≤ 65536 ∧ m ≤ 65536
theorem Small.no (n m : Nat) : Small n m false := fun h => by cases h

theorem not_less {a b : ByteArray} (h : (!Op.bytesLess a.toList b.toList) = false) : less a b = true := by simpa [less] using h

set_option maxHeartbeats 400000 in
theorem asc_any (ao : Option Addr) (n cap : Nat) (f : Nat → ByteArray) (w : World) (hn : n ≤ maxLen) (hs : Sl w ao n f) :
    Calls Trym.prog 10 #[.slice ao n cap] w (RB w fun bl => bl = true → ∀ j, j + 1 < n → less (f j) (f (j + 1)) = true) := by
  unfold maxLen at hn
  go_enter Trym.func10, Trym.ntmps10
  go_wp2
  go_loopw [3] (fun i wr => ∃ m : Nat, (m = 0 ∨ m + 1 ≤ n) ∧ i = .int .i64 ((m : Int) + 1) ∧ (∀ j, j < m → less (f j) (f (j + 1)) = true) ∧ ∃ q, wr = w.drewN q) (fun i _ => n - (intOf i).toNat)
  case atStart => exact ⟨0, .inl rfl, rfl, fun j h => absurd h (by omega), 0, rfl⟩
  case round =>
    obtain ⟨m, hm, rfl, hasc, q, rfl⟩ := hrel
    have HA : Hid (∀ j, j < m → less (f j) (f (j + 1)) = true) := hasc
    clear hasc
    by_cases hlt : m + 1 < n
    · obtain ⟨b, off, hao, hc⟩ := hs (by omega)
      have c0 := hc m (by omega)
      have c1 := hc (m + 1) hlt
      clear hs hc
      rw [hao]
      clear hao
      go_wp2
      go_quiet (fail)
      go_wp2
      · go_ret
        exact RB.mk (fun h => by cases h) ⟨q + nq, by first | rfl | exact World.drewN_drewN _ _ _⟩
      · have hl : less (f m) (f (m + 1)) = true := not_less (by assumption)
        go_roundw
        case rel =>
          refine ⟨m + 1, .inr (by omega), by go_num, fun j hj => ?_, q + nq, by first | rfl | exact World.drewN_drewN _ _ _⟩
          by_cases e : j = m
          · subst e; exact hl
          · exact HA.out j (by omega)
        case measure => simp [intOf]; omega
    · go_wp2
      go_ret
      exact RB.mk (fun _ j hj => HA.out j (by omega)) ⟨q, rfl⟩

set_option maxHeartbeats 400000 in
/-- Two slices that read alike are equal. -/
theorem equal_true (ao bo : Option Addr) (n ca cb : Nat) (f : Nat → ByteArray) (w : World) (hn : n ≤ maxLen) (ha : Sl w ao n f) (hb : Sl w bo n f) :
    Calls Trym.prog 14 #[.slice ao n ca, .slice bo n cb] w (RB w fun bl => bl = true) := by
  unfold maxLen at hn
  go_enter Trym.func14, Trym.ntmps14
  go_wp2
  go_loopw [5] (fun i wr => ∃ k : Nat, k ≤ n ∧ i = .int .i64 k ∧ ∃ q, wr = w.drewN q) (fun i _ => n - (intOf i).toNat)
  case atStart => exact ⟨0, Nat.zero_le _, rfl, 0, rfl⟩
  case round =>
    obtain ⟨k, hk, rfl, q, rfl⟩ := hrel
    by_cases hlt : k < n
    · obtain ⟨b1, o1, hao, hc⟩ := ha (by omega)
      obtain ⟨b2, o2, hbo, hd⟩ := hb (by omega)
      have c0 := hc k hlt
      have c1 := hd k hlt
      clear ha hb hc hd
      rw [hao, hbo]
      clear hao hbo
      go_wp2
      go_quiet (fail)
      go_wp2
      go_roundw
      case rel => exact ⟨k + 1, by omega, by go_num, q + nq, by first | rfl | exact World.drewN_drewN _ _ _⟩
      case measure => simp [intOf]; omega
    · go_wp2
      go_ret
      exact RB.mk rfl ⟨q, rfl⟩

set_option maxHeartbeats 400000 in
theorem within_any (ao bo : Option Addr) (n m ca cb : Nat) (f g : Nat → ByteArray) (w : World) (hn : n ≤ maxLen) (hm : m ≤ maxLen) (ha : Sl w ao n f) (hb : Sl w bo m g) :
    Calls Trym.prog 9 #[.slice ao n ca, .slice bo m cb] w (RB w (Small n m)) := by
  unfold maxLen at hn hm
  by_cases h1 : n ≤ 65536
  · by_cases h2 : m ≤ 65536
    · go_enter Trym.func9, Trym.ntmps9
      go_wp2
      · go_ret
        exact RB.mk (Small.no _ _) ⟨0, rfl⟩
      go_loop [5, 6] (fun t i => ∃ k s : Nat, k ≤ n ∧ i = .int .i64 k ∧ t = .int .i64 s ∧ s ≤ 1048576) (fun _ i => n - (intOf i).toNat)
      case atStart => exact ⟨0, 16 * (n + m), Nat.zero_le _, rfl, by go_num, by omega⟩
      case round =>
        obtain ⟨k, s, hk, rfl, rfl, hs⟩ := hrel
        by_cases hlt : k < n
        · obtain ⟨b1, o1, hao, hc⟩ := ha (by omega)
          have c0 := hc k hlt
          clear ha hc hb
          rw [hao]
          clear hao
          go_wp2
          · go_ret
            exact RB.mk (Small.no _ _) ⟨0, rfl⟩
          · go_ret
            exact RB.mk (Small.no _ _) ⟨0, rfl⟩
          · go_round
            case rel => exact ⟨k + 1, s + (f k).size, by omega, by go_num, by go_num, by omega⟩
            case measure => simp [intOf]; omega
        · go_wp2
          go_loop [5, 7] (fun t i => ∃ k s : Nat, k ≤ m ∧ i = .int .i64 k ∧ t = .int .i64 s ∧ s ≤ 1048576) (fun _ i => m - (intOf i).toNat)
          case atStart => exact ⟨0, s, Nat.zero_le _, rfl, rfl, by omega⟩
          case round =>
            obtain ⟨k, s, hk, rfl, rfl, hs⟩ := hrel
            by_cases hlt : k < m
            · obtain ⟨b1, o1, hbo, hc⟩ := hb (by omega)
              have c0 := hc k hlt
              clear ha hc hb
              rw [hbo]
              clear hbo
              go_wp2
              · go_ret
                exact RB.mk (Small.no _ _) ⟨0, rfl⟩
              · go_ret
                exact RB.mk (Small.no _ _) ⟨0, rfl⟩
              · go_round
                case rel => exact ⟨k + 1, s + (g k).size, by omega, by go_num, by go_num, by omega⟩
                case measure => simp [intOf]; omega
            · go_wp2
              go_ret
              exact RB.mk (fun _ => ⟨h1, h2⟩) ⟨0, rfl⟩
    · go_enter Trym.func9, Trym.ntmps9
      go_wp2
      go_ret
      exact RB.mk (Small.no _ _) ⟨0, rfl⟩
  · go_enter Trym.func9, Trym.ntmps9
    go_wp2
    go_ret
    exact RB.mk (Small.no _ _) ⟨0, rfl⟩

set_option maxHeartbeats 400000 in
theorem bytes8_any (ao bo : Option Addr) (n m ca cb : Nat) (x : Int) (f g : Nat → ByteArray) (w : World) (hn : n ≤ maxLen) (hm : m ≤ maxLen) (ha : Sl w ao n f) (hb : Sl w bo m g) :
    Calls Trym.prog 8 #[.slice ao n ca, .int .i64 x, .slice bo m cb] w (RB w fun _ => True) := by
  unfold maxLen at hn hm
  go_enter Trym.func8, Trym.ntmps8
  go_wp2
  · go_ret
    exact RB.mk trivial ⟨0, rfl⟩
  go_loop [7, 8] (fun t i => ∃ k s : Nat, k ≤ n ∧ i = .int .i64 k ∧ t = .int .i64 s ∧ s ≤ 1048576) (fun _ i => n - (intOf i).toNat)
  case atStart => exact ⟨0, n, Nat.zero_le _, rfl, by go_num, by omega⟩
  case round =>
    obtain ⟨k, s, hk, rfl, rfl, hs⟩ := hrel
    by_cases hlt : k < n
    · obtain ⟨b1, o1, hao, hc⟩ := ha (by omega)
      have c0 := hc k hlt
      clear ha hc hb
      rw [hao]
      clear hao
      go_wp2
      · go_ret
        exact RB.mk trivial ⟨0, rfl⟩
      · go_ret
        exact RB.mk trivial ⟨0, rfl⟩
      · go_round
        case rel => exact ⟨k + 1, s + (f k).size, by omega, by go_num, by go_num, by omega⟩
        case measure => simp [intOf]; omega
    · go_wp2
      · go_ret
        exact RB.mk trivial ⟨0, rfl⟩
      · go_ret
        exact RB.mk trivial ⟨0, rfl⟩
      go_loop [7, 9] (fun t i => ∃ k s : Nat, k ≤ m ∧ i = .int .i64 k ∧ t = .int .i64 s ∧ s ≤ 1048576) (fun _ i => m - (intOf i).toNat)
      case atStart => exact ⟨0, s + m, Nat.zero_le _, rfl, by go_num, by omega⟩
      case round =>
        obtain ⟨k, s, hk, rfl, rfl, hs⟩ := hrel
        by_cases hlt : k < m
        · obtain ⟨b1, o1, hbo, hc⟩ := hb (by omega)
          have c0 := hc k hlt
          clear ha hc hb
          rw [hbo]
          clear hbo
          go_wp2
          · go_ret
            exact RB.mk trivial ⟨0, rfl⟩
          · go_ret
            exact RB.mk trivial ⟨0, rfl⟩
          · go_round
            case rel => exact ⟨k + 1, s + (g k).size, by omega, by go_num, by go_num, by omega⟩
            case measure => simp [intOf]; omega
        · go_wp2
          go_ret
          exact RB.mk trivial ⟨0, rfl⟩

set_option maxHeartbeats 400000 in
theorem bytes15_any (ao bo : Option Addr) (n m ca cb : Nat) (f g : Nat → ByteArray) (w : World) (hn : n ≤ maxLen) (hm : m ≤ maxLen) (ha : Sl w ao n f) (hb : Sl w bo m g) :
    Calls Trym.prog 15 #[.slice ao n ca, .slice bo m cb] w (RB w fun _ => True) := by
  unfold maxLen at hn hm
  go_enter Trym.func15, Trym.ntmps15
  go_wp2
  · go_ret
    exact RB.mk trivial ⟨0, rfl⟩
  go_loop [5, 6] (fun t i => ∃ k s : Nat, k ≤ n ∧ i = .int .i64 k ∧ t = .int .i64 s ∧ s ≤ 1048576) (fun _ i => n - (intOf i).toNat)
  case atStart => exact ⟨0, n, Nat.zero_le _, rfl, by go_num, by omega⟩
  case round =>
    obtain ⟨k, s, hk, rfl, rfl, hs⟩ := hrel
    by_cases hlt : k < n
    · obtain ⟨b1, o1, hao, hc⟩ := ha (by omega)
      have c0 := hc k hlt
      clear ha hc hb
      rw [hao]
      clear hao
      go_wp2
      · go_ret
        exact RB.mk trivial ⟨0, rfl⟩
      · go_ret
        exact RB.mk trivial ⟨0, rfl⟩
      · go_round
        case rel => exact ⟨k + 1, s + (f k).size, by omega, by go_num, by go_num, by omega⟩
        case measure => simp [intOf]; omega
    · go_wp2
      · go_ret
        exact RB.mk trivial ⟨0, rfl⟩
      · go_ret
        exact RB.mk trivial ⟨0, rfl⟩
      go_loop [5, 7] (fun t i => ∃ k s : Nat, k ≤ m ∧ i = .int .i64 k ∧ t = .int .i64 s ∧ s ≤ 1048576) (fun _ i => m - (intOf i).toNat)
      case atStart => exact ⟨0, s + m, Nat.zero_le _, rfl, by go_num, by omega⟩
      case round =>
        obtain ⟨k, s, hk, rfl, rfl, hs⟩ := hrel
        by_cases hlt : k < m
        · obtain ⟨b1, o1, hbo, hc⟩ := hb (by omega)
          have c0 := hc k hlt
          clear ha hc hb
          rw [hbo]
          clear hbo
          go_wp2
          · go_ret
            exact RB.mk trivial ⟨0, rfl⟩
          · go_ret
            exact RB.mk trivial ⟨0, rfl⟩
          · go_round
            case rel => exact ⟨k + 1, s + (g k).size, by omega, by go_num, by go_num, by omega⟩
            case measure => simp [intOf]; omega
        · go_wp2
          go_ret
          exact RB.mk trivial ⟨0, rfl⟩

end Go.Proofs.Qxb6603292aMods
