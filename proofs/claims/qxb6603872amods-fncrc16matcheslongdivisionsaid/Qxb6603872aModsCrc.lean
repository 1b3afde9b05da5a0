/-
  SEAT b6603872aM. crc16, ZZcrc16, zzCrcLongDivision by their contracts; the walk of FnCrc16MatchesLongDivision.
-/
import Derived.Test.Qxb6603872aModsRows
import Derived.Test.Qxb6603872aModsCrcPlain
import Derived.WalkKit
import Derived.ProofKit
import Derived.WalkLawsBesides
namespace Go.Proofs.Qxb6603872aMods
open Go.ChangeShapes Go.WideShapes Go.ChangeAt Go.RowKit

/-- The string's bytes, then zeros. -/
def bys (s : ByteArray) (k : Nat) : Nat := if h : k < s.size then s[k].toNat else 0
theorem bys_at {s : ByteArray} {k : Nat} (h : k < s.size) : bys s k = s[k].toNat := by simp [bys, h]
theorem bys_past {s : ByteArray} {k : Nat} (h : ¬ k < s.size) : bys s k = 0 := by simp [bys, h]
theorem bys_lt (s : ByteArray) (k : Nat) : bys s k < 256 := by
  unfold bys
  split
  · exact UInt8.toNat_lt _
  · omega
theorem int_eq {k : IntKind} {a b : Int} (h : a = b) : Value.int k a = Value.int k b := by rw [h]
theorem ret_int {k : IntKind} {a b : Int} (h : a = b) : Ending.returned (.int k a) = .returned (.int k b) := by rw [h]

theorem zero_bits (j : Nat) : (((0 : Nat) : Int) / 2 ^ (7 - j)) = 0 := by simp

set_option maxHeartbeats 400000 in
theorem crc_any (s : ByteArray) (w : World) (hs : s.size ≤ 1048576) :
    Calls Trym.prog 17 #[.string s] w fun e w' => e = .returned (.int .u16 ((crcK (bys s) s.size).toNat : Int)) ∧ w' = w := by
  go_enter Trym.func17, Trym.ntmps17
  go_wp2
  go_loop [3, 4] (fun t i => ∃ (k : Nat) (r : BitVec 16), k ≤ s.size ∧ i = .int .i64 k ∧ t = .int .u16 (r.toNat : Int) ∧ Hid (r = crcK (bys s) k)) (fun _ i => s.size - (intOf i).toNat)
  case atStart => exact ⟨0, 0, Nat.zero_le _, rfl, rfl, rfl⟩
  case round =>
    obtain ⟨k, r, hk, rfl, rfl, HR⟩ := hrel
    by_cases hlt : k < s.size
    · have hin := in_top r s[k].toNat (UInt8.toNat_lt _)
      obtain ⟨r0, hr0⟩ : ∃ r0, r0 = r ^^^ BitVec.ofNat 16 (s[k].toNat * 256) := ⟨_, rfl⟩
      rw [← hr0] at hin
      have HR0 : Hid (r0 = r ^^^ BitVec.ofNat 16 (s[k].toNat * 256)) := hr0
      clear hr0
      go_wp2
      go_loop [3, 18] (fun t i => ∃ (j : Nat) (q : BitVec 16), j ≤ 8 ∧ i = .int .i64 j ∧ t = .int .u16 (q.toNat : Int) ∧ Hid (q = stps j r0)) (fun _ i => 8 - (intOf i).toNat)
      case atStart => exact ⟨0, r0, Nat.zero_le _, rfl, rfl, rfl⟩
      case round =>
        obtain ⟨j, q, hj, rfl, rfl, HQ⟩ := hrel
        by_cases hlt2 : j < 8
        · go_wp2
          · have h := crc_yes (by assumption)
            go_round
            case rel => exact ⟨j + 1, stp q, by omega, by go_num, int_eq h, by rw [HQ.out]; rfl⟩
            case measure => simp [intOf]; omega
          · have h := crc_no (by assumption)
            go_round
            case rel => exact ⟨j + 1, stp q, by omega, by go_num, int_eq h, by rw [HQ.out]; rfl⟩
            case measure => simp [intOf]; omega
        · obtain rfl : j = 8 := by omega
          go_wp2
          go_round
          case rel => exact ⟨k + 1, q, by omega, by go_num, rfl, by rw [HQ.out, HR0.out, HR.out, ← bys_at hlt]; rfl⟩
          case measure => simp [intOf]; omega
    · obtain rfl : k = s.size := by omega
      go_wp2
      go_ret
      exact ⟨ret_int (by rw [HR.out]), rfl⟩

set_option maxHeartbeats 400000 in
theorem ld_any (s : ByteArray) (w : World) (hs : s.size ≤ 1048576) :
    Calls Trym.prog 9 #[.string s] w fun e w' => e = .returned (.int .u16 ((ldK (bys s) (s.size + 2)).toNat : Int)) ∧ w' = w := by
  go_enter Trym.func9, Trym.ntmps9
  go_wp2
  go_loop [3, 4] (fun t i => ∃ (k : Nat) (r : BitVec 16), k ≤ s.size + 2 ∧ i = .int .i64 k ∧ t = .int .u16 (r.toNat : Int) ∧ Hid (r = ldK (bys s) k)) (fun _ i => s.size + 2 - (intOf i).toNat)
  case atStart => exact ⟨0, 0, Nat.zero_le _, rfl, rfl, rfl⟩
  case round =>
    obtain ⟨k, r, hk, rfl, rfl, HR⟩ := hrel
    by_cases hlt0 : k < s.size + 2
    · by_cases hlt : k < s.size
      · go_wp2
        go_loop [3, 6] (fun t i => ∃ (j : Nat) (q : BitVec 16), j ≤ 8 ∧ i = .int .i64 (7 - (j : Int)) ∧ t = .int .u16 (q.toNat : Int) ∧ Hid (q = stps j r ^^^ part (bys s k) j)) (fun _ i => (intOf i + 1).toNat)
        case atStart => exact ⟨0, r, Nat.zero_le _, rfl, rfl, by rw [part_zero _ (bys_lt s k)]; exact BitVec.xor_zero.symm⟩
        case round =>
          obtain ⟨j, q, hj, rfl, rfl, HQ⟩ := hrel
          by_cases hlt2 : j < 8
          · have hnext := ld_step r (bys s k) j (bys_lt s k) hlt2
            have HN : Hid (stp q ^^^ bt (bys s k) j = stps (j + 1) r ^^^ part (bys s k) (j + 1)) := by rw [HQ.out]; exact hnext
            clear hnext
            have hc := bys_lt s k
            rw [bys_at hlt] at HN hc
            go_wp2
            · have h := ld_yes (j := j) hc (by assumption)
              go_round
              case rel => exact ⟨j + 1, _, by omega, by go_num, int_eq h, by rw [bys_at hlt]; exact HN⟩
              case measure => simp [intOf]; omega
            · have h := ld_no (j := j) hc (by assumption)
              go_round
              case rel => exact ⟨j + 1, _, by omega, by go_num, int_eq h, by rw [bys_at hlt]; exact HN⟩
              case measure => simp [intOf]; omega
          · obtain rfl : j = 8 := by omega
            go_wp2
            go_round
            case rel => exact ⟨k + 1, q, by omega, by go_num, rfl, by rw [HQ.out, part_eight, HR.out]; rfl⟩
            case measure => simp [intOf]; omega
      · go_wp2
        go_loop [3, 6] (fun t i => ∃ (j : Nat) (q : BitVec 16), j ≤ 8 ∧ i = .int .i64 (7 - (j : Int)) ∧ t = .int .u16 (q.toNat : Int) ∧ Hid (q = stps j r ^^^ part (bys s k) j)) (fun _ i => (intOf i + 1).toNat)
        case atStart => exact ⟨0, r, Nat.zero_le _, rfl, rfl, by rw [part_zero _ (bys_lt s k)]; exact BitVec.xor_zero.symm⟩
        case round =>
          obtain ⟨j, q, hj, rfl, rfl, HQ⟩ := hrel
          by_cases hlt2 : j < 8
          · have hnext := ld_step r (bys s k) j (bys_lt s k) hlt2
            have HN : Hid (stp q ^^^ bt (bys s k) j = stps (j + 1) r ^^^ part (bys s k) (j + 1)) := by rw [HQ.out]; exact hnext
            clear hnext
            rw [bys_past hlt] at HN
            go_wp2
            · have h := ld_yes (c := 0) (j := j) (by omega) (by assumption)
              rw [zero_bits] at h
              go_round
              case rel => exact ⟨j + 1, _, by omega, by go_num, int_eq h, by rw [bys_past hlt]; exact HN⟩
              case measure => simp [intOf]; omega
            · have h := ld_no (c := 0) (j := j) (by omega) (by assumption)
              rw [zero_bits] at h
              go_round
              case rel => exact ⟨j + 1, _, by omega, by go_num, int_eq h, by rw [bys_past hlt]; exact HN⟩
              case measure => simp [intOf]; omega
          · obtain rfl : j = 8 := by omega
            go_wp2
            go_round
            case rel => exact ⟨k + 1, q, by omega, by go_num, rfl, by rw [HQ.out, part_eight, HR.out]; rfl⟩
            case measure => simp [intOf]; omega
    · obtain rfl : k = s.size + 2 := by omega
      go_wp2
      go_ret
      exact ⟨ret_int (by rw [HR.out]), rfl⟩

theorem zzcrc_any (s : ByteArray) (w : World) (hs : s.size ≤ 1048576) :
    Calls Trym.prog 8 #[.string s] w fun e w' => e = .returned (.int .u16 ((crcK (bys s) s.size).toNat : Int)) ∧ w' = w := by
  go_enter Trym.func8, Trym.ntmps8
  go_wp2_with (go_at_call 17; refine (crc_any s _ hs).mono ?_; rintro e w' ⟨rfl, rfl⟩)
  go_ret
  exact ⟨rfl, rfl⟩
theorem bytes7_yes (s : ByteArray) (w : World) (hs : s.size ≤ 1048576) : Calls Trym.prog 7 #[.string s] w fun e w' => e = .returned (.bool true) ∧ w' = w := by
  go_enter Trym.func7, Trym.ntmps7
  go_wp2
  go_ret
  exact ⟨rfl, rfl⟩
theorem bytes7_no (s : ByteArray) (w : World) (hs : ¬ s.size ≤ 1048576) : Calls Trym.prog 7 #[.string s] w fun e w' => e = .returned (.bool false) ∧ w' = w := by
  go_enter Trym.func7, Trym.ntmps7
  go_wp2
  go_ret
  exact ⟨rfl, rfl⟩

theorem law3 (s : ByteArray) (w : World) : Calls Trym.prog 3 #[.string s] w fun e w' => e = .returned (.bool true) ∧ w' = w := by
  by_cases hs : s.size ≤ 1048576
  · have hlaw : crcK (bys s) s.size = ldK (bys s) (s.size + 2) := crc_is_ld (bys s) (bys_lt s) s.size (bys_past (by omega)) (bys_past (by omega))
    obtain ⟨v, hv⟩ : ∃ v : Int, v = ((crcK (bys s) s.size).toNat : Int) := ⟨_, rfl⟩
    have H1 : ∀ w, Calls Trym.prog 8 #[.string s] w fun e w' => e = .returned (.int .u16 v) ∧ w' = w := fun w => by rw [hv]; exact zzcrc_any s w hs
    have H2 : ∀ w, Calls Trym.prog 9 #[.string s] w fun e w' => e = .returned (.int .u16 v) ∧ w' = w := fun w => by rw [hv, hlaw]; exact ld_any s w hs
    have H0 := bytes7_yes s w hs
    clear hlaw hv
    go_enter Trym.func3, Trym.ntmps3
    go_wp2_with (first | (go_at_call 7; refine H0.mono ?_; rintro e w' ⟨rfl, rfl⟩) | (go_at_call 8; refine (H1 _).mono ?_; rintro e w' ⟨rfl, rfl⟩) | (go_at_call 9; refine (H2 _).mono ?_; rintro e w' ⟨rfl, rfl⟩))
    go_ret
    exact ⟨by simp, rfl⟩
  · have H0 := bytes7_no s w hs
    go_enter Trym.func3, Trym.ntmps3
    go_wp2_with (go_at_call 7; refine H0.mono ?_; rintro e w' ⟨rfl, rfl⟩)
    go_ret
    exact ⟨rfl, rfl⟩
end Go.Proofs.Qxb6603872aMods
