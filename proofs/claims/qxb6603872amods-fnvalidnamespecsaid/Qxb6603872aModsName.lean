/-
  SEAT b6603872aM. zzInAlphabet, validName, ZZvalidName by their contracts; the walk of FnValidNameSpec.
-/
import Derived.Test.Qxb6603872aModsRows
import Derived.WalkKit
import Derived.ProofKit
import Derived.WalkLawsBesides
import Derived.Lib.ConvBytes
namespace Go.Proofs.Qxb6603872aMods
open Go.ChangeShapes Go.WideShapes Go.ChangeAt Go.RowKit

/-- The bytes that a name may hold. -/
def okc (c : Nat) : Bool := (decide (97 ≤ c) && decide (c ≤ 122)) || (decide (65 ≤ c) && decide (c ≤ 90)) || (decide (48 ≤ c) && decide (c ≤ 57)) || c == 46 || c == 95 || c == 45
/-- Do the first k bytes all serve? -/
def allb (p : Nat → Bool) : Nat → Bool
  | 0 => true
  | k + 1 => allb p k && p k

theorem okc_yes : ∀ c, c < 256 → okc c = true → (97 ≤ c ∧ c ≤ 122) ∨ (65 ≤ c ∧ c ≤ 90) ∨ (48 ≤ c ∧ c ≤ 57) ∨ (46 ≤ c ∧ c ≤ 46) ∨ (95 ≤ c ∧ c ≤ 95) ∨ (45 ≤ c ∧ c ≤ 45) := by decide +kernel
theorem okc_no : ∀ c, c < 256 → okc c = false → (0 ≤ c ∧ c ≤ 44) ∨ (47 ≤ c ∧ c ≤ 47) ∨ (58 ≤ c ∧ c ≤ 64) ∨ (91 ≤ c ∧ c ≤ 94) ∨ (96 ≤ c ∧ c ≤ 96) ∨ (123 ≤ c ∧ c ≤ 255) := by decide +kernel

theorem eqb_no {c : Nat} {d : Int} (h : (c : Int) ≠ d) : ((c : Int) == d) = false := beq_eq_false_iff_ne.2 h
theorem eqb_yes {c : Nat} {d : Int} (h : (c : Int) = d) : ((c : Int) == d) = true := beq_iff_eq.2 h

/-- The alphabet, as the Go text has it. -/
def al : ByteArray := ⟨#[97, 98, 99, 100, 101, 102, 103, 104, 105, 106, 107, 108, 109, 110, 111, 112, 113, 114, 115, 116, 117, 118, 119, 120, 121, 122, 65, 66, 67, 68, 69, 70, 71, 72, 73, 74, 75, 76, 77, 78, 79, 80, 81, 82, 83, 84, 85, 86, 87, 88, 89, 90, 48, 49, 50, 51, 52, 53, 54, 55, 56, 57, 46, 95, 45]⟩
def alN (k : Nat) : Nat := (al.data.toList.getD k 0).toNat
theorem al_size : al.size = 65 := by decide +kernel
theorem al_get : ∀ k, (h : k < 65) → (al[k]'(by rw [al_size]; exact h)).toNat = alN k := by decide +kernel
theorem al_ok : ∀ k, k < 65 → okc (alN k) = true := by decide +kernel
theorem al_all : ∀ c, c < 256 → okc c = true → ∃ k, k < 65 ∧ alN k = c := by decide +kernel

set_option maxHeartbeats 400000 in
theorem inA_any (c : Nat) (hc : c < 256) (w : World) : Calls Trym.prog 14 #[.int .u8 c] w fun e w' => e = .returned (.bool (okc c)) ∧ w' = w := by
  go_enter Trym.func14, Trym.ntmps14
  go_wp2
  go_loop [3] (fun i => ∃ k : Nat, k ≤ 65 ∧ i = .int .i64 k ∧ Hid (∀ j, j < k → alN j ≠ c)) (fun i => 65 - (intOf i).toNat)
  case atStart => exact ⟨0, Nat.zero_le _, rfl, fun j h => absurd h (by omega)⟩
  case round =>
    obtain ⟨k, hk, rfl, HA⟩ := hrel
    by_cases hlt : k < 65
    · go_wp2
      · have h := ‹((_ : Int) == (c : Int)) = true›
        have h1 : (((al[k]'(by rw [al_size]; exact hlt)).toNat : Int) == (c : Int)) = true := h
        rw [al_get k hlt] at h1
        have h2 : alN k = c := by have := (beq_iff_eq.1 h1); omega
        go_ret
        exact ⟨by rw [← h2, al_ok k hlt]; rfl, rfl⟩
      · have h := ‹((_ : Int) == (c : Int)) = false›
        have h1 : (((al[k]'(by rw [al_size]; exact hlt)).toNat : Int) == (c : Int)) = false := h
        rw [al_get k hlt] at h1
        have h2 : alN k ≠ c := fun e => by rw [e] at h1; simp at h1
        go_round
        case rel =>
          refine ⟨k + 1, by omega, by go_num, fun j hj => ?_⟩
          by_cases e : j = k
          · subst e; exact h2
          · exact HA.out j (by omega)
        case measure => simp [intOf]; omega
    · have h2 : okc c = false := by
        cases h : okc c with
        | false => rfl
        | true =>
          obtain ⟨j, hj, hjc⟩ := al_all c hc h
          exact absurd hjc (HA.out j (by omega))
      go_wp2
      go_ret
      exact ⟨rfl, rfl⟩

/-- The string's bytes, then zeros. -/
def bya (s : ByteArray) (k : Nat) : Nat := (s.data.toList.getD k 0).toNat
theorem bya_lt (s : ByteArray) (k : Nat) : bya s k < 256 := UInt8.toNat_lt _
theorem bya_at {s : ByteArray} {k : Nat} (h : k < s.size) : s[k].toNat = bya s k := by
  unfold bya
  have h' : k < s.data.toList.length := by simpa using h
  rw [List.getD_eq_getElem?_getD, List.getElem?_eq_getElem h', Option.getD_some]
  simp only [Array.getElem_toList]
  rfl

theorem size_list (s : ByteArray) : s.size = s.data.toList.length := by simp

/-- The name's law, plain. -/
def vn (s : ByteArray) : Bool := decide (0 < s.size) && allb (fun k => okc (bya s k)) s.size
/-- What validName hands back: vn; the world has at most new blocks. -/
def Vn (s : ByteArray) (w : World) (e : Ending) (w' : World) : Prop := e = .returned (.bool (vn s)) ∧ Below w.heap.size w w'

theorem allb_false {p : Nat → Bool} {k : Nat} (hk : p k = false) : ∀ n, k < n → allb p n = false
  | n + 1, h => by
    unfold allb
    by_cases e : k = n
    · subst e; rw [hk]; simp
    · rw [allb_false hk n (by omega)]; simp

set_option maxHeartbeats 1000000 in
theorem valid_any (s : ByteArray) (hs : s.size ≤ 1048576) (w : World) : Calls Trym.prog 19 #[.string s] w (Vn s w) := by
  have hcv := Lib.run_convert_string_bytes (P := Trym.prog) w 9 31 5 s Trym.underlying9 Trym.underlying31 Trym.underlying5
  have hcell : ∀ j, j < s.size → (Lib.bytesWorld w 5 s).cell? ⟨w.heap.size, j, none⟩ = some (.int .u8 (bya s j)) := fun j hj => Lib.bytesWorld_cell w 5 s j hj
  have HB : Hid (Below w.heap.size w (Lib.bytesWorld w 5 s)) := ⟨rfl, rfl, rfl, by rw [Lib.bytesWorld_size]; omega, fun k hk => Lib.bytesWorld_at_old w 5 s k hk⟩
  generalize Lib.bytesWorld w 5 s = w1 at hcv hcell HB
  have HC : Hid (∀ j, j < s.size → w1.cell? ⟨w.heap.size, j, none⟩ = some (.int .u8 (bya s j))) := hcell
  clear hcell
  go_enter Trym.func19, Trym.ntmps19
  go_wp2
  clear hcv
  go_loop [9] (fun i => ∃ k : Nat, k ≤ s.size ∧ i = .int .i64 k ∧ Hid (allb (fun k => okc (bya s k)) k = true)) (fun i => s.size - (intOf i).toNat)
  case atStart => exact ⟨0, Nat.zero_le _, rfl, rfl⟩
  case round =>
    obtain ⟨k, hk, rfl, HA⟩ := hrel
    by_cases hlt : k < s.size
    · have c0 := HC.out k hlt
      have hlc := bya_lt s k
      obtain ⟨c, hc⟩ : ∃ c, c = bya s k := ⟨_, rfl⟩
      have HCc : Hid (c = bya s k) := hc
      rw [← hc] at c0 hlc
      clear hc
      cases hok : okc c with
      | true =>
        have HN : Hid (allb (fun k => okc (bya s k)) (k + 1) = true) := by
          show (allb (fun k => okc (bya s k)) k && okc (bya s k)) = true
          rw [HA.out, ← HCc.out, hok]; rfl
        have hr := okc_yes c hlc hok
        clear hok HA HCc
        rcases hr with ⟨h1, h2⟩ | ⟨h1, h2⟩ | ⟨h1, h2⟩ | ⟨h1, h2⟩ | ⟨h1, h2⟩ | ⟨h1, h2⟩
        all_goals
          first | have e1 : ((c : Int) == 46) = false := eqb_no (by omega) | have e1 : ((c : Int) == 46) = true := eqb_yes (by omega)
          first | have e2 : ((c : Int) == 95) = false := eqb_no (by omega) | have e2 : ((c : Int) == 95) = true := eqb_yes (by omega)
          first | have e3 : ((c : Int) == 45) = false := eqb_no (by omega) | have e3 : ((c : Int) == 45) = true := eqb_yes (by omega)
          go_wp2
          go_round
          case rel => exact ⟨k + 1, by omega, by go_num, HN⟩
          case measure => simp [intOf]; omega
      | false =>
        have HN : Hid (vn s = false) := by
          show (decide (0 < s.size) && allb (fun k => okc (bya s k)) s.size) = false
          rw [allb_false (p := fun k => okc (bya s k)) (k := k) (by show okc (bya s k) = false; rw [← HCc.out]; exact hok) s.size hlt]
          simp
        have hr := okc_no c hlc hok
        clear hok HA HCc
        rcases hr with ⟨h1, h2⟩ | ⟨h1, h2⟩ | ⟨h1, h2⟩ | ⟨h1, h2⟩ | ⟨h1, h2⟩ | ⟨h1, h2⟩
        all_goals
          have e1 : ((c : Int) == 46) = false := eqb_no (by omega)
          have e2 : ((c : Int) == 95) = false := eqb_no (by omega)
          have e3 : ((c : Int) == 45) = false := eqb_no (by omega)
          first | have e4 : decide ((c : Int) ≤ 122) = false := decide_eq_false (by omega) | skip
          first | have e5 : decide ((c : Int) ≤ 90) = false := decide_eq_false (by omega) | skip
          first | have e6 : decide ((c : Int) ≤ 57) = false := decide_eq_false (by omega) | skip
          go_wp2
          go_ret
          exact ⟨by rw [HN.out]; rfl, HB.out⟩
    · obtain rfl : k = s.size := by omega
      by_cases h0 : 0 < s.size
      · have HN : Hid (vn s = true) := by
          show (decide (0 < s.size) && allb (fun k => okc (bya s k)) s.size) = true
          rw [HA.out]; simp [h0]
        have hne : s.toList.isEmpty = false := by
          rw [ByteArray.toList_eq]
          cases hl : s.data.toList with
          | nil => rw [size_list s, hl] at h0; exact absurd h0 (by simp)
          | cons _ _ => rfl
        go_wp2
        go_ret
        exact ⟨by rw [HN.out]; simp, HB.out⟩
      · have HN : Hid (vn s = false) := by
          show (decide (0 < s.size) && allb (fun k => okc (bya s k)) s.size) = false
          simp [h0]
        have hne : s.toList.isEmpty = true := by
          rw [ByteArray.toList_eq]
          cases hl : s.data.toList with
          | nil => rfl
          | cons _ _ => rw [size_list s, hl] at h0; exact absurd h0 (by simp)
        go_wp2
        go_ret
        exact ⟨by rw [HN.out]; simp, HB.out⟩

theorem zzvalid_any (s : ByteArray) (hs : s.size ≤ 1048576) (w : World) : Calls Trym.prog 15 #[.string s] w (Vn s w) := by
  have H := valid_any s hs w
  go_enter Trym.func15, Trym.ntmps15
  go_wp2_with (go_at_call 19; refine H.mono ?_; rintro e w' ⟨rfl, hb⟩)
  go_ret
  exact ⟨rfl, hb⟩
theorem bytes13_yes (s : ByteArray) (w : World) (hs : s.size ≤ 1048576) : Calls Trym.prog 13 #[.string s] w fun e w' => e = .returned (.bool true) ∧ w' = w := by
  go_enter Trym.func13, Trym.ntmps13
  go_wp2
  go_ret
  exact ⟨rfl, rfl⟩
theorem bytes13_no (s : ByteArray) (w : World) (hs : ¬ s.size ≤ 1048576) : Calls Trym.prog 13 #[.string s] w fun e w' => e = .returned (.bool false) ∧ w' = w := by
  go_enter Trym.func13, Trym.ntmps13
  go_wp2
  go_ret
  exact ⟨rfl, rfl⟩

set_option maxHeartbeats 400000 in
theorem law5 (s : ByteArray) (w : World) : Calls Trym.prog 5 #[.string s] w fun e w' => e = .returned (.bool true) ∧ Below w.heap.size w w' := by
  by_cases hs : s.size ≤ 1048576
  · have H0 := bytes13_yes s w hs
    go_enter Trym.func5, Trym.ntmps5
    go_wp2_with (go_at_call 13; refine H0.mono ?_; rintro e w' ⟨rfl, rfl⟩)
    clear H0
    go_loop [3, 4] (fun t i => ∃ (k : Nat) (b : Bool), k ≤ s.size ∧ i = .int .i64 k ∧ t = .bool b ∧ Hid (b = (decide (0 < s.size) && allb (fun k => okc (bya s k)) k))) (fun _ i => s.size - (intOf i).toNat)
    case atStart => exact ⟨0, decide (0 < s.size), Nat.zero_le _, rfl, by simp, by show _ = (_ && true); simp⟩
    case round =>
      obtain ⟨k, b, hk, rfl, rfl, HB⟩ := hrel
      by_cases hlt : k < s.size
      · have hlc := bya_lt s k
        have hat := bya_at hlt
        rw [← hat] at hlc
        have HA : Hid (s[k].toNat = bya s k) := hat
        clear hat
        cases hok : okc s[k].toNat with
        | true =>
          have HN : Hid (b = (decide (0 < s.size) && allb (fun k => okc (bya s k)) (k + 1))) := by
            show b = (decide (0 < s.size) && (allb (fun k => okc (bya s k)) k && okc (bya s k)))
            rw [← HA.out, hok, HB.out]; simp
          go_wp2_with (go_at_call 14; refine (inA_any _ hlc _).mono ?_; rintro e w' ⟨rfl, rfl⟩)
          go_round
          case rel => exact ⟨k + 1, b, by omega, by go_num, rfl, HN⟩
          case measure => simp [intOf]; omega
        | false =>
          have HN : Hid (false = (decide (0 < s.size) && allb (fun k => okc (bya s k)) (k + 1))) := by
            show false = (decide (0 < s.size) && (allb (fun k => okc (bya s k)) k && okc (bya s k)))
            rw [← HA.out, hok]; simp
          go_wp2_with (go_at_call 14; refine (inA_any _ hlc _).mono ?_; rintro e w' ⟨rfl, rfl⟩)
          go_round
          case rel => exact ⟨k + 1, false, by omega, by go_num, rfl, HN⟩
          case measure => simp [intOf]; omega
      · obtain rfl : k = s.size := by omega
        have HV : b = vn s := HB.out
        subst HV
        go_wp2_with (go_at_call 15; refine (zzvalid_any s hs _).mono ?_; rintro e w' ⟨rfl, hb⟩)
        go_ret
        exact ⟨by simp, hb⟩
  · have H0 := bytes13_no s w hs
    go_enter Trym.func5, Trym.ntmps5
    go_wp2_with (go_at_call 13; refine H0.mono ?_; rintro e w' ⟨rfl, rfl⟩)
    go_ret
    exact ⟨rfl, Below.refl _ _⟩
end Go.Proofs.Qxb6603872aMods
