/-
  SEAT b6604116aM. strings.HasPrefix at a quote, isOWS, isDelimProxyB1, wellFormedQuotedProxyB1, cutValue, ZZcutValue by their contracts; the walk of FnCutValueMatchesGrammar.
-/
import Derived.Test.Qxb6604116aModsRows
import Derived.Test.Qxb6604116aModsValPlain
import Derived.WalkKit
import Derived.ProofKit
import Derived.WalkLawsBesides
import Derived.WalkSpells
import Derived.Deep.QuietTactic
import Derived.BigQuiet
namespace Go.Proofs.Qxb6604116aMods
open Go.ChangeShapes Go.WideShapes Go.ChangeAt Go.RowKit

theorem vqb_no {c : Nat} {d : Int} (h : (c : Int) ≠ d) : ((c : Int) == d) = false := beq_eq_false_iff_ne.2 h
theorem vqb_yes {c : Nat} {d : Int} (h : (c : Int) = d) : ((c : Int) == d) = true := beq_iff_eq.2 h

/-! ### The small ones -/
def ows (c : Nat) : Bool := decide (c = 32) || decide (c = 9)
theorem ows_any (c : Nat) (w : World) : Calls Trym.prog 19 #[.int .u8 c] w fun e w' => e = .returned (.bool (ows c)) ∧ w' = w := by
  have h1 : ((c : Int) == 32) = decide (c = 32) := by rw [Bool.eq_iff_iff]; simp; omega
  have h2 : ((c : Int) == 9) = decide (c = 9) := by rw [Bool.eq_iff_iff]; simp; omega
  unfold ows
  rw [← h1, ← h2]
  clear h1 h2
  cases h1 : ((c : Int) == 32)
  · go_enter Trym.func19, Trym.ntmps19
    go_wp2
    go_ret
    exact ⟨by simp, rfl⟩
  · go_enter Trym.func19, Trym.ntmps19
    go_wp2
    go_ret
    exact ⟨by simp, rfl⟩
theorem dl_any (c : Nat) (w : World) : Calls Trym.prog 10 #[.int .u8 c] w fun e w' => e = .returned (.bool (dl c)) ∧ w' = w := by
  have h0 : ((c : Int) == 59) = decide (c = 59) := by rw [Bool.eq_iff_iff]; simp; omega
  have h1 : ((c : Int) == 32) = decide (c = 32) := by rw [Bool.eq_iff_iff]; simp; omega
  have h2 : ((c : Int) == 9) = decide (c = 9) := by rw [Bool.eq_iff_iff]; simp; omega
  unfold dl
  rw [← h0, ← h1, ← h2]
  clear h0 h1 h2
  cases h0 : ((c : Int) == 59)
  · cases h1 : ((c : Int) == 32)
    · go_enter Trym.func10, Trym.ntmps10
      go_wp2
      go_ret
      exact ⟨by simp, rfl⟩
    · go_enter Trym.func10, Trym.ntmps10
      go_wp2
      go_ret
      exact ⟨by simp, rfl⟩
  · go_enter Trym.func10, Trym.ntmps10
    go_wp2
    go_ret
    exact ⟨by simp, rfl⟩

theorem head_beq {s : ByteArray} (h : 0 < s.size) : ((s.extract 0 1).toList == [34]) = decide (0 < s.size ∧ bya s 0 = 34) := by
  rw [ByteArray.toList_eq, extract_list, List.drop_zero]
  unfold bya
  rw [size_list] at h
  rw [size_list]
  cases hl : s.data.toList with
  | nil => rw [hl] at h; simp at h
  | cons x l =>
    rw [Bool.eq_iff_iff]
    simp only [Nat.sub_zero, List.take_succ_cons, List.take_zero, beq_iff_eq, List.cons.injEq, and_true, decide_eq_true_eq, List.length_cons, List.getD_cons_zero, ← UInt8.toNat_inj]
    constructor
    · exact fun e => ⟨Nat.succ_pos _, e⟩
    · exact fun e => e.2
theorem ret_bool {a b : Bool} (h : a = b) : Ending.returned (.bool a) = .returned (.bool b) := by rw [h]
theorem prefix0_any (s : ByteArray) (hs : s.size ≤ maxLen) (w : World) : Calls Trym.prog 23 #[.string s, .string ⟨#[34]⟩] w fun e w' => e = .returned (.bool (decide (0 < s.size ∧ bya s 0 = 34))) ∧ w' = w := by
  unfold maxLen at hs
  by_cases h : 0 < s.size
  · have hb := head_beq h
    go_enter Trym.func23, Trym.ntmps23
    go_wp2
    go_ret
    exact ⟨ret_bool (by simp [h]), rfl⟩
  · have hb : decide (0 < s.size ∧ bya s 0 = 34) = false := decide_eq_false (fun e => h e.1)
    rw [hb]
    have h' : ¬ (1 : Int) ≤ (s.size : Int) := by omega
    go_enter Trym.func23, Trym.ntmps23
    go_wp2
    go_ret
    exact ⟨by simp, rfl⟩
theorem prefix_any (s : ByteArray) (hs : s.size ≤ maxLen) (w : World) : Calls Trym.prog 18 #[.string s, .string ⟨#[34]⟩] w fun e w' => e = .returned (.bool (decide (0 < s.size ∧ bya s 0 = 34))) ∧ w' = w := by
  have H := prefix0_any s hs w
  generalize decide (0 < s.size ∧ bya s 0 = 34) = b at H ⊢
  go_enter Trym.func18, Trym.ntmps18
  go_wp2_with (go_at_call 23; refine H.mono ?_; rintro e w' ⟨rfl, rfl⟩)
  go_ret
  exact ⟨rfl, rfl⟩

/-! ### wellFormedQuotedProxyB1 -/
/-- It answers a bool; where the string is a quoted one: true. -/
def Wf (t : ByteArray) (w : World) (e : Ending) (w' : World) : Prop := ∃ bl, e = .returned (.bool bl) ∧ (∀ K, Good t K → bl = true) ∧ w' = w

set_option maxHeartbeats 1000000 in
theorem wf_any (t : ByteArray) (ht : t.size ≤ 2097152) (w : World) : Calls Trym.prog 11 #[.string t] w (Wf t w) := by
  by_cases h2 : 2 ≤ t.size
  · have hA0 := bya_at (s := t) (k := 0) (by omega)
    have hAl := bya_at (s := t) (k := t.size - 1) (by omega)
    have HA0 : Hid (t[0].toNat = bya t 0) := hA0
    have HAl : Hid (t[t.size - 1].toNat = bya t (t.size - 1)) := hAl
    clear hA0 hAl
    by_cases h0 : t[0].toNat = 34
    · have e0 : ((t[0].toNat : Int) != 34) = false := by simp; omega
      clear h0
      by_cases hl : t[t.size - 1].toNat = 34
      · have el : ((t[t.size - 1].toNat : Int) != 34) = false := by simp; omega
        clear hl
        go_enter Trym.func11, Trym.ntmps11
        go_wp2
        clear e0 el HA0 HAl
        go_loop [4] (fun x => ∃ i : Nat, 1 ≤ i ∧ i ≤ t.size ∧ x = .int .i64 i ∧ Hid (∀ K, Good t K → ∃ j, j ≤ K ∧ i = pos (bya t) j)) (fun x => t.size - (intOf x).toNat)
        case atStart => exact ⟨1, Nat.le_refl _, by omega, rfl, fun K _ => ⟨0, Nat.zero_le _, rfl⟩⟩
        case round =>
          obtain ⟨i, hi1, hi2, rfl, HI⟩ := hrel
          by_cases hlt : i < t.size - 1
          · have hit : i < t.size := by omega
            have hat := bya_at (s := t) (k := i) hit
            have HJ : Hid (∀ K, Good t K → ∃ j, j < K ∧ i = pos (bya t) j) := fun K g => by
              obtain ⟨j, hj, e⟩ := HI.out K g
              have hne : j ≠ K := fun e2 => by rw [e2, g.comes] at e; omega
              exact ⟨j, by omega, e⟩
            have HAt : Hid (t[i].toNat = bya t i) := hat
            clear hat HI
            by_cases h34 : t[i].toNat = 34
            · have e1 : ((t[i].toNat : Int) == 34) = true := vqb_yes (by omega)
              have HN : Hid (∀ K, Good t K → False) := fun K g => by
                obtain ⟨j, hj, e⟩ := HJ.out K g
                exact g.none j hj (by rw [← e, ← HAt.out]; exact h34)
              clear h34 HJ HAt
              go_wp2
              go_ret
              exact ⟨false, rfl, fun K g => (HN.out K g).elim, rfl⟩
            · have e1 : ((t[i].toNat : Int) == 34) = false := vqb_no (by omega)
              clear h34
              by_cases h92 : t[i].toNat = 92
              · have e2 : ((t[i].toNat : Int) == 92) = true := vqb_yes (by omega)
                have HS : Hid (∀ K, Good t K → ∃ j, j ≤ K ∧ i + 2 = pos (bya t) j) := fun K g => by
                  obtain ⟨j, hj, e⟩ := HJ.out K g
                  exact ⟨j + 1, hj, by rw [pos_pair (by rw [← e, ← HAt.out]; exact h92), e]⟩
                clear h92 HJ HAt
                by_cases hend : i + 1 < t.size - 1
                · go_wp2
                  go_round
                  case rel => exact ⟨i + 2, by omega, by omega, by go_num, HS⟩
                  case measure => simp [intOf]; omega
                · have HN : Hid (∀ K, Good t K → False) := fun K g => by
                    obtain ⟨j, hj, e⟩ := HS.out K g
                    have := pos_mono (bya t) hj
                    rw [g.comes] at this
                    omega
                  clear HS
                  go_wp2
                  go_ret
                  exact ⟨false, rfl, fun K g => (HN.out K g).elim, rfl⟩
              · have e2 : ((t[i].toNat : Int) == 92) = false := vqb_no (by omega)
                have HS : Hid (∀ K, Good t K → ∃ j, j ≤ K ∧ i + 1 = pos (bya t) j) := fun K g => by
                  obtain ⟨j, hj, e⟩ := HJ.out K g
                  exact ⟨j + 1, hj, by rw [pos_one (by rw [← e, ← HAt.out]; exact h92), e]⟩
                clear h92 HJ HAt
                go_wp2
                go_round
                case rel => exact ⟨i + 1, by omega, by omega, by go_num, HS⟩
                case measure => simp [intOf]; omega
          · go_wp2
            go_ret
            exact ⟨true, rfl, fun _ _ => rfl, rfl⟩
      · have el : ((t[t.size - 1].toNat : Int) != 34) = true := by simp; omega
        have HN : Hid (∀ K, Good t K → False) := fun K g => hl (by rw [HAl.out]; exact g.last)
        clear hl
        go_enter Trym.func11, Trym.ntmps11
        go_wp2
        go_ret
        exact ⟨false, rfl, fun K g => (HN.out K g).elim, rfl⟩
    · have e0 : ((t[0].toNat : Int) != 34) = true := by simp; omega
      have HN : Hid (∀ K, Good t K → False) := fun K g => h0 (by rw [HA0.out]; exact g.head)
      clear h0
      go_enter Trym.func11, Trym.ntmps11
      go_wp2
      go_ret
      exact ⟨false, rfl, fun K g => (HN.out K g).elim, rfl⟩
  · have HN : Hid (∀ K, Good t K → False) := fun K g => h2 g.size
    go_enter Trym.func11, Trym.ntmps11
    go_wp2
    go_ret
    exact ⟨false, rfl, fun K g => (HN.out K g).elim, rfl⟩

/-! ### cutValue -/
/-- What cutValue hands back. -/
def Cv (s : ByteArray) (w : World) (e : Ending) (w' : World) : Prop :=
  (¬ (0 < s.size ∧ bya s 0 = 34) ∧ ∃ n, n ≤ s.size ∧ (∀ j, j < n → dl (bya s j) = false) ∧ (n < s.size → dl (bya s n) = true) ∧
    e = .returned (.tuple #[.string (s.extract 0 n), .string (s.extract n s.size), .bool true]) ∧ ∃ q, w' = w.drewN q) ∨
  ((0 < s.size ∧ bya s 0 = 34) ∧ ∃ K, s.size ≤ pos (bya s) K ∧ (∀ j, j < K → pos (bya s) j < s.size) ∧ (∀ j, j < K → bya s (pos (bya s) j) ≠ 34) ∧
    e = .returned (.tuple #[.string ByteArray.empty, .string ByteArray.empty, .bool false]) ∧ w' = w) ∨
  ((0 < s.size ∧ bya s 0 = 34) ∧ ∃ K, pos (bya s) K < s.size ∧ bya s (pos (bya s) K) = 34 ∧ (∀ j, j < K → bya s (pos (bya s) j) ≠ 34) ∧
    e = .returned (.tuple #[.string (s.extract 0 (pos (bya s) K + 1)), .string (s.extract (pos (bya s) K + 1) s.size), .bool true]) ∧ ∃ q, w' = w.drewN q)

theorem ext_all (s : ByteArray) : s.extract 0 s.size = s := by
  apply ext_list
  rw [extract_list, List.drop_zero, Nat.sub_zero, size_list, List.take_length]
theorem ext_none (s : ByteArray) : s.extract s.size s.size = ByteArray.empty := by
  apply ext_list
  rw [extract_list, Nat.sub_self, List.take_zero]; rfl
theorem dl_ows (c : Nat) : dl c = (decide (c = 59) || ows c) := by simp [dl, ows, Bool.or_assoc]

set_option maxHeartbeats 1000000 in
theorem bare_any (s : ByteArray) (hs : s.size ≤ 1048576) (w : World) (h0 : ¬ (0 < s.size ∧ bya s 0 = 34)) : Calls Trym.prog 16 #[.string s] w (Cv s w) := by
  have H0 := prefix_any s (by unfold maxLen; omega) w
  rw [decide_eq_false h0] at H0
  have H00 : Hid (¬ (0 < s.size ∧ bya s 0 = 34)) := h0
  clear h0
  go_enter Trym.func16, Trym.ntmps16
  go_wp2_with (go_at_call 18; refine H0.mono ?_; rintro e w' ⟨rfl, rfl⟩)
  clear H0
  go_loop [5] (fun x => ∃ n : Nat, n ≤ s.size ∧ x = .int .i64 n ∧ Hid (∀ j, j < n → dl (bya s j) = false)) (fun x => s.size - (intOf x).toNat)
  case atStart => exact ⟨0, Nat.zero_le _, rfl, fun j h => absurd h (by omega)⟩
  case round =>
    obtain ⟨n, hn, rfl, HD⟩ := hrel
    by_cases hlt : n < s.size
    · have hat := bya_at hlt
      by_cases h59 : s[n].toNat = 59
      · have e1 : ((s[n].toNat : Int) != 59) = false := by simp; omega
        have HE : Hid (dl (bya s n) = true) := by rw [← hat, h59]; rfl
        clear h59 hat
        go_wp2_with fail
        go_big_quiet (fail)
        go_wp2
        go_ret3
        exact .inl ⟨H00, n, hn, HD.out, fun _ => HE.out, rfl, nq, rfl⟩
      · have e1 : ((s[n].toNat : Int) != 59) = true := by simp; omega
        have HO := dl_ows s[n].toNat
        rw [decide_eq_false h59, Bool.false_or] at HO
        have HC := ows_any s[n].toNat
        cases ho : ows s[n].toNat with
        | true =>
          have HE : Hid (dl (bya s n) = true) := by rw [← hat, HO]; exact ho
          rw [ho] at HC
          clear h59 hat HO ho
          go_wp2_with (go_at_call 19; refine (HC _).mono ?_; rintro e w' ⟨rfl, rfl⟩)
          go_big_quiet (fail)
          go_wp2
          go_ret3
          exact .inl ⟨H00, n, hn, HD.out, fun _ => HE.out, rfl, nq, rfl⟩
        | false =>
          have HE : Hid (∀ j, j < n + 1 → dl (bya s j) = false) := fun j hj => by
            by_cases e : j = n
            · subst e; rw [← hat, HO]; exact ho
            · exact HD.out j (by omega)
          rw [ho] at HC
          clear h59 hat HO ho
          go_wp2_with (go_at_call 19; refine (HC _).mono ?_; rintro e w' ⟨rfl, rfl⟩)
          go_round
          case rel => exact ⟨n + 1, by omega, by go_num, HE⟩
          case measure => simp [intOf]; omega
    · obtain rfl : n = s.size := by omega
      go_wp2_with fail
      go_big_quiet (fail)
      go_wp2
      go_ret3
      exact .inl ⟨H00, s.size, hn, HD.out, fun h => absurd h (by omega), by rw [ext_all, ext_none]; rfl, nq, rfl⟩

set_option maxHeartbeats 1000000 in
theorem quoted_any (s : ByteArray) (hs : s.size ≤ 1048576) (w : World) (h0 : 0 < s.size ∧ bya s 0 = 34) : Calls Trym.prog 16 #[.string s] w (Cv s w) := by
  have H0 := prefix_any s (by unfold maxLen; omega) w
  rw [decide_eq_true h0] at H0
  have H00 : Hid (0 < s.size ∧ bya s 0 = 34) := h0
  clear h0
  go_enter Trym.func16, Trym.ntmps16
  go_wp2_with (go_at_call 18; refine H0.mono ?_; rintro e w' ⟨rfl, rfl⟩)
  clear H0
  go_loop [6] (fun x => ∃ K i : Nat, x = .int .i64 i ∧ Hid (i = pos (bya s) K) ∧ i ≤ s.size + 1 ∧ Hid (∀ j, j < K → pos (bya s) j < s.size) ∧ Hid (∀ j, j < K → bya s (pos (bya s) j) ≠ 34)) (fun x => s.size + 1 - (intOf x).toNat)
  case atStart => exact ⟨0, 1, rfl, rfl, by omega, fun j h => absurd h (by omega), fun j h => absurd h (by omega)⟩
  case round =>
    obtain ⟨K, i, rfl, HI, hi, HL, HN⟩ := hrel
    by_cases hlt : i < s.size
    · have hat := bya_at hlt
      have HL' : Hid (∀ j, j < K + 1 → pos (bya s) j < s.size) := fun j hj => by
        by_cases e : j = K
        · subst e; rw [← HI.out]; exact hlt
        · exact HL.out j (by omega)
      by_cases h92 : s[i].toNat = 92
      · have e1 : ((s[i].toNat : Int) == 92) = true := vqb_yes (by omega)
        have HB : Hid (bya s (pos (bya s) K) = 92) := by rw [← HI.out, ← hat]; exact h92
        have HI' : Hid (i + 2 = pos (bya s) (K + 1)) := by rw [pos_pair HB.out, HI.out]; rfl
        have HN' : Hid (∀ j, j < K + 1 → bya s (pos (bya s) j) ≠ 34) := fun j hj => by
          by_cases e : j = K
          · subst e; rw [HB.out]; omega
          · exact HN.out j (by omega)
        clear h92 hat HB HI HL HN
        go_wp2
        go_round
        case rel => exact ⟨K + 1, i + 2, by go_num, HI', by omega, HL', HN'⟩
        case measure => simp [intOf]; omega
      · have e1 : ((s[i].toNat : Int) == 92) = false := vqb_no (by omega)
        by_cases h34 : s[i].toNat = 34
        · have e2 : ((s[i].toNat : Int) == 34) = true := vqb_yes (by omega)
          have HB : Hid (bya s (pos (bya s) K) = 34) := by rw [← HI.out, ← hat]; exact h34
          clear h92 h34 hat
          go_wp2
          go_big_quiet (fail)
          go_wp2
          go_ret3
          refine .inr (.inr ⟨H00, K, by rw [← HI.out]; exact hlt, HB, HN, ?_, nq, rfl⟩)
          rw [← HI.out]
          rfl
        · have e2 : ((s[i].toNat : Int) == 34) = false := vqb_no (by omega)
          have HB : Hid (bya s (pos (bya s) K) ≠ 34) := by rw [← HI.out, ← hat]; exact h34
          have HI' : Hid (i + 1 = pos (bya s) (K + 1)) := by rw [pos_one (by rw [← HI.out, ← hat]; exact h92), HI.out]; rfl
          have HN' : Hid (∀ j, j < K + 1 → bya s (pos (bya s) j) ≠ 34) := fun j hj => by
            by_cases e : j = K
            · subst e; exact HB.out
            · exact HN.out j (by omega)
          clear h92 h34 hat HB HI HL HN
          go_wp2
          go_round
          case rel => exact ⟨K + 1, i + 1, by go_num, HI', by omega, HL', HN'⟩
          case measure => simp [intOf]; omega
    · go_wp2
      go_ret3
      exact .inr (.inl ⟨H00, K, by rw [← HI.out]; omega, HL, HN, rfl, rfl⟩)

theorem zzvalue_any (s : ByteArray) (hs : s.size ≤ 1048576) (w : World) : Calls Trym.prog 9 #[.string s] w (Cv s w) := by
  have H : Calls Trym.prog 16 #[.string s] w (Cv s w) := by
    by_cases h0 : 0 < s.size ∧ bya s 0 = 34
    · exact quoted_any s hs w h0
    · exact bare_any s hs w h0
  go_enter Trym.func9, Trym.ntmps9
  go_wp2_with fail
  refine H.mono ?_
  rintro e w' (⟨h0, n, h1, h2, h3, rfl, q, rfl⟩ | ⟨h0, K, h1, h2, h3, rfl, rfl⟩ | ⟨h0, K, h1, h2, h3, rfl, q, rfl⟩)
  · clear H
    go_wp2_with fail
    go_ret3
    exact .inl ⟨h0, n, h1, h2, h3, rfl, q, rfl⟩
  · clear H
    go_wp2_with fail
    go_ret3
    exact .inr (.inl ⟨h0, K, h1, h2, h3, rfl, rfl⟩)
  · clear H
    go_wp2_with fail
    go_ret3
    exact .inr (.inr ⟨h0, K, h1, h2, h3, rfl, q, rfl⟩)
theorem bytes8_yes (s : ByteArray) (w : World) (hs : s.size ≤ 1048576) : Calls Trym.prog 8 #[.string s] w fun e w' => e = .returned (.bool true) ∧ w' = w := by
  go_enter Trym.func8, Trym.ntmps8
  go_wp2
  go_ret
  exact ⟨rfl, rfl⟩
theorem bytes8_no (s : ByteArray) (w : World) (hs : ¬ s.size ≤ 1048576) : Calls Trym.prog 8 #[.string s] w fun e w' => e = .returned (.bool false) ∧ w' = w := by
  go_enter Trym.func8, Trym.ntmps8
  go_wp2
  go_ret
  exact ⟨rfl, rfl⟩

/-- The law answers true; the world has at most drawn. -/
def YesV (w : World) (e : Ending) (w' : World) : Prop := e = .returned (.bool true) ∧ ∃ q, w' = w.drewN q

set_option maxHeartbeats 1000000 in
theorem law4 (s : ByteArray) (_hs : s.size ≤ maxLen) (w : World) : Calls Trym.prog 4 #[.string s] w (YesV w) := by
  by_cases hs : s.size ≤ 1048576
  · have H0 := bytes8_yes s w hs
    have H1 := zzvalue_any s hs
    go_enter Trym.func4, Trym.ntmps4
    go_wp2_with fail
    refine H0.mono ?_
    rintro e w' ⟨rfl, rfl⟩
    clear H0
    go_wp2_with fail
    refine (H1 _).mono ?_
    rintro e w1 (⟨h0, n, h1, h2, h3, rfl, q, rfl⟩ | ⟨h0, K, h1, h2, h3, rfl, rfl⟩ | ⟨h0, K, h1, h2, h3, rfl, q, rfl⟩)
    · -- a value that is written bare
      have hj := join_cut (s := s) (e := n)
      have hsV := size_take (s := s) h1
      have hsR := size_drop (s := s) (e := n)
      have hdV : ∀ k (hk : k < (s.extract 0 n).size), dl (s.extract 0 n)[k].toNat = false := fun k hk => by
        rw [bya_at hk, bya_take (by omega)]
        exact h2 k (by omega)
      have hdR : ∀ (hk : 0 < (s.extract n s.size).size), dl (s.extract n s.size)[0].toNat = true := fun hk => by
        rw [bya_at hk, bya_drop (by omega)]
        exact h3 (by omega)
      generalize s.extract 0 n = V at hj hsV hdV ⊢
      generalize s.extract n s.size = R at hj hsR hdR ⊢
      have hbig : V.size ≤ 1048576 := by omega
      have HdV : Hid (∀ k (hk : k < V.size), dl V[k].toNat = false) := hdV
      have HdR : Hid (∀ (hk : 0 < R.size), dl R[0].toNat = true) := hdR
      have hbigR : R.size ≤ 1048576 := by omega
      have H00 : Hid (¬ (0 < s.size ∧ bya s 0 = 34)) := h0
      clear hdV hdR hsV hsR h1 h2 h3 h0 H1
      have hcase : ((s.size : Int) == 0) = true ∨ (((s.size : Int) == 0) = false ∧ ∃ hpos : 0 < s.size, ((s[0].toNat : Int) != 34) = true) := by
        by_cases hz : s.size = 0
        · exact .inl (beq_iff_eq.2 (by omega))
        · have hpos : 0 < s.size := by omega
          refine .inr ⟨beq_eq_false_iff_ne.2 (by omega), hpos, ?_⟩
          have : s[0].toNat ≠ 34 := fun e => H00.out ⟨hpos, by rw [← bya_at hpos]; exact e⟩
          simp; omega
      clear H00
      rcases hcase with hz | ⟨hz, hpos, e0⟩
      all_goals
        go_wp2_with fail
        go_loop [6] (fun x => ∃ k : Nat, k ≤ V.size ∧ x = .int .i64 k) (fun x => V.size - (intOf x).toNat)
        case atStart => exact ⟨0, Nat.zero_le _, rfl⟩
        case round =>
          obtain ⟨k, hk, rfl⟩ := hrel
          by_cases hlt : k < V.size
          · have hd := HdV.out k hlt
            go_wp2_with (go_at_call 10; refine (dl_any _ _).mono ?_; rintro e w' ⟨rfl, rfl⟩)
            go_round
            case rel => exact ⟨k + 1, by omega, by go_num⟩
            case measure => simp [intOf]; omega
          · by_cases hR0 : 0 < R.size
            · have hd := HdR.out hR0
              have hrz : ((R.size : Int) == 0) = false := beq_eq_false_iff_ne.2 (by omega)
              go_wp2_with (go_at_call 10; refine (dl_any _ _).mono ?_; rintro e w' ⟨rfl, rfl⟩)
              go_ret
              exact ⟨by simp, q, rfl⟩
            · have hrz : ((R.size : Int) == 0) = true := beq_iff_eq.2 (by omega)
              go_wp2_with fail
              go_ret
              exact ⟨by simp, q, rfl⟩
    · -- a quoted string that does not end
      obtain ⟨hpos, h34⟩ := h0
      have hat : s[0].toNat = 34 := by rw [bya_at hpos, h34]
      have e0 : ((s[0].toNat : Int) != 34) = false := by rw [hat]; rfl
      have hz : ((s.size : Int) == 0) = false := beq_eq_false_iff_ne.2 (by omega)
      have W1 := wf_any (s ++ ⟨#[34]⟩) (by rw [size_append]; show s.size + 1 ≤ _; omega)
      have W2 := wf_any (s ++ ⟨#[97, 34]⟩) (by rw [size_append]; show s.size + 2 ≤ _; omega)
      have HG : Hid ((∃ K, Good (s ++ ⟨#[34]⟩) K) ∨ ∃ K, Good (s ++ ⟨#[97, 34]⟩) K) := by
        by_cases he : pos (bya s) K = s.size
        · exact .inl ⟨K, good_end hpos h34 he h2 h3⟩
        · refine .inr ⟨K, good_past hpos h34 ?_ h2 h3⟩
          cases K with
          | zero =>
            have : pos (bya s) 0 = 1 := rfl
            omega
          | succ k =>
            have := h2 k (by omega)
            have := pos_up (bya s) k
            omega
      clear H1 hat h1 h2 h3 h34
      go_wp2_with fail
      refine (W1 _).mono ?_
      rintro e w2 ⟨b1, rfl, hb1, rfl⟩
      cases b1 with
      | true =>
        go_wp2_with fail
        go_ret
        exact ⟨rfl, 0, rfl⟩
      | false =>
        go_wp2_with fail
        refine (W2 _).mono ?_
        rintro e w3 ⟨b2, rfl, hb2, rfl⟩
        have hb : b2 = true := by
          rcases HG.out with ⟨K, g⟩ | ⟨K, g⟩
          · exact absurd (hb1 K g) (by simp)
          · exact hb2 K g
        subst hb
        go_wp2_with fail
        go_ret
        exact ⟨rfl, 0, rfl⟩
    · -- a quoted string, cut off
      obtain ⟨hpos, h34⟩ := h0
      have hat : s[0].toNat = 34 := by rw [bya_at hpos, h34]
      have e0 : ((s[0].toNat : Int) != 34) = false := by rw [hat]; rfl
      have hz : ((s.size : Int) == 0) = false := beq_eq_false_iff_ne.2 (by omega)
      have hg := good_cut h34 h1 h2 h3
      have hj := join_cut (s := s) (e := pos (bya s) K + 1)
      have hsV := size_take (s := s) (e := pos (bya s) K + 1) h1
      have hsR := size_drop (s := s) (e := pos (bya s) K + 1)
      have W1 := wf_any (s.extract 0 (pos (bya s) K + 1)) (by rw [size_take h1]; omega)
      obtain ⟨V, hV⟩ : ∃ V, V = s.extract 0 (pos (bya s) K + 1) := ⟨_, rfl⟩
      obtain ⟨R, hR⟩ : ∃ R, R = s.extract (pos (bya s) K + 1) s.size := ⟨_, rfl⟩
      rw [← hV, ← hR] at hj
      rw [← hV] at W1 hg hsV
      rw [← hR] at hsR
      have hbig : V.size ≤ 1048576 := by omega
      have hbigR : R.size ≤ 1048576 := by omega
      clear hsV hsR
      rw [← hV, ← hR]
      have HG : Hid (Good V K) := hg
      clear H1 hat h1 h2 h3 h34 hV hR hg
      go_wp2_with fail
      refine (W1 _).mono ?_
      rintro e w2 ⟨b1, rfl, hb1, rfl⟩
      have hb : b1 = true := hb1 K HG.out
      subst hb
      go_wp2_with fail
      go_ret
      exact ⟨by simp, q, rfl⟩
  · have H0 := bytes8_no s w hs
    go_enter Trym.func4, Trym.ntmps4
    go_wp2_with (go_at_call 8; refine H0.mono ?_; rintro e w' ⟨rfl, rfl⟩)
    go_ret
    exact ⟨rfl, 0, rfl⟩
end Go.Proofs.Qxb6604116aMods
