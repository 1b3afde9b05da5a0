/-
  SEAT b6604116aM. cutForwarded, ZZcutForwarded by their contracts; the walk of FnCutForwardedIgnoresWhatStandsLeft.
-/
import Derived.Test.Qxb6604116aModsRows
import Derived.Test.Qxb6604116aModsCutPlain
import Derived.WalkKit
import Derived.ProofKit
import Derived.WalkLawsBesides
import Derived.WalkSpells
import Derived.Deep.QuietTactic
import Derived.BigQuiet
namespace Go.Proofs.Qxb6604116aMods
open Go.ChangeShapes Go.WideShapes Go.ChangeAt Go.RowKit

/-- What cutForwarded hands back. -/
def Ct (s : ByteArray) (w : World) (e : Ending) (w' : World) : Prop :=
  (cutOf s = none ∧ e = .returned (.tuple #[.string ByteArray.empty, .string s]) ∧ w' = w) ∨
  ∃ p, cutOf s = some p ∧ e = .returned (.tuple #[.string (s.extract 0 p), .string (s.extract (p + 1) s.size)]) ∧ ∃ q, w' = w.drewN q

theorem eqb_no {c : Nat} {d : Int} (h : (c : Int) ≠ d) : ((c : Int) == d) = false := beq_eq_false_iff_ne.2 h
theorem eqb_yes {c : Nat} {d : Int} (h : (c : Int) = d) : ((c : Int) == d) = true := beq_iff_eq.2 h

set_option maxHeartbeats 1000000 in
theorem cut_any (s : ByteArray) (hs : s.size ≤ 2097152) (w : World) : Calls Trym.prog 15 #[.string s] w (Ct s w) := by
  go_enter Trym.func15, Trym.ntmps15
  go_wp2
  go_loop [4, 5] (fun t i => ∃ (k : Nat) (q : Bool), k ≤ s.size ∧ i = .int .i64 ((k : Int) - 1) ∧ t = .bool q ∧ Hid (scan (bya s) k q = cutOf s)) (fun _ i => (intOf i + 1).toNat)
  case atStart => exact ⟨s.size, false, Nat.le_refl _, rfl, rfl, rfl⟩
  case round =>
    obtain ⟨k, q, hk, rfl, rfl, HS⟩ := hrel
    cases k with
    | zero =>
      go_wp2
      go_ret2
      exact .inl ⟨HS.out.symm, rfl, rfl⟩
    | succ k =>
      rw [show (((k + 1 : Nat) : Int) - 1) = (k : Int) from by omega]
      have hlt : k < s.size := by omega
      have hat := bya_at hlt
      have HA : Hid (s[k].toNat = bya s k) := hat
      clear hat
      by_cases h34 : s[k].toNat = 34
      · have e1 : ((s[k].toNat : Int) == 34) = true := eqb_yes (by omega)
        have H34 : Hid (bya s k = 34) := by rw [← HA.out]; exact h34
        clear h34
        go_wp2
        go_loop [6] (fun i => ∃ m : Nat, m ≤ k ∧ i = .int .i64 m ∧ Hid (bsl (bya s) k = m + bsl (bya s) (k - m))) (fun i => k - (intOf i).toNat)
        case atStart => exact ⟨0, Nat.zero_le _, rfl, by rw [Nat.zero_add, Nat.sub_zero]; rfl⟩
        case round =>
          obtain ⟨m, hm, rfl, HB0⟩ := hrel
          by_cases hmk : m < k
          · have hlt' : k - 1 - m < s.size := by omega
            have hat' := bya_at hlt'
            have hsub : k - m = (k - 1 - m) + 1 := by omega
            have HB1 := HB0.out
            rw [hsub, bsl, ← hat'] at HB1
            clear hat' hsub
            by_cases h92 : s[k - 1 - m].toNat = 92
            · have e3 : ((s[k - 1 - m].toNat : Int) == 92) = true := eqb_yes (by omega)
              have HN : Hid (bsl (bya s) k = (m + 1) + bsl (bya s) (k - (m + 1))) := by
                rw [if_pos h92, show k - 1 - m = k - (m + 1) from by omega] at HB1
                show _ = _
                omega
              clear h92 HB1
              go_wp2
              go_round
              case rel => exact ⟨m + 1, by omega, by go_num, HN⟩
              case measure => simp [intOf]; omega
            · have e3 : ((s[k - 1 - m].toNat : Int) == 92) = false := eqb_no (by omega)
              have HB : Hid (bsl (bya s) k = m) := by rw [if_neg h92] at HB1; exact HB1
              clear h92 HB1
              cases q with
              | false =>
                have HN : Hid (scan (bya s) k true = cutOf s) := by rw [← HS.out, scan, if_pos H34.out]; rfl
                go_wp2
                go_round
                case rel => exact ⟨k, true, by omega, rfl, rfl, HN⟩
                case measure => simp [intOf]
              | true =>
                by_cases hpar : m % 2 = 0
                · have e5 : (((m : Int) % 2) == 0) = true := beq_iff_eq.2 (by omega)
                  have HN : Hid (scan (bya s) k false = cutOf s) := by rw [← HS.out, scan, if_pos H34.out, HB.out, flip, if_pos (.inr hpar)]; rfl
                  clear hpar
                  go_wp2
                  go_round
                  case rel => exact ⟨k, false, by omega, rfl, rfl, HN⟩
                  case measure => simp [intOf]
                · have e5 : (((m : Int) % 2) == 0) = false := beq_eq_false_iff_ne.2 (by omega)
                  have HN : Hid (scan (bya s) k true = cutOf s) := by rw [← HS.out, scan, if_pos H34.out, HB.out, flip, if_neg (by simp [hpar])]; rfl
                  clear hpar
                  go_wp2
                  go_round
                  case rel => exact ⟨k, true, by omega, rfl, rfl, HN⟩
                  case measure => simp [intOf]
          · obtain rfl : m = k := by omega
            have HB : Hid (bsl (bya s) m = m) := by have := HB0.out; rw [Nat.sub_self] at this; exact this
            cases q with
            | false =>
              have HN : Hid (scan (bya s) m true = cutOf s) := by rw [← HS.out, scan, if_pos H34.out]; rfl
              go_wp2
              go_round
              case rel => exact ⟨m, true, by omega, rfl, rfl, HN⟩
              case measure => simp [intOf]
            | true =>
              by_cases hpar : m % 2 = 0
              · have e5 : (((m : Int) % 2) == 0) = true := beq_iff_eq.2 (by omega)
                have HN : Hid (scan (bya s) m false = cutOf s) := by rw [← HS.out, scan, if_pos H34.out, HB.out, flip, if_pos (.inr hpar)]; rfl
                clear hpar
                go_wp2
                go_round
                case rel => exact ⟨m, false, by omega, rfl, rfl, HN⟩
                case measure => simp [intOf]
              · have e5 : (((m : Int) % 2) == 0) = false := beq_eq_false_iff_ne.2 (by omega)
                have HN : Hid (scan (bya s) m true = cutOf s) := by rw [← HS.out, scan, if_pos H34.out, HB.out, flip, if_neg (by simp [hpar])]; rfl
                clear hpar
                go_wp2
                go_round
                case rel => exact ⟨m, true, by omega, rfl, rfl, HN⟩
                case measure => simp [intOf]
      · have e1 : ((s[k].toNat : Int) == 34) = false := eqb_no (by omega)
        have H34 : Hid (bya s k ≠ 34) := by rw [← HA.out]; exact h34
        clear h34
        by_cases h44 : s[k].toNat = 44
        · have e2 : ((s[k].toNat : Int) == 44) = true := eqb_yes (by omega)
          have H44 : Hid (bya s k = 44) := by rw [← HA.out]; exact h44
          clear h44
          cases q with
          | true =>
            have HN : Hid (scan (bya s) k true = cutOf s) := by rw [← HS.out, scan, if_neg H34.out, if_pos H44.out, if_pos rfl]; rfl
            go_wp2
            go_round
            case rel => exact ⟨k, true, by omega, rfl, rfl, HN⟩
            case measure => simp [intOf]
          | false =>
            have HN : Hid (cutOf s = some k) := by rw [← HS.out, scan, if_neg H34.out, if_pos H44.out, if_neg (by simp)]; rfl
            go_wp2
            go_big_quiet (fail)
            go_wp2
            go_ret2
            exact .inr ⟨k, HN, rfl, nq, rfl⟩
        · have e2 : ((s[k].toNat : Int) == 44) = false := eqb_no (by omega)
          have HN : Hid (scan (bya s) k q = cutOf s) := by rw [← HS.out, scan, if_neg H34.out, if_neg (by rw [← HA.out]; exact h44)]; rfl
          clear h44
          go_wp2
          go_round
          case rel => exact ⟨k, q, by omega, rfl, rfl, HN⟩
          case measure => simp [intOf]

theorem zzcut_any (s : ByteArray) (hs : s.size ≤ 2097152) (w : World) : Calls Trym.prog 7 #[.string s] w (Ct s w) := by
  have H := cut_any s hs w
  go_enter Trym.func7, Trym.ntmps7
  go_wp2_with fail
  refine H.mono ?_
  rintro e w' (⟨h, rfl, rfl⟩ | ⟨p, h, rfl, q, rfl⟩)
  · go_wp2_with fail
    go_ret2
    exact .inl ⟨h, rfl, rfl⟩
  · go_wp2_with fail
    go_ret2
    exact .inr ⟨p, h, rfl, q, rfl⟩
theorem bytes6_any (l s : ByteArray) (hl : l.size ≤ maxLen) (hs : s.size ≤ maxLen) (w : World) : Calls Trym.prog 6 #[.string l, .string s] w fun e w' => (∃ bl, e = .returned (.bool bl)) ∧ w' = w := by
  unfold maxLen at hl hs
  go_enter Trym.func6, Trym.ntmps6
  go_wp2
  all_goals
    go_ret
    exact ⟨⟨_, rfl⟩, rfl⟩

/-- The law answers true; the world has at most drawn. -/
def Yes (w : World) (e : Ending) (w' : World) : Prop := e = .returned (.bool true) ∧ ∃ q, w' = w.drewN q

set_option maxHeartbeats 1000000 in
theorem law3 (l s : ByteArray) (hl : l.size ≤ maxLen) (hs : s.size ≤ maxLen) (w : World) : Calls Trym.prog 3 #[.string l, .string s] w (Yes w) := by
  have H0 := bytes6_any l s hl hs w
  unfold maxLen at hl hs
  go_enter Trym.func3, Trym.ntmps3
  go_wp2_with fail
  refine H0.mono ?_
  rintro e w' ⟨⟨bl, rfl⟩, rfl⟩
  clear H0
  cases bl with
  | false =>
    go_wp2_with fail
    go_ret
    exact ⟨rfl, 0, rfl⟩
  | true =>
  by_cases hl1 : (524288 : Int) < (l.size : Int)
  · go_wp2_with fail
    go_ret
    exact ⟨rfl, 0, rfl⟩
  by_cases hs1 : (524288 : Int) < (s.size : Int)
  · go_wp2_with fail
    go_ret
    exact ⟨rfl, 0, rfl⟩
  go_wp2_with fail
  refine (zzcut_any s (by omega) _).mono ?_
  rintro e w1 (⟨h, rfl, rfl⟩ | ⟨p, h, rfl, q, rfl⟩)
  · go_wp2_with fail
    go_ret
    exact ⟨by simp, 0, rfl⟩
  · have hp := scan_some h
    have H2 := zzcut_any (l ++ s) (by rw [size_append]; omega)
    have hcl := cut_left (l := l) h
    have hjoin := join_at hp.1 hp.2
    obtain ⟨R, hR⟩ : ∃ R, R = s.extract 0 p := ⟨_, rfl⟩
    obtain ⟨E, hE⟩ : ∃ E, E = s.extract (p + 1) s.size := ⟨_, rfl⟩
    have hRs : R.size = p := by rw [hR]; simp; omega
    have hEs : E.size < s.size := by rw [hE]; simp; omega
    have H3 : ∀ W, Calls Trym.prog 7 #[.string (l ++ s)] W fun e w' => e = .returned (.tuple #[.string (l ++ R), .string E]) ∧ ∃ q, w' = W.drewN q := by
      intro W
      refine (H2 W).mono fun e w' hh => ?_
      rcases hh with ⟨h4, _⟩ | ⟨p', h4, he, hw⟩
      · rw [hcl] at h4; cases h4
      · rw [hcl] at h4
        cases h4
        rw [left_of, right_of, ← hR, ← hE] at he
        exact ⟨he, hw⟩
    rw [← hR, ← hE] at hjoin ⊢
    have h44 : ∀ (hlt : R.size < s.size), ((s[R.size].toNat : Int) == 44) = true := fun hlt => by
      refine eqb_yes ?_
      rw [bya_at hlt, hRs, hp.2]; rfl
    have hRlt : R.size < s.size := by omega
    have h44' : (s[R.size].toNat : Int) = 44 := beq_iff_eq.1 (h44 hRlt)
    have hd1 : decide ((s.size : Int) ≤ (E.size : Int)) = false := decide_eq_false (by omega)
    have hd2 : decide (s.size ≤ E.size) = false := decide_eq_false (by omega)
    have hd3 : decide ((s.size : Int) ≤ (R.size : Int)) = false := decide_eq_false (by omega)
    have hd4 : decide (s.size ≤ R.size) = false := decide_eq_false (by omega)
    clear H2 hcl h hp h44 hRs hR hE
    go_wp2_with fail
    refine (H3 _).mono ?_
    rintro e w2 ⟨rfl, q2, rfl⟩
    go_wp2_with fail
    go_ret
    exact ⟨by simp, q + q2, rfl⟩
end Go.Proofs.Qxb6604116aMods
