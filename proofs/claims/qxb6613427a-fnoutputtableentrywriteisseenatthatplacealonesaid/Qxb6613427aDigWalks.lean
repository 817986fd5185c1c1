import Derived.Test.Qxb6613427aRows
import Derived.WalkKit
import Derived.WalkSpells
namespace Go.Proofs.Qxb6613427a
open Go.RowKit

/-- What the three counters hold when the loop stands at byte k. -/
def runAt (k : Nat) (c l h : Int) : Prop :=
  (k ≤ 48 ∧ c = 0 ∧ l = 256 ∧ h = -1) ∨ (48 < k ∧ k ≤ 58 ∧ c = (k : Int) - 48 ∧ l = 48 ∧ h = (k : Int) - 1) ∨ (58 < k ∧ c = 10 ∧ l = 48 ∧ h = 57)

theorem zzisDigit_yes (c : Int) (w : World) (h1 : 48 ≤ c) (h2 : c ≤ 57) :
    Calls Try.prog 7 #[.int .u8 c] w fun e w' => e = .returned (.bool true) ∧ w' = w := by
  have hd : decide (c ≤ 57) = true := by simp; omega
  go_enter Try.func7, Try.ntmps7
  go_wp2
  go_ret
  exact ⟨rfl, rfl⟩

theorem zzisDigit_no (c : Int) (w : World) (h : c < 48 ∨ 57 < c) :
    Calls Try.prog 7 #[.int .u8 c] w fun e w' => e = .returned (.bool false) ∧ w' = w := by
  rcases h with h | h
  · go_enter Try.func7, Try.ntmps7
    go_wp2
    go_ret
    exact ⟨rfl, rfl⟩
  · have h1 : 48 ≤ c := by omega
    have hd : decide (c ≤ 57) = false := by simp; omega
    go_enter Try.func7, Try.ntmps7
    go_wp2
    go_ret
    exact ⟨rfl, rfl⟩

set_option maxRecDepth 8000 in
theorem ten_any (a0 : Int) (w : World) (hb0 : 0 ≤ a0) (hb1 : a0 ≤ 255) :
    Calls Try.prog 3 #[.int .u8 a0] w fun e w' => e = .returned (.bool true) ∧ w' = w := by
  go_enter Try.func3, Try.ntmps3
  go_wp2
  go_loop [3, 4, 5, 6] (fun c l h b => ∃ (k : Nat) (cn ln hn : Int), k ≤ 256 ∧ b = .int .i64 k ∧ c = .int .i64 cn ∧ l = .int .i64 ln ∧ h = .int .i64 hn ∧ runAt k cn ln hn) (fun _ _ _ b => 256 - (intOf b).toNat)
  case atStart => exact ⟨0, 0, 256, -1, by omega, rfl, rfl, rfl, rfl, .inl ⟨by omega, rfl, rfl, rfl⟩⟩
  case round =>
    obtain ⟨k, cn, ln, hn, hk, rfl, rfl, rfl, rfl, hr⟩ := hrel
    by_cases hlt : k < 256
    · rcases hr with ⟨h1, rfl, rfl, rfl⟩ | ⟨h0, h1, rfl, rfl, rfl⟩ | ⟨h1, rfl, rfl, rfl⟩
      · by_cases h2 : k = 48
        · subst h2
          go_wp2_with (first | (go_at_call 7; refine (zzisDigit_yes _ _ (by omega) (by omega)).mono ?_; rintro e w' ⟨rfl, rfl⟩))
          go_round
          case rel => exact ⟨49, _, _, _, by omega, by go_num, rfl, rfl, rfl, .inr (.inl ⟨by omega, by omega, by omega, by omega, by omega⟩)⟩
          case measure => simp [intOf]
        · go_wp2_with (first | (go_at_call 7; refine (zzisDigit_no _ _ (by omega)).mono ?_; rintro e w' ⟨rfl, rfl⟩))
          go_round
          case rel => exact ⟨k + 1, _, _, _, by omega, by go_num, rfl, rfl, rfl, .inl ⟨by omega, rfl, rfl, rfl⟩⟩
          case measure => simp [intOf]; omega
      · by_cases h2 : k = 58
        · subst h2
          go_wp2_with (first | (go_at_call 7; refine (zzisDigit_no _ _ (by omega)).mono ?_; rintro e w' ⟨rfl, rfl⟩))
          go_round
          case rel => exact ⟨59, _, _, _, by omega, by go_num, rfl, rfl, rfl, .inr (.inr ⟨by omega, by omega, by omega, by omega⟩)⟩
          case measure => simp [intOf]
        · go_wp2_with (first | (go_at_call 7; refine (zzisDigit_yes _ _ (by omega) (by omega)).mono ?_; rintro e w' ⟨rfl, rfl⟩))
          go_round
          case rel => exact ⟨k + 1, _, _, _, by omega, by go_num, rfl, rfl, rfl, .inr (.inl ⟨by omega, by omega, by omega, by omega, by omega⟩)⟩
          case measure => simp [intOf]; omega
      · go_wp2_with (first | (go_at_call 7; refine (zzisDigit_no _ _ (by omega)).mono ?_; rintro e w' ⟨rfl, rfl⟩))
        go_round
        case rel => exact ⟨k + 1, _, _, _, by omega, by go_num, rfl, rfl, rfl, .inr (.inr ⟨by omega, rfl, rfl, rfl⟩)⟩
        case measure => simp [intOf]; omega
    · have hk2 : k = 256 := by omega
      subst hk2
      have hr' : cn = 10 ∧ ln = 48 ∧ hn = 57 := by
        rcases hr with ⟨h1, _⟩ | ⟨_, h1, _⟩ | ⟨_, h2, h3, h4⟩
        · omega
        · omega
        · exact ⟨h2, h3, h4⟩
      obtain ⟨rfl, rfl, rfl⟩ := hr'
      clear hr
      by_cases c1 : 48 ≤ a0
      · by_cases c2 : a0 ≤ 57
        · go_wp2_with (first | (go_at_call 7; refine (zzisDigit_yes _ _ (by omega) (by omega)).mono ?_; rintro e w' ⟨rfl, rfl⟩))
          go_ret
          exact ⟨rfl, rfl⟩
        · have hd : decide (a0 ≤ 57) = false := by simp; omega
          go_wp2_with (first | (go_at_call 7; refine (zzisDigit_no _ _ (by omega)).mono ?_; rintro e w' ⟨rfl, rfl⟩))
          go_ret
          exact ⟨rfl, rfl⟩
      · have hd : decide (48 ≤ a0) = false := by simp; omega
        go_wp2_with (first | (go_at_call 7; refine (zzisDigit_no _ _ (by omega)).mono ?_; rintro e w' ⟨rfl, rfl⟩))
        go_ret
        exact ⟨rfl, rfl⟩

end Go.Proofs.Qxb6613427a
