import Derived.Test.Qxb6613510aCritWalks
namespace Go.Proofs.Qxb6613510a
open Go.RowKit

theorem bytes9_yes (s t : ByteArray) (w : World) (h : s.size + t.size ≤ 1048576) :
    Calls Try.prog 9 #[.string s, .string t] w fun e w' => e = .returned (.bool true) ∧ w = w' := by
  go_enter Try.func9, Try.ntmps9
  go_wp2
  go_ret
  exact ⟨rfl, rfl⟩
theorem bytes9_no (s t : ByteArray) (w : World) (h1 : s.size ≤ 9223372036854775807) (h2 : t.size ≤ 9223372036854775807) (h : 1048576 < s.size + t.size) :
    Calls Try.prog 9 #[.string s, .string t] w fun e w' => e = .returned (.bool false) ∧ w = w' := by
  by_cases c1 : 1048576 < s.size
  · go_enter Try.func9, Try.ntmps9
    go_wp2
    go_ret
    exact ⟨rfl, rfl⟩
  · by_cases c2 : 1048576 < t.size
    · go_enter Try.func9, Try.ntmps9
      go_wp2
      go_ret
      exact ⟨rfl, rfl⟩
    · go_enter Try.func9, Try.ntmps9
      go_wp2
      go_ret
      exact ⟨rfl, rfl⟩

theorem first_out (s t : ByteArray) (w : World) (h1 : s.size ≤ 9223372036854775807) (h2 : t.size ≤ 9223372036854775807) (h : s.size = 0 ∨ 1048576 < s.size + t.size) :
    Calls Try.prog 4 #[.string s, .string t] w fun e w' => e = .returned (.bool true) ∧ w = w' := by
  by_cases c : 1048576 < s.size + t.size
  · go_enter Try.func4, Try.ntmps4
    go_wp2_with (first | (go_at_call 9; refine (bytes9_no _ _ _ h1 h2 (by omega)).mono ?_; rintro e wx ⟨rfl, rfl⟩))
    go_ret
    exact ⟨rfl, rfl⟩
  · have hz : ((s.size : Int) == 0) = true := by rw [beq_iff_eq]; omega
    go_enter Try.func4, Try.ntmps4
    go_wp2_with (first | (go_at_call 9; refine (bytes9_yes _ _ _ (by omega)).mono ?_; rintro e wx ⟨rfl, rfl⟩))
    go_ret
    exact ⟨rfl, rfl⟩

/-- An ASCII letter is critical just when it is upper-case. -/
theorem letter_nat (x : Nat) (h : x < 256) : (65 ≤ x → x ≤ 90 → x &&& 32 = 0) ∧ (97 ≤ x → x ≤ 122 → x &&& 32 = 32) := by
  have key : ∀ x : Fin 256, (65 ≤ x.val → x.val ≤ 90 → x.val &&& 32 = 0) ∧ (97 ≤ x.val → x.val ≤ 122 → x.val &&& 32 = 32) := by decide +kernel
  exact key ⟨x, h⟩

theorem joined_str (s t : ByteArray) (h0 : 0 < s.size) : ∃ h : 0 < (s.extract 0 1 ++ t).size, (s.extract 0 1 ++ t)[0] = s[0] := by
  have hsz : 0 < (s.extract 0 1 ++ t).size := by
    rw [ByteArray.size_append, ByteArray.size_extract]
    omega
  refine ⟨hsz, ?_⟩
  have h1 : 0 < (s.extract 0 1).size := by rw [ByteArray.size_extract]; omega
  rw [ByteArray.getElem_append_left h1, ByteArray.getElem_extract]

theorem first_in (s t : ByteArray) (w : World) (h0 : 0 < s.size) (h : s.size + t.size ≤ 1048576) :
    Calls Try.prog 4 #[.string s, .string t] w fun e w' => e = .returned (.bool true) ∧ w = w' := by
  have hne : ((s.size : Int) == 0) = false := by rw [beq_eq_false_iff_ne]; omega
  obtain ⟨hj0, hj1⟩ := joined_str s t h0
  have hx := s[0].toNat_lt
  have hl := letter_nat s[0].toNat hx
  have hcn := critB_nat s[0].toNat hx
  have hcj : critB ((s.extract 0 1 ++ t)[0].toNat : Int) = critB (s[0].toNat : Int) := by rw [hj1]
  have HJ : Hid ((s.extract 0 1 ++ t)[0] = s[0]) := hj1
  clear hj1
  go_enter Try.func4, Try.ntmps4
  go_wp2_with (first | (go_at_call 9; refine (bytes9_yes _ _ _ (by omega)).mono ?_; rintro e wx ⟨rfl, rfl⟩))
  generalize hjj : s.extract 0 1 ++ t = j at hj0 hcj HJ ⊢
  clear hjj HJ
  by_cases hc : critB (s[0].toNat : Int) = true
  · have hc2 : critB (j[0].toNat : Int) = true := by rw [hcj]; exact hc
    have hlow : ¬ (97 ≤ s[0].toNat ∧ s[0].toNat ≤ 122) := by
      rintro ⟨a, b⟩
      rw [hcn, hl.2 a b] at hc
      simp at hc
    clear hcn hcj hl
    refine (crit_yes s h0 _ hc).mono ?_
    rintro e wx ⟨rfl, rfl⟩
    go_wp2_with fail
    refine (crit_yes j hj0 _ hc2).mono ?_
    rintro e wx ⟨rfl, rfl⟩
    clear hc hc2
    go_wp2
    all_goals
      go_ret
      first
        | exact ⟨rfl, rfl⟩
        | (refine ⟨?_, rfl⟩; have hq : decide ((s[0].toNat : Int) ≤ 90) = false := (by rw [decide_eq_false_iff_not]; omega); show Ending.returned (Value.bool (!decide ((s[0].toNat : Int) ≤ 90))) = _; rw [hq]; rfl)
  · have hc : critB (s[0].toNat : Int) = false := by simpa using hc
    have hc2 : critB (j[0].toNat : Int) = false := by rw [hcj]; exact hc
    have hup : ¬ (65 ≤ s[0].toNat ∧ s[0].toNat ≤ 90) := by
      rintro ⟨a, b⟩
      rw [hcn, hl.1 a b] at hc
      simp at hc
    clear hcn hcj hl
    refine (crit_no s h0 _ hc).mono ?_
    rintro e wx ⟨rfl, rfl⟩
    go_wp2_with fail
    refine (crit_no j hj0 _ hc2).mono ?_
    rintro e wx ⟨rfl, rfl⟩
    clear hc hc2
    go_wp2
    all_goals
      go_ret
      first
        | exact ⟨rfl, rfl⟩
        | (refine ⟨?_, rfl⟩; have hq : decide ((s[0].toNat : Int) ≤ 90) = false := (by rw [decide_eq_false_iff_not]; omega); show Ending.returned (Value.bool (!decide ((s[0].toNat : Int) ≤ 90))) = _; rw [hq]; rfl)
end Go.Proofs.Qxb6613510a
