import Derived.Test.Qxb6613427aTabWalks
import Derived.OpenShut
import Derived.WalkSmall
namespace Go.Proofs.Qxb6613427a
open Go.RowKit

theorem bytes9_yes (a : Option Addr) (len cap : Nat) (p : Int) (w : World) (h : len ≤ 1048576) :
    Calls Try.prog 9 #[.slice a len cap, .int .i32 p] w fun e w' => e = .returned (.bool true) ∧ w' = w := by
  go_enter Try.func9, Try.ntmps9
  go_wp2
  go_ret
  exact ⟨rfl, rfl⟩
theorem bytes9_no (a : Option Addr) (len cap : Nat) (p : Int) (w : World) (h : 1048576 < len) :
    Calls Try.prog 9 #[.slice a len cap, .int .i32 p] w fun e w' => e = .returned (.bool false) ∧ w' = w := by
  go_enter Try.func9, Try.ntmps9
  go_wp2
  go_ret
  exact ⟨rfl, rfl⟩

/-- The ways on which the law says nothing: the slice too long, the place outside it. -/
theorem place_out (a : Option Addr) (len cap : Nat) (p : Int) (w : World) (hlen : len ≤ 9223372036854775807) (h0 : -2147483648 ≤ p) (h1 : p ≤ 2147483647) (h : 131072 < len ∨ p < 1 ∨ (len : Int) < p) :
    Calls Try.prog 5 #[.slice a len cap, .int .i32 p] w fun e w' => e = .returned (.bool true) ∧ w' = w := by
  by_cases hb : 1048576 < len
  · go_enter Try.func5, Try.ntmps5
    go_wp2_with (first | (go_at_call 9; refine (bytes9_no _ _ _ _ _ (by omega)).mono ?_; rintro e w' ⟨rfl, rfl⟩))
    go_ret
    exact ⟨rfl, rfl⟩
  · by_cases hl : 131072 < len
    · go_enter Try.func5, Try.ntmps5
      go_wp2_with (first | (go_at_call 9; refine (bytes9_yes _ _ _ _ _ (by omega)).mono ?_; rintro e w' ⟨rfl, rfl⟩))
      go_ret
      exact ⟨rfl, rfl⟩
    · by_cases hp : p < 1
      · go_enter Try.func5, Try.ntmps5
        go_wp2_with (first | (go_at_call 9; refine (bytes9_yes _ _ _ _ _ (by omega)).mono ?_; rintro e w' ⟨rfl, rfl⟩))
        go_ret
        exact ⟨rfl, rfl⟩
      · have hp2 : (len : Int) < p := by omega
        clear h
        have hd : decide (p < 1) = false := by simp; omega
        go_enter Try.func5, Try.ntmps5
        go_wp2_with (first | (go_at_call 9; refine (bytes9_yes _ _ _ _ _ (by omega)).mono ?_; rintro e w' ⟨rfl, rfl⟩))
        go_ret
        exact ⟨rfl, rfl⟩

theorem place_in (b off len cap P : Nat) (zs : List Int) (w : World) (hl : len ≤ zs.length) (hlen : len ≤ 131072) (hP : P < len) (hc : ∀ j, j < zs.length → w.cell? ⟨b, off + j, none⟩ = some (.int .i64 (zs.getD j 0))) :
    Calls Try.prog 5 #[.slice (some ⟨b, off, none⟩) len cap, .int .i32 ((P : Int) + 1)] w fun e w' => e = .returned (.bool true) ∧ Below w.heap.size w w' := by
  have hcP := hc P (by omega)
  have hd1 : decide ((P : Int) + 1 < 1) = false := by simp; omega
  have hd2 : decide ((len : Int) < (P : Int) + 1) = false := by simp; omega
  go_enter Try.func5, Try.ntmps5
  go_wp2_with (first | (go_at_call 9; refine (bytes9_yes _ _ _ _ _ (by omega)).mono ?_; rintro e wx ⟨rfl, hw⟩; have hw := hw.symm; subst hw))
  refine (chunks_any b off len cap zs w hl hlen hc).mono ?_
  rintro e w1 ⟨cv, nc, g, rfl, hnc, _, hown, hch, hb1⟩
  obtain ⟨G, capc, rfl, htab⟩ := tab_at hown hch hnc (by omega)
  clear hown hch hc
  go_wp2_with fail
  refine (table_any _ _ _ _ _).mono ?_
  rintro e w2 ⟨rfl, ht2, hb2⟩
  have tab := htab w2 hb2 ht2
  clear htab
  have hb := hb1.trans (hb2.mono hb1.size)
  have hx := hb.cell (block_lt_of_cell hcP)
  rw [hcP] at hx
  clear hb1 hb2 hcP
  obtain ⟨hin1, hin2⟩ := tab.inn P hP
  go_wp2_with fail
  refine (entryAt_any _ _ _ _ _ _ P _ (by omega) tab.tab (tab.head P hP) hin1 hin2).mono ?_
  rintro e wx ⟨rfl, hw⟩; have hw := hw.symm; subst hw
  go_wp2_with fail
  have hwr : IntKind.u64.wrap (P : Int) = P := by rw [IntKind.wrap_u64]; omega
  have hi0 : (0 : Int) ≤ (P : Int) := by omega
  have hi1 : (P : Int) < (len : Int) := by omega
  have k1 := tab.idx P hP
  have k2 := tab.num P hP
  clear tab ht2
  go_quiet (first | (go_at_call 13; exact Calls.quiet_of_same (index_any _ _ _ _ (by simpa using k1))) | (go_at_call 14; exact Calls.quiet_of_same (recN_any _ _ _ _ (by simpa using k2))))
  go_wp2
  go_ret
  exact ⟨rfl, below_drewN hb _⟩
end Go.Proofs.Qxb6613427a
