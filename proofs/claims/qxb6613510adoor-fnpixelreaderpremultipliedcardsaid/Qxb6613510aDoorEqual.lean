import Derived.Test.Qxb6613510aDoorBase
namespace Go.Proofs.Qxb6613510aDoor
open Go.RowKit

theorem equal_zero (a b : Option Addr) (c d : Nat) (w : World) :
    Calls Tryd.prog 14 #[.slice a 0 c, .slice b 0 d] w fun e w' => e = .returned (.bool true) ∧ ∃ q, w' = w.drewN q := by
  go_enter Tryd.func14, Tryd.ntmps14
  go_wp2
  refine wp_loop_rounds 1 ?_
  rw [rounds_succ]
  go_wp2
  go_ret
  exact ⟨rfl, 0, rfl⟩

theorem equal_pos (G o H p n c d : Nat) (f : Nat → Int) (w : World) (hn : n ≤ 1048576) (hf : ∀ i, i < n → w.cell? ⟨G, o + i, none⟩ = some (.int .u8 (f i))) (hg : ∀ i, i < n → w.cell? ⟨H, p + i, none⟩ = some (.int .u8 (f i))) :
    Calls Tryd.prog 14 #[.slice (some ⟨G, o, none⟩) n c, .slice (some ⟨H, p, none⟩) n d] w fun e w' => e = .returned (.bool true) ∧ ∃ q, w' = w.drewN q := by
  go_enter Tryd.func14, Tryd.ntmps14
  go_wp2
  go_loopw [5] (fun i wr => ∃ k q : Nat, k ≤ n ∧ i = .int .i64 k ∧ wr = w.drewN q) (fun i _ => n - (intOf i).toNat)
  case atStart => exact ⟨0, 0, by omega, rfl, rfl⟩
  case round =>
    obtain ⟨k, q, hk, rfl, rfl⟩ := hrel
    by_cases hlt : k < n
    · have h1 := hf k hlt
      have h2 := hg k hlt
      have i1 : (0 : Int) ≤ (k : Int) := by omega
      have i2 : (k : Int) < (n : Int) := by omega
      clear hf hg
      go_wp2_with fail
      go_quiet (fail)
      go_wp2
      go_roundw
      case rel => exact ⟨k + 1, _, by omega, by go_num, rfl⟩
      case measure => simp [intOf]; omega
    · go_wp2
      go_ret
      exact ⟨rfl, q, rfl⟩

theorem equal_any (a b : Option Addr) (n c d : Nat) (f : Nat → Int) (w : World) (hn : n ≤ 1048576) (ha : Src w a n f) (hb : Src w b n f) :
    Calls Tryd.prog 14 #[.slice a n c, .slice b n d] w fun e w' => e = .returned (.bool true) ∧ ∃ q, w' = w.drewN q := by
  rcases ha with rfl | ⟨G, o, rfl, hf⟩
  · exact equal_zero a b c d w
  · rcases hb with rfl | ⟨H, p, rfl, hg⟩
    · exact equal_zero _ _ c d w
    · exact equal_pos G o H p n c d f w hn hf hg

theorem info5s : ∃ j, Tryd.prog.info? 5 = some j ∧ j.size ≠ 0 := by
  obtain ⟨i, hi, _, hz, _⟩ := info_parts info5
  exact ⟨i, hi, by omega⟩

/-- A slice and itself. -/
theorem same_nil (w : World) : Calls Tryd.prog 13 #[.slice none 0 0, .slice none 0 0] w fun e w' => e = .returned (.bool true) ∧ ∃ q, w' = w.drewN q := by
  have hq := Go.Lib.run_eql_slice_nil (P := Tryd.prog) w 22 5 none 0 0 0 0 Tryd.underlying22
  go_enter Tryd.func13, Tryd.ntmps13
  go_wp2_with fail
  go_quiet (fail)
  go_wp2
  go_ret
  exact ⟨rfl, _, rfl⟩
theorem same_zero (x : Addr) (c : Nat) (w : World) : Calls Tryd.prog 13 #[.slice (some x) 0 c, .slice (some x) 0 c] w fun e w' => e = .returned (.bool true) ∧ ∃ q, w' = w.drewN q := by
  have hq := Go.Lib.run_eql_slice_nil (P := Tryd.prog) w 22 5 (some x) 0 c 0 0 Tryd.underlying22
  go_enter Tryd.func13, Tryd.ntmps13
  go_wp2_with fail
  go_quiet (fail)
  go_wp2
  go_ret
  exact ⟨rfl, _, rfl⟩
theorem same_pos (G n c : Nat) (w : World) (hn : 0 < n) : Calls Tryd.prog 13 #[.slice (some ⟨G, 0, none⟩) n c, .slice (some ⟨G, 0, none⟩) n c] w fun e w' => e = .returned (.bool true) ∧ ∃ q, w' = w.drewN q := by
  obtain ⟨j, hj, _⟩ := info5s
  have hq := Go.Lib.run_eql_slice_nil (P := Tryd.prog) w 22 5 (some ⟨G, 0, none⟩) n c 0 0 Tryd.underlying22
  have hp := fun w => run_eql_ptr_same (P := Tryd.prog) w (tp := 49) (te := 5) ⟨G, 0, none⟩ Tryd.underlying49 hj
  have i1 : (0 : Int) < (n : Int) := by omega
  have hz : ((n : Int) == 0) = false := by rw [beq_eq_false_iff_ne]; omega
  go_enter Tryd.func13, Tryd.ntmps13
  go_wp2_with fail
  go_quiet (fail)
  go_wp2
  go_ret
  exact ⟨rfl, _, rfl⟩
theorem same_any (B : Nat) (ao : Option Addr) (n : Nat) (f : Nat → Int) (w : World) (h : Own w B ao n f) :
    Calls Tryd.prog 13 #[.slice ao n n, .slice ao n n] w fun e w' => e = .returned (.bool true) ∧ ∃ q, w' = w.drewN q := by
  rcases h with ⟨rfl, rfl⟩ | ⟨G, rfl, _, _⟩
  · exact same_nil w
  · rcases Nat.eq_zero_or_pos n with rfl | hn
    · exact same_zero _ 0 w
    · exact same_pos G n n w hn

theorem answer_no (out want pix : Option Addr) (n np : Nat) (f : Nat → Int) (stride : Int) (w : World) (hn : n ≤ 1048576) (ho : Src w out n f) (hw : Src w want n f) :
    Calls Tryd.prog 9 #[.slice none 0 0, .int .i64 0, .bool false, .slice out n n, .slice pix np np, .int .i64 stride, .bool false, .slice want n n] w fun e w' => e = .returned (.bool true) ∧ ∃ q, w' = w.drewN q := by
  have hq := Go.Lib.run_eql_slice_nil (P := Tryd.prog) w 22 5 none 0 0 0 0 Tryd.underlying22
  go_enter Tryd.func9, Tryd.ntmps9
  go_wp2_with (first | (go_at_call 14; refine (equal_any _ _ _ _ _ f _ hn ho hw).mono ?_; rintro e wx ⟨rfl, q, rfl⟩))
  go_ret
  exact ⟨rfl, _, rfl⟩

theorem answer_yes (B : Nat) (out want pix : Option Addr) (n np : Nat) (f fp : Nat → Int) (stride : Int) (w : World) (hn : n ≤ 1048576) (hp : Own w B pix np fp) (ho : Src w out n f) (hw : Src w want n f) :
    Calls Tryd.prog 9 #[.slice pix np np, .int .i64 stride, .bool true, .slice out n n, .slice pix np np, .int .i64 stride, .bool true, .slice want n n] w fun e w' => e = .returned (.bool true) ∧ ∃ q, w' = w.drewN q := by
  have hst : (stride == stride) = true := by simp
  go_enter Tryd.func9, Tryd.ntmps9
  go_wp2_with fail
  refine (same_any B pix np fp _ hp).mono ?_
  rintro e wx ⟨rfl, q, rfl⟩
  have ho1 := ho.below (below_drewN (Below.refl _ w) q)
  have hw1 := hw.below (below_drewN (Below.refl _ w) q)
  go_wp2_with fail
  refine (equal_any _ _ _ _ _ f _ hn ho1 hw1).mono ?_
  rintro e wx ⟨rfl, q2, rfl⟩
  go_wp2
  go_ret
  exact ⟨rfl, q + q2, by simp⟩

end Go.Proofs.Qxb6613510aDoor
