import Derived.Test.Qxb6613510aDoorWanted
namespace Go.Proofs.Qxb6613510aDoor
open Go.RowKit
set_option linter.unusedVariables false

/-! ### zzAllowed -/
theorem allow0_no (depth : Int) (w : World) (h1 : (depth == 1) = false) (h2 : (depth == 2) = false) (h4 : (depth == 4) = false) (h8 : (depth == 8) = false) :
    Calls Tryd.prog 15 #[.int .u8 depth, .int .u8 0] w fun e w' => e = .returned (.bool false) ∧ w = w' := by
  go_enter Tryd.func15, Tryd.ntmps15
  go_wp2
  go_ret
  exact ⟨rfl, rfl⟩
theorem allow0_yes (depth : Int) (w : World) (h : depth = 1 ∨ depth = 2 ∨ depth = 4 ∨ depth = 8) :
    Calls Tryd.prog 15 #[.int .u8 depth, .int .u8 0] w fun e w' => e = .returned (.bool true) ∧ w = w' := by
  rcases h with rfl | rfl | rfl | rfl
  all_goals
    go_enter Tryd.func15, Tryd.ntmps15
    go_wp2
    go_ret
    exact ⟨rfl, rfl⟩
theorem allow8_no (depth ct : Int) (w : World) (hc : ct = 2 ∨ ct = 4 ∨ ct = 6) (h8 : (depth == 8) = false) :
    Calls Tryd.prog 15 #[.int .u8 depth, .int .u8 ct] w fun e w' => e = .returned (.bool false) ∧ w = w' := by
  rcases hc with rfl | rfl | rfl
  all_goals
    go_enter Tryd.func15, Tryd.ntmps15
    go_wp2
    go_ret
    exact ⟨rfl, rfl⟩
theorem allow8_yes (ct : Int) (w : World) (hc : ct = 2 ∨ ct = 4 ∨ ct = 6) :
    Calls Tryd.prog 15 #[.int .u8 8, .int .u8 ct] w fun e w' => e = .returned (.bool true) ∧ w = w' := by
  rcases hc with rfl | rfl | rfl
  all_goals
    go_enter Tryd.func15, Tryd.ntmps15
    go_wp2
    go_ret
    exact ⟨rfl, rfl⟩

/-! ### zzWantPremultiplied: no fill -/
theorem want_no1 (width depth ct : Int) (ao so : Option Addr) (n c m mc : Nat) (f : Nat → Int) (w : World) (hn : n ≤ 1048576) (h0 : ao = none → n = 0) (hs : Src w ao n f) (h : depth = 0 ∨ 8 < depth) :
    Calls Tryd.prog 11 #[.int .i64 width, .int .u8 depth, .int .u8 ct, .slice ao n c, .slice so m mc] w fun e w' => ∃ wo, e = .returned (.tuple #[.bool false, .slice wo n n, .bool true]) ∧ Own w' w.heap.size wo n f ∧ Below w.heap.size w w' := by
  rcases h with rfl | h
  · go_enter Tryd.func11, Tryd.ntmps11
    go_wp2_with (first | (go_at_call 7; refine (clone_any ao n c f _ hn h0 hs).mono ?_; rintro e w1 ⟨wo, rfl, how, hb1⟩))
    go_ret3
    exact ⟨wo, rfl, how, hb1⟩
  · have hz : (depth == 0) = false := by rw [beq_eq_false_iff_ne]; omega
    go_enter Tryd.func11, Tryd.ntmps11
    go_wp2_with (first | (go_at_call 7; refine (clone_any ao n c f _ hn h0 hs).mono ?_; rintro e w1 ⟨wo, rfl, how, hb1⟩))
    go_ret3
    exact ⟨wo, rfl, how, hb1⟩

theorem want_no2 (width depth ct : Int) (ao so : Option Addr) (n c m mc : Nat) (f : Nat → Int) (w : World) (hn : n ≤ 1048576) (h0 : ao = none → n = 0) (hs : Src w ao n f) (hd1 : 1 ≤ depth) (hd2 : depth ≤ 8) (c0 : (ct != 0) = true) (c2 : (ct != 2) = true) (c4 : (ct != 4) = true) (c6 : (ct != 6) = true) :
    Calls Tryd.prog 11 #[.int .i64 width, .int .u8 depth, .int .u8 ct, .slice ao n c, .slice so m mc] w fun e w' => ∃ wo, e = .returned (.tuple #[.bool false, .slice wo n n, .bool true]) ∧ Own w' w.heap.size wo n f ∧ Below w.heap.size w w' := by
  have hz : (depth == 0) = false := by rw [beq_eq_false_iff_ne]; omega
  have hz8 : decide (8 < depth) = false := by rw [decide_eq_false_iff_not]; omega
  go_enter Tryd.func11, Tryd.ntmps11
  go_wp2_with (first | (go_at_call 7; refine (clone_any ao n c f _ hn h0 hs).mono ?_; rintro e w1 ⟨wo, rfl, how, hb1⟩))
  go_ret3
  exact ⟨wo, rfl, how, hb1⟩

theorem want_no3 (width : Int) (ao so : Option Addr) (n c m mc : Nat) (f : Nat → Int) (w : World) (hn : n ≤ 1048576) (h0 : ao = none → n = 0) (hs : Src w ao n f) :
    Calls Tryd.prog 11 #[.int .i64 width, .int .u8 8, .int .u8 4, .slice ao n c, .slice so m mc] w fun e w' => ∃ wo, e = .returned (.tuple #[.bool false, .slice wo n n, .bool true]) ∧ Own w' w.heap.size wo n f ∧ Below w.heap.size w w' := by
  go_enter Tryd.func11, Tryd.ntmps11
  go_wp2_with (first | (go_at_call 7; refine (clone_any ao n c f _ hn h0 hs).mono ?_; rintro e w1 ⟨wo, rfl, how, hb1⟩) | (go_at_call 15; refine (allow8_yes _ _ (by omega)).mono ?_; rintro e wx ⟨rfl, rfl⟩))
  go_ret3
  exact ⟨wo, rfl, how, hb1⟩

/-! ### zzWantPremultiplied: outside -/
theorem want_bad0 (width depth : Int) (ao so : Option Addr) (n c m mc : Nat) (f : Nat → Int) (w : World) (hn : n ≤ 1048576) (h0 : ao = none → n = 0) (hs : Src w ao n f) (hd1 : 1 ≤ depth) (hd2 : depth ≤ 8) (h1 : (depth == 1) = false) (h2 : (depth == 2) = false) (h4 : (depth == 4) = false) (h8 : (depth == 8) = false) :
    Calls Tryd.prog 11 #[.int .i64 width, .int .u8 depth, .int .u8 0, .slice ao n c, .slice so m mc] w fun e w' => e = .returned (.tuple #[.bool false, .slice none 0 0, .bool false]) ∧ Below w.heap.size w w' := by
  have hz : (depth == 0) = false := by rw [beq_eq_false_iff_ne]; omega
  have hz8 : decide (8 < depth) = false := by rw [decide_eq_false_iff_not]; omega
  go_enter Tryd.func11, Tryd.ntmps11
  go_wp2_with (first | (go_at_call 7; refine (clone_any ao n c f _ hn h0 hs).mono ?_; rintro e w1 ⟨wo, rfl, how, hb1⟩) | (go_at_call 15; refine (allow0_no _ _ h1 h2 h4 h8).mono ?_; rintro e wx ⟨rfl, rfl⟩))
  go_ret3
  exact ⟨rfl, hb1⟩
theorem want_bad8 (width depth ct : Int) (hc : ct = 2 ∨ ct = 4 ∨ ct = 6) (ao so : Option Addr) (n c m mc : Nat) (f : Nat → Int) (w : World) (hn : n ≤ 1048576) (h0 : ao = none → n = 0) (hs : Src w ao n f) (hd1 : 1 ≤ depth) (hd2 : depth ≤ 8) (h8 : (depth == 8) = false) :
    Calls Tryd.prog 11 #[.int .i64 width, .int .u8 depth, .int .u8 ct, .slice ao n c, .slice so m mc] w fun e w' => e = .returned (.tuple #[.bool false, .slice none 0 0, .bool false]) ∧ Below w.heap.size w w' := by
  have hz : (depth == 0) = false := by rw [beq_eq_false_iff_ne]; omega
  have hz8 : decide (8 < depth) = false := by rw [decide_eq_false_iff_not]; omega
  rcases hc with rfl | rfl | rfl
  all_goals
    go_enter Tryd.func11, Tryd.ntmps11
    go_wp2_with (first | (go_at_call 7; refine (clone_any ao n c f _ hn h0 hs).mono ?_; rintro e w1 ⟨wo, rfl, how, hb1⟩) | (go_at_call 15; refine (allow8_no _ _ _ (by omega) h8).mono ?_; rintro e wx ⟨rfl, rfl⟩))
    go_ret3
    exact ⟨rfl, by assumption⟩

/-! ### zzWantPremultiplied: gray and colour -/
theorem want_pickBad (width depth ct : Int) (ao so : Option Addr) (n c m mc : Nat) (f : Nat → Int) (w : World) (hn : n ≤ 1048576) (hmm : m ≤ 1048576) (h0 : ao = none → n = 0) (hs : Src w ao n f) (hdc : (ct = 2 ∧ depth = 8) ∨ (ct = 0 ∧ (depth = 1 ∨ depth = 2 ∨ depth = 4 ∨ depth = 8))) (hw : width < 0 ∨ (m : Int) / 4 < width) :
    Calls Tryd.prog 11 #[.int .i64 width, .int .u8 depth, .int .u8 ct, .slice ao n c, .slice so m mc] w fun e w' => e = .returned (.tuple #[.bool false, .slice none 0 0, .bool false]) ∧ Below w.heap.size w w' := by
  rcases hdc with ⟨rfl, rfl⟩ | ⟨rfl, rfl | rfl | rfl | rfl⟩
  · go_enter Tryd.func11, Tryd.ntmps11
    go_wp2_with (first | (go_at_call 7; refine (clone_any ao n c f _ hn h0 hs).mono ?_; rintro e w1 ⟨wo, rfl, how, hb1⟩) | (go_at_call 15; refine (allow8_yes _ _ (by omega)).mono ?_; rintro e wx ⟨rfl, rfl⟩) | (go_at_call 16; refine (pickBad1 _ _ _ _ _ _ _ _ _ _ _ _ _ hw hmm).mono ?_; rintro e wx ⟨rfl, rfl⟩))
    go_ret3
    exact ⟨rfl, hb1⟩
  all_goals
    go_enter Tryd.func11, Tryd.ntmps11
    go_wp2_with (first | (go_at_call 7; refine (clone_any ao n c f _ hn h0 hs).mono ?_; rintro e w1 ⟨wo, rfl, how, hb1⟩) | (go_at_call 15; refine (allow0_yes _ _ (by omega)).mono ?_; rintro e wx ⟨rfl, rfl⟩) | (go_at_call 16; refine (pickBad1 _ _ _ _ _ _ _ _ _ _ _ _ _ hw hmm).mono ?_; rintro e wx ⟨rfl, rfl⟩))
    go_ret3
    exact ⟨rfl, by assumption⟩

theorem want_bad8_1 (B width : Nat) (ao so : Option Addr) (n c m : Nat) (f : Nat → Int) (w : World) (hn : n ≤ 1048576) (hmm : m ≤ 1048576) (h0 : ao = none → n = 0) (hs : Src w ao n f) (h1 : width * 4 ≤ m) (h2 : n < width * 1) :
    Calls Tryd.prog 11 #[.int .i64 width, .int .u8 8, .int .u8 0, .slice ao n c, .slice so m m] w fun e w' => e = .returned (.tuple #[.bool false, .slice none 0 0, .bool false]) ∧ Below w.heap.size w w' := by
  go_enter Tryd.func11, Tryd.ntmps11
  go_wp2_with (first | (go_at_call 7; refine (clone_any ao n c f _ hn h0 hs).mono ?_; rintro e w1 ⟨wo, rfl, how, hb1⟩) | (go_at_call 15; refine (allow0_yes _ _ (by omega)).mono ?_; rintro e wx ⟨rfl, rfl⟩) | (go_at_call 16; refine (pickBad8_1 width _ _ _ _ _ _ _ _ _ _ hmm hn h1 h2).mono ?_; rintro e w2 ⟨rfl, hg2⟩))
  go_ret3
  exact ⟨rfl, hb1.grown hg2 hb1.size (by simp)⟩
theorem want_ok8_1 (B width : Nat) (ao so : Option Addr) (n c m : Nat) (f fs : Nat → Int) (w : World) (hn : n ≤ 1048576) (hmm : m ≤ 1048576) (h0 : ao = none → n = 0) (hs : Src w ao n f) (hso : Own w B so m fs) (h1 : width * 4 ≤ m) (h2 : width * 1 ≤ n) :
    Calls Tryd.prog 11 #[.int .i64 width, .int .u8 8, .int .u8 0, .slice ao n c, .slice so m m] w fun e w' => ∃ wo, e = .returned (.tuple #[.bool true, .slice wo n n, .bool true]) ∧ Own w' w.heap.size wo n (specPick 1 width f fs) ∧ Below w.heap.size w w' := by
  go_enter Tryd.func11, Tryd.ntmps11
  go_wp2_with (first | (go_at_call 7; refine (clone_any ao n c f _ hn h0 hs).mono ?_; rintro e w1 ⟨wo, rfl, how, hb1⟩) | (go_at_call 15; refine (allow0_yes _ _ (by omega)).mono ?_; rintro e wx ⟨rfl, rfl⟩) | (go_at_call 16; refine (picked8_1 B w.heap.size width _ so wo n m _ f fs _ hmm hn h1 h2 (hso.below hb1) how (own_ne hso how)).mono ?_; rintro e w2 ⟨rfl, how2, hg2⟩))
  go_ret3
  exact ⟨wo, rfl, how2, own_below_grown how hb1 hg2⟩

theorem want_bad8_3 (B width : Nat) (ao so : Option Addr) (n c m : Nat) (f : Nat → Int) (w : World) (hn : n ≤ 1048576) (hmm : m ≤ 1048576) (h0 : ao = none → n = 0) (hs : Src w ao n f) (h1 : width * 4 ≤ m) (h2 : n < width * 3) :
    Calls Tryd.prog 11 #[.int .i64 width, .int .u8 8, .int .u8 2, .slice ao n c, .slice so m m] w fun e w' => e = .returned (.tuple #[.bool false, .slice none 0 0, .bool false]) ∧ Below w.heap.size w w' := by
  go_enter Tryd.func11, Tryd.ntmps11
  go_wp2_with (first | (go_at_call 7; refine (clone_any ao n c f _ hn h0 hs).mono ?_; rintro e w1 ⟨wo, rfl, how, hb1⟩) | (go_at_call 15; refine (allow8_yes _ _ (by omega)).mono ?_; rintro e wx ⟨rfl, rfl⟩) | (go_at_call 16; refine (pickBad8_3 width _ _ _ _ _ _ _ _ _ _ hmm hn h1 h2).mono ?_; rintro e w2 ⟨rfl, hg2⟩))
  go_ret3
  exact ⟨rfl, hb1.grown hg2 hb1.size (by simp)⟩
theorem want_ok8_3 (B width : Nat) (ao so : Option Addr) (n c m : Nat) (f fs : Nat → Int) (w : World) (hn : n ≤ 1048576) (hmm : m ≤ 1048576) (h0 : ao = none → n = 0) (hs : Src w ao n f) (hso : Own w B so m fs) (h1 : width * 4 ≤ m) (h2 : width * 3 ≤ n) :
    Calls Tryd.prog 11 #[.int .i64 width, .int .u8 8, .int .u8 2, .slice ao n c, .slice so m m] w fun e w' => ∃ wo, e = .returned (.tuple #[.bool true, .slice wo n n, .bool true]) ∧ Own w' w.heap.size wo n (specPick 3 width f fs) ∧ Below w.heap.size w w' := by
  go_enter Tryd.func11, Tryd.ntmps11
  go_wp2_with (first | (go_at_call 7; refine (clone_any ao n c f _ hn h0 hs).mono ?_; rintro e w1 ⟨wo, rfl, how, hb1⟩) | (go_at_call 15; refine (allow8_yes _ _ (by omega)).mono ?_; rintro e wx ⟨rfl, rfl⟩) | (go_at_call 16; refine (picked8_3 B w.heap.size width _ so wo n m _ f fs _ hmm hn h1 h2 (hso.below hb1) how (own_ne hso how)).mono ?_; rintro e w2 ⟨rfl, how2, hg2⟩))
  go_ret3
  exact ⟨wo, rfl, how2, own_below_grown how hb1 hg2⟩

theorem want_badd1 (B width : Nat) (ao so : Option Addr) (n c m : Nat) (f : Nat → Int) (w : World) (hn : n ≤ 1048576) (hmm : m ≤ 1048576) (h0 : ao = none → n = 0) (hs : Src w ao n f) (h1 : width * 4 ≤ m) (h2 : n < (width * 1 + 7) / 8) :
    Calls Tryd.prog 11 #[.int .i64 width, .int .u8 1, .int .u8 0, .slice ao n c, .slice so m m] w fun e w' => e = .returned (.tuple #[.bool false, .slice none 0 0, .bool false]) ∧ Below w.heap.size w w' := by
  go_enter Tryd.func11, Tryd.ntmps11
  go_wp2_with (first | (go_at_call 7; refine (clone_any ao n c f _ hn h0 hs).mono ?_; rintro e w1 ⟨wo, rfl, how, hb1⟩) | (go_at_call 15; refine (allow0_yes _ _ (by omega)).mono ?_; rintro e wx ⟨rfl, rfl⟩) | (go_at_call 16; refine (packBad1 width _ _ _ _ _ _ _ _ _ _ hmm hn h1 h2).mono ?_; rintro e w2 ⟨rfl, hg2⟩))
  go_ret3
  exact ⟨rfl, (by rw [← hg2]; exact hb1)⟩
theorem want_okd1 (B width : Nat) (ao so : Option Addr) (n c m : Nat) (f fs : Nat → Int) (w : World) (hn : n ≤ 1048576) (hmm : m ≤ 1048576) (h0 : ao = none → n = 0) (hs : Src w ao n f) (hso : Own w B so m fs) (h1 : width * 4 ≤ m) (h2 : (width * 1 + 7) / 8 ≤ n) (hby : Byts m fs) :
    Calls Tryd.prog 11 #[.int .i64 width, .int .u8 1, .int .u8 0, .slice ao n c, .slice so m m] w fun e w' => ∃ wo, e = .returned (.tuple #[.bool true, .slice wo n n, .bool true]) ∧ Own w' w.heap.size wo n (packRow 2 8 ((width * 1 + 7) / 8) f fs width) ∧ Below w.heap.size w w' := by
  go_enter Tryd.func11, Tryd.ntmps11
  go_wp2_with (first | (go_at_call 7; refine (clone_any ao n c f _ hn h0 hs).mono ?_; rintro e w1 ⟨wo, rfl, how, hb1⟩) | (go_at_call 15; refine (allow0_yes _ _ (by omega)).mono ?_; rintro e wx ⟨rfl, rfl⟩) | (go_at_call 16; refine (packedOwn1 B w.heap.size width _ so wo n m _ f fs _ hmm hn h1 h2 (hso.below hb1) how (own_ne hso how) hby).mono ?_; rintro e w2 ⟨rfl, how2, hg2⟩))
  go_ret3
  exact ⟨wo, rfl, how2, own_below_grown how hb1 hg2⟩

theorem want_badd2 (B width : Nat) (ao so : Option Addr) (n c m : Nat) (f : Nat → Int) (w : World) (hn : n ≤ 1048576) (hmm : m ≤ 1048576) (h0 : ao = none → n = 0) (hs : Src w ao n f) (h1 : width * 4 ≤ m) (h2 : n < (width * 2 + 7) / 8) :
    Calls Tryd.prog 11 #[.int .i64 width, .int .u8 2, .int .u8 0, .slice ao n c, .slice so m m] w fun e w' => e = .returned (.tuple #[.bool false, .slice none 0 0, .bool false]) ∧ Below w.heap.size w w' := by
  go_enter Tryd.func11, Tryd.ntmps11
  go_wp2_with (first | (go_at_call 7; refine (clone_any ao n c f _ hn h0 hs).mono ?_; rintro e w1 ⟨wo, rfl, how, hb1⟩) | (go_at_call 15; refine (allow0_yes _ _ (by omega)).mono ?_; rintro e wx ⟨rfl, rfl⟩) | (go_at_call 16; refine (packBad2 width _ _ _ _ _ _ _ _ _ _ hmm hn h1 h2).mono ?_; rintro e w2 ⟨rfl, hg2⟩))
  go_ret3
  exact ⟨rfl, (by rw [← hg2]; exact hb1)⟩
theorem want_okd2 (B width : Nat) (ao so : Option Addr) (n c m : Nat) (f fs : Nat → Int) (w : World) (hn : n ≤ 1048576) (hmm : m ≤ 1048576) (h0 : ao = none → n = 0) (hs : Src w ao n f) (hso : Own w B so m fs) (h1 : width * 4 ≤ m) (h2 : (width * 2 + 7) / 8 ≤ n) (hby : Byts m fs) :
    Calls Tryd.prog 11 #[.int .i64 width, .int .u8 2, .int .u8 0, .slice ao n c, .slice so m m] w fun e w' => ∃ wo, e = .returned (.tuple #[.bool true, .slice wo n n, .bool true]) ∧ Own w' w.heap.size wo n (packRow 4 4 ((width * 2 + 7) / 8) f fs width) ∧ Below w.heap.size w w' := by
  go_enter Tryd.func11, Tryd.ntmps11
  go_wp2_with (first | (go_at_call 7; refine (clone_any ao n c f _ hn h0 hs).mono ?_; rintro e w1 ⟨wo, rfl, how, hb1⟩) | (go_at_call 15; refine (allow0_yes _ _ (by omega)).mono ?_; rintro e wx ⟨rfl, rfl⟩) | (go_at_call 16; refine (packedOwn2 B w.heap.size width _ so wo n m _ f fs _ hmm hn h1 h2 (hso.below hb1) how (own_ne hso how) hby).mono ?_; rintro e w2 ⟨rfl, how2, hg2⟩))
  go_ret3
  exact ⟨wo, rfl, how2, own_below_grown how hb1 hg2⟩

theorem want_badd4 (B width : Nat) (ao so : Option Addr) (n c m : Nat) (f : Nat → Int) (w : World) (hn : n ≤ 1048576) (hmm : m ≤ 1048576) (h0 : ao = none → n = 0) (hs : Src w ao n f) (h1 : width * 4 ≤ m) (h2 : n < (width * 4 + 7) / 8) :
    Calls Tryd.prog 11 #[.int .i64 width, .int .u8 4, .int .u8 0, .slice ao n c, .slice so m m] w fun e w' => e = .returned (.tuple #[.bool false, .slice none 0 0, .bool false]) ∧ Below w.heap.size w w' := by
  go_enter Tryd.func11, Tryd.ntmps11
  go_wp2_with (first | (go_at_call 7; refine (clone_any ao n c f _ hn h0 hs).mono ?_; rintro e w1 ⟨wo, rfl, how, hb1⟩) | (go_at_call 15; refine (allow0_yes _ _ (by omega)).mono ?_; rintro e wx ⟨rfl, rfl⟩) | (go_at_call 16; refine (packBad4 width _ _ _ _ _ _ _ _ _ _ hmm hn h1 h2).mono ?_; rintro e w2 ⟨rfl, hg2⟩))
  go_ret3
  exact ⟨rfl, (by rw [← hg2]; exact hb1)⟩
theorem want_okd4 (B width : Nat) (ao so : Option Addr) (n c m : Nat) (f fs : Nat → Int) (w : World) (hn : n ≤ 1048576) (hmm : m ≤ 1048576) (h0 : ao = none → n = 0) (hs : Src w ao n f) (hso : Own w B so m fs) (h1 : width * 4 ≤ m) (h2 : (width * 4 + 7) / 8 ≤ n) (hby : Byts m fs) :
    Calls Tryd.prog 11 #[.int .i64 width, .int .u8 4, .int .u8 0, .slice ao n c, .slice so m m] w fun e w' => ∃ wo, e = .returned (.tuple #[.bool true, .slice wo n n, .bool true]) ∧ Own w' w.heap.size wo n (packRow 16 2 ((width * 4 + 7) / 8) f fs width) ∧ Below w.heap.size w w' := by
  go_enter Tryd.func11, Tryd.ntmps11
  go_wp2_with (first | (go_at_call 7; refine (clone_any ao n c f _ hn h0 hs).mono ?_; rintro e w1 ⟨wo, rfl, how, hb1⟩) | (go_at_call 15; refine (allow0_yes _ _ (by omega)).mono ?_; rintro e wx ⟨rfl, rfl⟩) | (go_at_call 16; refine (packedOwn4 B w.heap.size width _ so wo n m _ f fs _ hmm hn h1 h2 (hso.below hb1) how (own_ne hso how) hby).mono ?_; rintro e w2 ⟨rfl, how2, hg2⟩))
  go_ret3
  exact ⟨wo, rfl, how2, own_below_grown how hb1 hg2⟩

end Go.Proofs.Qxb6613510aDoor
