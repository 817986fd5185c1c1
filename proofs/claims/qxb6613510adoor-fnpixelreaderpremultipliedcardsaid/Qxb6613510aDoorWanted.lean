import Derived.Test.Qxb6613510aDoorWantPack
namespace Go.Proofs.Qxb6613510aDoor
open Go.RowKit
set_option linter.unusedVariables false

/-- The block that a slice lies in. -/
def blk (ao : Option Addr) : Option Nat := ao.map (·.block)

theorem grown_any {w w' : World} (h : w.grownBy w' none) (r : Option Nat) : w.grownBy w' r := ⟨h.os, h.tape, h.output, h.size, fun k hk _ => h.block k hk (by simp)⟩
theorem own_grown {w w' : World} {B : Nat} {ao : Option Addr} {n : Nat} {f : Nat → Int} (h : Own w B ao n f) (hg : w.grownBy w' none) : Own w' B ao n f := by
  rcases h with h | ⟨G, h1, h2, h3⟩
  · exact .inl h
  · exact .inr ⟨G, h1, h2, h3.of_block (hg.block G h3.lt (by simp))⟩
theorem own_congr {w : World} {B : Nat} {ao : Option Addr} {n : Nat} {f g : Nat → Int} (h : Own w B ao n f) (e : ∀ i, i < n → f i = g i) : Own w B ao n g := by
  rcases h with h | ⟨G, h1, h2, h3⟩
  · exact .inl h
  · exact .inr ⟨G, h1, h2, h3.congr fun i hi => by unfold byteV; rw [e i hi]⟩
/-- Another slice of the call's own is left alone. -/
theorem own_apart {w w' : World} {B C : Nat} {ao bo : Option Addr} {n : Nat} {f : Nat → Int} (h : Own w B bo n f) (hg : w.grownBy w' (blk ao)) (hne : blk bo = none ∨ blk bo ≠ blk ao) (_hC : C ≤ B) : Own w' C bo n f := by
  rcases h with h | ⟨G, h1, h2, h3⟩
  · exact .inl h
  · refine .inr ⟨G, h1, by omega, h3.of_block (hg.block G h3.lt ?_)⟩
    rcases hne with e | e
    · rw [h1] at e; simp [blk] at e
    · rw [h1] at e; exact e
theorem own_mono {w : World} {B C : Nat} {ao : Option Addr} {n : Nat} {f : Nat → Int} (h : Own w B ao n f) (hC : C ≤ B) : Own w C ao n f := by
  rcases h with h | ⟨G, h1, h2, h3⟩
  · exact .inl h
  · exact .inr ⟨G, h1, by omega, h3⟩

/-- A slice that was there lies elsewhere than one that was made since. -/
theorem own_ne {w w1 : World} {B : Nat} {so wo : Option Addr} {m n : Nat} {fs f : Nat → Int} (hs : Own w B so m fs) (hw : Own w1 w.heap.size wo n f) : blk so = none ∨ blk so ≠ blk wo := by
  rcases hs with ⟨rfl, _⟩ | ⟨S, rfl, _, hS⟩
  · exact .inl rfl
  · right
    rcases hw with ⟨rfl, _⟩ | ⟨D, rfl, hD, _⟩
    · simp [blk]
    · have := hS.lt
      simp [blk]
      omega
theorem own_below_grown {w w1 w2 : World} {wo : Option Addr} {n : Nat} {f : Nat → Int} (hw : Own w1 w.heap.size wo n f) (hb : Below w.heap.size w w1) (hg : w1.grownBy w2 (blk wo)) : Below w.heap.size w w2 := by
  refine hb.grown hg hb.size ?_
  intro k hk
  rcases hw with ⟨rfl, _⟩ | ⟨D, rfl, hD, _⟩
  · simp [blk] at hk
  · simp [blk] at hk
    omega

/-! ### zzWantPicked: no pixel; outside -/
theorem pickBad1 (width depth ct : Int) (a b c : Option Addr) (n m p ca cb cc : Nat) (w : World) (h : width < 0 ∨ (m : Int) / 4 < width) (hm : m ≤ 1048576) :
    Calls Tryd.prog 16 #[.int .i64 width, .int .u8 depth, .int .u8 ct, .slice a n ca, .slice b m cb, .slice c p cc] w fun e w' => e = .returned (.tuple #[.bool false, .slice none 0 0, .bool false]) ∧ w = w' := by
  by_cases h0 : width < 0
  · go_enter Tryd.func16, Tryd.ntmps16
    go_wp2
    go_ret3
    exact ⟨rfl, rfl⟩
  · have h1 : (m : Int) / 4 < width := by omega
    have hd1 : decide (width < 0) = false := by rw [decide_eq_false_iff_not]; omega
    clear h
    go_enter Tryd.func16, Tryd.ntmps16
    go_wp2
    go_ret3
    exact ⟨rfl, rfl⟩

theorem pickBad8_1 (width : Nat) (a b c : Option Addr) (n m p ca cb cc : Nat) (w : World) (hm : m ≤ 1048576) (hn : n ≤ 1048576) (h1 : width * 4 ≤ m) (h2 : n < width * 1) :
    Calls Tryd.prog 16 #[.int .i64 width, .int .u8 8, .int .u8 0, .slice a n ca, .slice b m cb, .slice c p cc] w fun e w' => e = .returned (.tuple #[.bool false, .slice none 0 0, .bool false]) ∧ w.grownBy w' none := by
  have hd1 : decide ((width : Int) < 0) = false := by rw [decide_eq_false_iff_not]; omega
  have hd2 : decide ((m : Int) / 4 < (width : Int)) = false := by rw [decide_eq_false_iff_not]; omega
  have hd3 : (n : Int) / 1 < (width : Int) := by omega
  go_enter Tryd.func16, Tryd.ntmps16
  go_wp2_with (first | (go_at_call 18; refine (straight0 _).mono ?_; rintro e w1 ⟨rfl, hw1⟩; have hg1 := World.grownBy_alloc w (.cells #[.int .i64 0] 3) none; rw [← hw1] at hg1; clear hw1))
  go_ret3
  exact ⟨rfl, hg1⟩
theorem pickZero8_1 (a b c : Option Addr) (n m p ca cb cc : Nat) (w : World) (hm : m ≤ 1048576) (hn : n ≤ 1048576) :
    Calls Tryd.prog 16 #[.int .i64 0, .int .u8 8, .int .u8 0, .slice a n ca, .slice b m cb, .slice c p cc] w fun e w' => e = .returned (.tuple #[.bool true, .slice c p cc, .bool true]) ∧ w.grownBy w' none := by
  have hd2 : decide ((m : Int) / 4 < 0) = false := by rw [decide_eq_false_iff_not]; omega
  have hd3 : ¬ ((n : Int) / 1 < 0) := by omega
  go_enter Tryd.func16, Tryd.ntmps16
  go_wp2_with (first | (go_at_call 18; refine (straight0 _).mono ?_; rintro e w1 ⟨rfl, hw1⟩; have hg1 := World.grownBy_alloc w (.cells #[.int .i64 0] 3) none; rw [← hw1] at hg1; clear hw1))
  refine wp_loop_rounds 1 ?_
  rw [rounds_succ]
  go_wp2
  go_ret3
  exact ⟨rfl, hg1⟩
theorem picked8_1 (B B2 width : Nat) (a so wo : Option Addr) (n m ca : Nat) (fd fs : Nat → Int) (w : World) (hm : m ≤ 1048576) (hn : n ≤ 1048576) (h1 : width * 4 ≤ m) (h2 : width * 1 ≤ n) (hs : Own w B so m fs) (hw : Own w B2 wo n fd) (hne : blk so = none ∨ blk so ≠ blk wo) :
    Calls Tryd.prog 16 #[.int .i64 width, .int .u8 8, .int .u8 0, .slice a n ca, .slice so m m, .slice wo n n] w fun e w' => e = .returned (.tuple #[.bool true, .slice wo n n, .bool true]) ∧ Own w' B2 wo n (specPick 1 width fd fs) ∧ w.grownBy w' (blk wo) := by
  rcases Nat.eq_zero_or_pos width with rfl | hp
  · exact (pickZero8_1 a so wo n m n ca m n w hm hn).mono fun e w' ⟨he, hg⟩ => ⟨he, own_congr (own_grown hw hg) (fun i _ => by simp [specPick]), grown_any hg _⟩
  · rcases hs with ⟨_, h⟩ | ⟨S, rfl, hSB, hS⟩
    · omega
    · rcases hw with ⟨_, h⟩ | ⟨D, rfl, hDB, hD⟩
      · omega
      · have hSD : S ≠ D := by
          rcases hne with e | e
          · simp [blk] at e
          · simpa [blk] using e
        exact (wantPick1 a ca D S n m width fd fs w hn hm h1 h2 hSD hD (fun i hi => hS.cell hi)).mono fun e w' ⟨he, hr, hg⟩ => ⟨he, .inr ⟨D, rfl, hDB, hr⟩, hg⟩

theorem pickBad8_3 (width : Nat) (a b c : Option Addr) (n m p ca cb cc : Nat) (w : World) (hm : m ≤ 1048576) (hn : n ≤ 1048576) (h1 : width * 4 ≤ m) (h2 : n < width * 3) :
    Calls Tryd.prog 16 #[.int .i64 width, .int .u8 8, .int .u8 2, .slice a n ca, .slice b m cb, .slice c p cc] w fun e w' => e = .returned (.tuple #[.bool false, .slice none 0 0, .bool false]) ∧ w.grownBy w' none := by
  have hd1 : decide ((width : Int) < 0) = false := by rw [decide_eq_false_iff_not]; omega
  have hd2 : decide ((m : Int) / 4 < (width : Int)) = false := by rw [decide_eq_false_iff_not]; omega
  have hd3 : (n : Int) / 3 < (width : Int) := by omega
  go_enter Tryd.func16, Tryd.ntmps16
  go_wp2_with (first | (go_at_call 18; refine (straight2 _).mono ?_; rintro e w1 ⟨rfl, hw1⟩; have hg1 := World.grownBy_alloc w (.cells #[.int .i64 0, .int .i64 1, .int .i64 2] 3) none; rw [← hw1] at hg1; clear hw1))
  go_ret3
  exact ⟨rfl, hg1⟩
theorem pickZero8_3 (a b c : Option Addr) (n m p ca cb cc : Nat) (w : World) (hm : m ≤ 1048576) (hn : n ≤ 1048576) :
    Calls Tryd.prog 16 #[.int .i64 0, .int .u8 8, .int .u8 2, .slice a n ca, .slice b m cb, .slice c p cc] w fun e w' => e = .returned (.tuple #[.bool true, .slice c p cc, .bool true]) ∧ w.grownBy w' none := by
  have hd2 : decide ((m : Int) / 4 < 0) = false := by rw [decide_eq_false_iff_not]; omega
  have hd3 : ¬ ((n : Int) / 3 < 0) := by omega
  go_enter Tryd.func16, Tryd.ntmps16
  go_wp2_with (first | (go_at_call 18; refine (straight2 _).mono ?_; rintro e w1 ⟨rfl, hw1⟩; have hg1 := World.grownBy_alloc w (.cells #[.int .i64 0, .int .i64 1, .int .i64 2] 3) none; rw [← hw1] at hg1; clear hw1))
  refine wp_loop_rounds 1 ?_
  rw [rounds_succ]
  go_wp2
  go_ret3
  exact ⟨rfl, hg1⟩
theorem picked8_3 (B B2 width : Nat) (a so wo : Option Addr) (n m ca : Nat) (fd fs : Nat → Int) (w : World) (hm : m ≤ 1048576) (hn : n ≤ 1048576) (h1 : width * 4 ≤ m) (h2 : width * 3 ≤ n) (hs : Own w B so m fs) (hw : Own w B2 wo n fd) (hne : blk so = none ∨ blk so ≠ blk wo) :
    Calls Tryd.prog 16 #[.int .i64 width, .int .u8 8, .int .u8 2, .slice a n ca, .slice so m m, .slice wo n n] w fun e w' => e = .returned (.tuple #[.bool true, .slice wo n n, .bool true]) ∧ Own w' B2 wo n (specPick 3 width fd fs) ∧ w.grownBy w' (blk wo) := by
  rcases Nat.eq_zero_or_pos width with rfl | hp
  · exact (pickZero8_3 a so wo n m n ca m n w hm hn).mono fun e w' ⟨he, hg⟩ => ⟨he, own_congr (own_grown hw hg) (fun i _ => by simp [specPick]), grown_any hg _⟩
  · rcases hs with ⟨_, h⟩ | ⟨S, rfl, hSB, hS⟩
    · omega
    · rcases hw with ⟨_, h⟩ | ⟨D, rfl, hDB, hD⟩
      · omega
      · have hSD : S ≠ D := by
          rcases hne with e | e
          · simp [blk] at e
          · simpa [blk] using e
        exact (wantPick3 a ca D S n m width fd fs w hn hm h1 h2 hSD hD (fun i hi => hS.cell hi)).mono fun e w' ⟨he, hr, hg⟩ => ⟨he, .inr ⟨D, rfl, hDB, hr⟩, hg⟩

theorem packBad1 (width : Nat) (a b c : Option Addr) (n m p ca cb cc : Nat) (w : World) (hm : m ≤ 1048576) (hn : n ≤ 1048576) (h1 : width * 4 ≤ m) (h2 : n < (width * 1 + 7) / 8) :
    Calls Tryd.prog 16 #[.int .i64 width, .int .u8 1, .int .u8 0, .slice a n ca, .slice b m cb, .slice c p cc] w fun e w' => e = .returned (.tuple #[.bool false, .slice none 0 0, .bool false]) ∧ w = w' := by
  have hd1 : decide ((width : Int) < 0) = false := by rw [decide_eq_false_iff_not]; omega
  have hd2 : decide ((m : Int) / 4 < (width : Int)) = false := by rw [decide_eq_false_iff_not]; omega
  go_enter Tryd.func16, Tryd.ntmps16
  go_wp2
  go_ret3
  exact ⟨rfl, rfl⟩
theorem packZero1 (a b c : Option Addr) (n m p ca cb cc : Nat) (w : World) (hm : m ≤ 1048576) (hn : n ≤ 1048576) :
    Calls Tryd.prog 16 #[.int .i64 0, .int .u8 1, .int .u8 0, .slice a n ca, .slice b m cb, .slice c p cc] w fun e w' => e = .returned (.tuple #[.bool true, .slice c p cc, .bool true]) ∧ w = w' := by
  have hd2 : decide ((m : Int) / 4 < 0) = false := by rw [decide_eq_false_iff_not]; omega
  go_enter Tryd.func16, Tryd.ntmps16
  go_wp2
  refine wp_loop_rounds 1 ?_
  rw [rounds_succ]
  go_wp2
  refine wp_loop_rounds 1 ?_
  rw [rounds_succ]
  go_wp2
  go_ret3
  exact ⟨rfl, rfl⟩
theorem packedOwn1 (B B2 width : Nat) (a so wo : Option Addr) (n m ca : Nat) (fd fs : Nat → Int) (w : World) (hm : m ≤ 1048576) (hn : n ≤ 1048576) (h1 : width * 4 ≤ m) (h2 : (width * 1 + 7) / 8 ≤ n) (hs : Own w B so m fs) (hw : Own w B2 wo n fd) (hne : blk so = none ∨ blk so ≠ blk wo) (hb : Byts m fs) :
    Calls Tryd.prog 16 #[.int .i64 width, .int .u8 1, .int .u8 0, .slice a n ca, .slice so m m, .slice wo n n] w fun e w' => e = .returned (.tuple #[.bool true, .slice wo n n, .bool true]) ∧ Own w' B2 wo n (packRow 2 8 ((width * 1 + 7) / 8) fd fs width) ∧ w.grownBy w' (blk wo) := by
  rcases Nat.eq_zero_or_pos width with rfl | hp
  · exact (packZero1 a so wo n m n ca m n w hm hn).mono fun e w' ⟨he, hg⟩ => ⟨he, by rw [← hg]; exact own_congr hw (fun i _ => by simp [packRow]), by rw [← hg]; exact ⟨rfl, rfl, rfl, Nat.le_refl _, fun _ _ _ => rfl⟩⟩
  · rcases hs with ⟨_, h⟩ | ⟨S, rfl, hSB, hS⟩
    · omega
    · rcases hw with ⟨_, h⟩ | ⟨D, rfl, hDB, hD⟩
      · omega
      · have hSD : S ≠ D := by
          rcases hne with e | e
          · simp [blk] at e
          · simpa [blk] using e
        exact (wantPack1 a ca D S n m width fd fs w hn hm h1 h2 hSD hD (fun i hi => hS.cell hi) hb).mono fun e w' ⟨he, hr, hg⟩ => ⟨he, .inr ⟨D, rfl, hDB, hr⟩, hg⟩

theorem packBad2 (width : Nat) (a b c : Option Addr) (n m p ca cb cc : Nat) (w : World) (hm : m ≤ 1048576) (hn : n ≤ 1048576) (h1 : width * 4 ≤ m) (h2 : n < (width * 2 + 7) / 8) :
    Calls Tryd.prog 16 #[.int .i64 width, .int .u8 2, .int .u8 0, .slice a n ca, .slice b m cb, .slice c p cc] w fun e w' => e = .returned (.tuple #[.bool false, .slice none 0 0, .bool false]) ∧ w = w' := by
  have hd1 : decide ((width : Int) < 0) = false := by rw [decide_eq_false_iff_not]; omega
  have hd2 : decide ((m : Int) / 4 < (width : Int)) = false := by rw [decide_eq_false_iff_not]; omega
  go_enter Tryd.func16, Tryd.ntmps16
  go_wp2
  go_ret3
  exact ⟨rfl, rfl⟩
theorem packZero2 (a b c : Option Addr) (n m p ca cb cc : Nat) (w : World) (hm : m ≤ 1048576) (hn : n ≤ 1048576) :
    Calls Tryd.prog 16 #[.int .i64 0, .int .u8 2, .int .u8 0, .slice a n ca, .slice b m cb, .slice c p cc] w fun e w' => e = .returned (.tuple #[.bool true, .slice c p cc, .bool true]) ∧ w = w' := by
  have hd2 : decide ((m : Int) / 4 < 0) = false := by rw [decide_eq_false_iff_not]; omega
  go_enter Tryd.func16, Tryd.ntmps16
  go_wp2
  refine wp_loop_rounds 1 ?_
  rw [rounds_succ]
  go_wp2
  refine wp_loop_rounds 1 ?_
  rw [rounds_succ]
  go_wp2
  go_ret3
  exact ⟨rfl, rfl⟩
theorem packedOwn2 (B B2 width : Nat) (a so wo : Option Addr) (n m ca : Nat) (fd fs : Nat → Int) (w : World) (hm : m ≤ 1048576) (hn : n ≤ 1048576) (h1 : width * 4 ≤ m) (h2 : (width * 2 + 7) / 8 ≤ n) (hs : Own w B so m fs) (hw : Own w B2 wo n fd) (hne : blk so = none ∨ blk so ≠ blk wo) (hb : Byts m fs) :
    Calls Tryd.prog 16 #[.int .i64 width, .int .u8 2, .int .u8 0, .slice a n ca, .slice so m m, .slice wo n n] w fun e w' => e = .returned (.tuple #[.bool true, .slice wo n n, .bool true]) ∧ Own w' B2 wo n (packRow 4 4 ((width * 2 + 7) / 8) fd fs width) ∧ w.grownBy w' (blk wo) := by
  rcases Nat.eq_zero_or_pos width with rfl | hp
  · exact (packZero2 a so wo n m n ca m n w hm hn).mono fun e w' ⟨he, hg⟩ => ⟨he, by rw [← hg]; exact own_congr hw (fun i _ => by simp [packRow]), by rw [← hg]; exact ⟨rfl, rfl, rfl, Nat.le_refl _, fun _ _ _ => rfl⟩⟩
  · rcases hs with ⟨_, h⟩ | ⟨S, rfl, hSB, hS⟩
    · omega
    · rcases hw with ⟨_, h⟩ | ⟨D, rfl, hDB, hD⟩
      · omega
      · have hSD : S ≠ D := by
          rcases hne with e | e
          · simp [blk] at e
          · simpa [blk] using e
        exact (wantPack2 a ca D S n m width fd fs w hn hm h1 h2 hSD hD (fun i hi => hS.cell hi) hb).mono fun e w' ⟨he, hr, hg⟩ => ⟨he, .inr ⟨D, rfl, hDB, hr⟩, hg⟩

theorem packBad4 (width : Nat) (a b c : Option Addr) (n m p ca cb cc : Nat) (w : World) (hm : m ≤ 1048576) (hn : n ≤ 1048576) (h1 : width * 4 ≤ m) (h2 : n < (width * 4 + 7) / 8) :
    Calls Tryd.prog 16 #[.int .i64 width, .int .u8 4, .int .u8 0, .slice a n ca, .slice b m cb, .slice c p cc] w fun e w' => e = .returned (.tuple #[.bool false, .slice none 0 0, .bool false]) ∧ w = w' := by
  have hd1 : decide ((width : Int) < 0) = false := by rw [decide_eq_false_iff_not]; omega
  have hd2 : decide ((m : Int) / 4 < (width : Int)) = false := by rw [decide_eq_false_iff_not]; omega
  go_enter Tryd.func16, Tryd.ntmps16
  go_wp2
  go_ret3
  exact ⟨rfl, rfl⟩
theorem packZero4 (a b c : Option Addr) (n m p ca cb cc : Nat) (w : World) (hm : m ≤ 1048576) (hn : n ≤ 1048576) :
    Calls Tryd.prog 16 #[.int .i64 0, .int .u8 4, .int .u8 0, .slice a n ca, .slice b m cb, .slice c p cc] w fun e w' => e = .returned (.tuple #[.bool true, .slice c p cc, .bool true]) ∧ w = w' := by
  have hd2 : decide ((m : Int) / 4 < 0) = false := by rw [decide_eq_false_iff_not]; omega
  go_enter Tryd.func16, Tryd.ntmps16
  go_wp2
  refine wp_loop_rounds 1 ?_
  rw [rounds_succ]
  go_wp2
  refine wp_loop_rounds 1 ?_
  rw [rounds_succ]
  go_wp2
  go_ret3
  exact ⟨rfl, rfl⟩
theorem packedOwn4 (B B2 width : Nat) (a so wo : Option Addr) (n m ca : Nat) (fd fs : Nat → Int) (w : World) (hm : m ≤ 1048576) (hn : n ≤ 1048576) (h1 : width * 4 ≤ m) (h2 : (width * 4 + 7) / 8 ≤ n) (hs : Own w B so m fs) (hw : Own w B2 wo n fd) (hne : blk so = none ∨ blk so ≠ blk wo) (hb : Byts m fs) :
    Calls Tryd.prog 16 #[.int .i64 width, .int .u8 4, .int .u8 0, .slice a n ca, .slice so m m, .slice wo n n] w fun e w' => e = .returned (.tuple #[.bool true, .slice wo n n, .bool true]) ∧ Own w' B2 wo n (packRow 16 2 ((width * 4 + 7) / 8) fd fs width) ∧ w.grownBy w' (blk wo) := by
  rcases Nat.eq_zero_or_pos width with rfl | hp
  · exact (packZero4 a so wo n m n ca m n w hm hn).mono fun e w' ⟨he, hg⟩ => ⟨he, by rw [← hg]; exact own_congr hw (fun i _ => by simp [packRow]), by rw [← hg]; exact ⟨rfl, rfl, rfl, Nat.le_refl _, fun _ _ _ => rfl⟩⟩
  · rcases hs with ⟨_, h⟩ | ⟨S, rfl, hSB, hS⟩
    · omega
    · rcases hw with ⟨_, h⟩ | ⟨D, rfl, hDB, hD⟩
      · omega
      · have hSD : S ≠ D := by
          rcases hne with e | e
          · simp [blk] at e
          · simpa [blk] using e
        exact (wantPack4 a ca D S n m width fd fs w hn hm h1 h2 hSD hD (fun i hi => hS.cell hi) hb).mono fun e w' ⟨he, hr, hg⟩ => ⟨he, .inr ⟨D, rfl, hDB, hr⟩, hg⟩

end Go.Proofs.Qxb6613510aDoor
