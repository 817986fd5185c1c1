import Derived.Test.Qxb6613510aDoorLE
namespace Go.Proofs.Qxb6613510aDoor
open Go.RowKit
set_option linter.unusedVariables false

/-! ### unpremultiply, on slices of the call's own -/
theorem unFew (a b : Option Addr) (n m c d : Nat) (w : World) (hn : n < 4) :
    Calls Tryd.prog 23 #[.slice a n c, .slice b m d] w fun e w' => e = .returned (.tuple #[]) ∧ w = w' := by
  go_enter Tryd.func23, Tryd.ntmps23
  go_wp2
  refine wp_loop_rounds 1 ?_
  rw [rounds_succ]
  go_wp2
  go_end0
  exact ⟨rfl, rfl⟩
theorem grown_same (w : World) (r : Option Nat) : w.grownBy w r := ⟨rfl, rfl, rfl, Nat.le_refl _, fun _ _ _ => rfl⟩
theorem un_own (B B2 : Nat) (so dO : Option Addr) (n m : Nat) (fd fs : Nat → Int) (w : World) (hn : n ≤ 1048576) (hmm : m ≤ 1048576) (hm : n / 4 * 4 ≤ m) (hs : Own w B so m fs) (hd : Own w B2 dO n fd) (hne : blk so = none ∨ blk so ≠ blk dO) (hb : Byts m fs) :
    Calls Tryd.prog 23 #[.slice dO n n, .slice so m m] w fun e w' => e = .returned (.tuple #[]) ∧ Own w' B2 dO n (specUn n fd fs) ∧ w.grownBy w' (blk dO) := by
  by_cases h4 : n < 4
  · exact (unFew dO so n m n m w h4).mono fun e w' ⟨he, hw⟩ => ⟨he, by rw [← hw]; exact own_congr hd (fun i _ => by unfold specUn; rw [if_neg (by omega)]), by rw [← hw]; exact grown_same _ _⟩
  · rcases hs with ⟨_, h⟩ | ⟨S, rfl, hSB, hS⟩
    · omega
    · rcases hd with ⟨_, h⟩ | ⟨D, rfl, hDB, hD⟩
      · omega
      · have hSD : S ≠ D := by
          rcases hne with e | e
          · simp [blk] at e
          · simpa [blk] using e
        exact (unpremul_any D S n m fd fs w hn hm hmm hSD hD (fun i hi => hS.cell hi) hb).mono fun e w' ⟨he, hr, hg⟩ => ⟨he, .inr ⟨D, rfl, hDB, hr⟩, hg⟩

/-! ### picker$2: one byte a pixel -/
theorem fill1_zero (a b : Option Addr) (n m c d Wb Zb Ob : Nat) (w : World) (hW : w.cell? ⟨Wb, 0, none⟩ = some (.int .i64 0)) :
    Calls Tryd.prog 33 #[.slice a n c, .slice b m d, .pointer (some ⟨Wb, 0, none⟩), .pointer (some ⟨Zb, 0, none⟩), .pointer (some ⟨Ob, 0, none⟩)] w fun e w' => e = .returned (.tuple #[]) ∧ w = w' := by
  go_enter Tryd.func33, Tryd.ntmps33
  go_wp2
  refine wp_loop_rounds 1 ?_
  rw [rounds_succ]
  go_wp2
  go_end0
  exact ⟨rfl, rfl⟩

set_option maxHeartbeats 400000 in
theorem fill1_many (D S Wb Zb Ob og oc n m width : Nat) (fd fs : Nat → Int) (w : World) (hn : n ≤ 1048576) (hmm : m ≤ 1048576) (h1 : width * 4 ≤ m) (h2 : width ≤ n) (hne : S ≠ D) (hWD : Wb ≠ D) (hZD : Zb ≠ D) (hOD : Ob ≠ D) (hoD : og ≠ D) (hD : w.rowIs D 5 n (byteV fd)) (hS : w.rowIs S 5 m (byteV fs))
    (hW : w.cell? ⟨Wb, 0, none⟩ = some (.int .i64 width)) (hZ : w.cell? ⟨Zb, 0, none⟩ = some (.int .i64 4)) (hO : w.cell? ⟨Ob, 0, none⟩ = some (.slice (some ⟨og, 0, none⟩) 1 oc)) (ho : w.cell? ⟨og, 0, none⟩ = some (.int .i64 0)) :
    Calls Tryd.prog 33 #[.slice (some ⟨D, 0, none⟩) n n, .slice (some ⟨S, 0, none⟩) m m, .pointer (some ⟨Wb, 0, none⟩), .pointer (some ⟨Zb, 0, none⟩), .pointer (some ⟨Ob, 0, none⟩)] w fun e w' => e = .returned (.tuple #[]) ∧ w'.rowIs D 5 n (byteV (specPick 1 width fd fs)) ∧ w.grownBy w' (some D) := by
  go_enter Tryd.func33, Tryd.ntmps33
  go_wp2
  go_loopw [7, 13] (fun iv xv wr => ∃ x : Nat, x ≤ width ∧ xv = .int .i64 x ∧ iv = .int .i64 x ∧ wr.rowIs D 5 n (byteV (part x (specPick 1 width fd fs) fd)) ∧ w.grownBy wr (some D)) (fun _ xv _ => width - (intOf xv).toNat)
  case atStart => exact ⟨0, by omega, rfl, rfl, hD, grown_refl _ _⟩
  case round =>
    obtain ⟨x, hx, rfl, rfl, hrow, hgr⟩ := hrel
    by_cases hxw : x < width
    · have hSr := grown_row hgr hS hne
      have z1 := grown_cell hgr hZ hZD
      have o1 := grown_cell hgr hO hOD
      have o2 := grown_cell hgr ho hoD
      have sc : wr.cell? ⟨S, x * 4, none⟩ = some (.int .u8 (fs (x * 4))) := hSr.cell (by omega)
      have dc := hrow.cell (i := x) (by omega)
      have fc := hrow.frozen x
      go_wp2_with fail
      refine wp_loop_rounds 2 ?_
      rw [rounds_succ]
      go_wp2_with (rw [rounds_succ])
      go_roundw
      case rel => exact ⟨x + 1, by omega, by go_num, by go_num, part_set hrow (by unfold specPick; rw [if_pos (by omega)]; congr 1; omega), grown_set hgr _ _⟩
      case measure => simp [intOf]; omega
    · have ex : x = width := by omega
      subst ex
      go_wp2
      go_end0
      exact ⟨rfl, hrow.congr (pick_done1), hgr⟩
/-! ### picker$1: no pixel -/
theorem fill3_zero (a b : Option Addr) (n m Wb : Nat) (w : World) (ha : a = none → n = 0) (hb : b = none → m = 0) (hW : w.cell? ⟨Wb, 0, none⟩ = some (.int .i64 0)) :
    Calls Tryd.prog 30 #[.slice a n n, .slice b m m, .pointer (some ⟨Wb, 0, none⟩)] w fun e w' => e = .returned (.tuple #[]) ∧ w.grownBy w' none := by
  go_enter Tryd.func30, Tryd.ntmps30
  go_wp2_with fail
  go_quiet (fail)
  go_wp2_with fail
  refine wp_loop_rounds 1 ?_
  rw [rounds_succ]
  go_wp2_with fail
  refine wp_loop_rounds 1 ?_
  rw [rounds_succ]
  go_wp2
  go_end0
  exact ⟨rfl, ⟨rfl, rfl, rfl, Nat.le_refl _, fun _ _ _ => rfl⟩⟩

end Go.Proofs.Qxb6613510aDoor
