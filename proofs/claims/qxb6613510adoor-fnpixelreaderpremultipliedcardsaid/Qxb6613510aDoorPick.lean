import Derived.Test.Qxb6613510aDoorUn
namespace Go.Proofs.Qxb6613510aDoor
open Go.RowKit

/-- The bytes that are kept: k of each of the first width pixels, one behind the other. -/
def specPick (k width : Nat) (fd fs : Nat → Int) (i : Nat) : Int := if i < width * k then fs (4 * (i / k) + i % k) else fd i

theorem straight0 (w : World) : Calls Tryd.prog 18 #[.int .u8 0] w fun e w' => e = .returned (.slice (some ⟨w.heap.size, 0, none⟩) 1 1) ∧ w' = w.alloc (.cells #[.int .i64 0] 3) := by
  go_enter Tryd.func18, Tryd.ntmps18
  go_wp2
  go_ret
  exact ⟨rfl, rfl⟩
theorem straight2 (w : World) : Calls Tryd.prog 18 #[.int .u8 2] w fun e w' => e = .returned (.slice (some ⟨w.heap.size, 0, none⟩) 3 3) ∧ w' = w.alloc (.cells #[.int .i64 0, .int .i64 1, .int .i64 2] 3) := by
  go_enter Tryd.func18, Tryd.ntmps18
  go_wp2
  go_ret
  exact ⟨rfl, rfl⟩

/-- The kept offsets lie in a row of ints. -/
theorem offs_row1 (w : World) : (w.alloc (.cells #[.int .i64 0] 3)).rowIs w.heap.size 3 1 (fun i => .int .i64 i) :=
  World.rowIs_alloc w #[.int .i64 0] 3 (fun i => .int .i64 i) (fun i h => by
    match i, h with
    | 0, _ => rfl)
theorem offs_row3 (w : World) : (w.alloc (.cells #[.int .i64 0, .int .i64 1, .int .i64 2] 3)).rowIs w.heap.size 3 3 (fun i => .int .i64 i) :=
  World.rowIs_alloc w #[.int .i64 0, .int .i64 1, .int .i64 2] 3 (fun i => .int .i64 i) (fun i h => by
    match i, h with
    | 0, _ => rfl
    | 1, _ => rfl
    | 2, _ => rfl)

/-- What only one own row has turned, new blocks besides. -/
theorem grown_alloc {a w : World} {D : Nat} (h : a.grownBy w (some D)) (o : Obj) : a.grownBy (w.alloc o) (some D) := grown_trans h (World.grownBy_alloc w o (some D))

theorem pick_mid1 {width j t : Nat} {fd fs : Nat → Int} (hj : j < width) (ht : t < 1) : fs (4 * j + t) = specPick 1 width fd fs (j + t) := by
  unfold specPick
  rw [if_pos (by omega), show (j + t) / 1 = j by omega, show (j + t) % 1 = t by omega]
theorem pick_done1 {n width : Nat} {fd fs : Nat → Int} : ∀ i, i < n → byteV (part (width) (specPick 1 width fd fs) fd) i = byteV (specPick 1 width fd fs) i := by
  intro i _
  unfold byteV part specPick
  by_cases h : i < width
  · rw [if_pos h]
  · rw [if_neg h, if_neg (by omega)]

set_option maxHeartbeats 400000 in
theorem wantPick1 (do_ : Option Addr) (dc D S n m width : Nat) (fd fs : Nat → Int) (w : World) (hn : n ≤ 1048576) (hmm : m ≤ 1048576) (hw1 : width * 4 ≤ m) (hw2 : width * 1 ≤ n) (hne : S ≠ D) (hD : w.rowIs D 5 n (byteV fd)) (hS : ∀ i, i < m → w.cell? ⟨S, i, none⟩ = some (.int .u8 (fs i))) :
    Calls Tryd.prog 16 #[.int .i64 width, .int .u8 8, .int .u8 0, .slice do_ n dc, .slice (some ⟨S, 0, none⟩) m m, .slice (some ⟨D, 0, none⟩) n n] w
      fun e w' => e = .returned (.tuple #[.bool true, .slice (some ⟨D, 0, none⟩) n n, .bool true]) ∧ w'.rowIs D 5 n (byteV (specPick 1 width fd fs)) ∧ w.grownBy w' (some D) := by
  have hd1 : decide ((width : Int) < 0) = false := by rw [decide_eq_false_iff_not]; omega
  have hd2 : decide ((m : Int) / 4 < (width : Int)) = false := by rw [decide_eq_false_iff_not]; omega
  have hd3 : ¬ ((n : Int) / 1 < (width : Int)) := by omega
  have hlt := hD.lt
  go_enter Tryd.func16, Tryd.ntmps16
  go_wp2_with (first | (go_at_call 18; refine (straight0 _).mono ?_; rintro e w1 ⟨rfl, hw1⟩; have ho := offs_row1 w; rw [← hw1] at ho; have hg1 := grown_alloc (grown_refl w D) (.cells #[.int .i64 0] 3); rw [← hw1] at hg1; have hD1 := hD.alloc (.cells #[.int .i64 0] 3); rw [← hw1] at hD1; clear hw1))
  go_loopw [17] (fun jv wr => ∃ j : Nat, j ≤ width ∧ jv = .int .i64 j ∧ wr.rowIs D 5 n (byteV (part (j) (specPick 1 width fd fs) fd)) ∧ w.grownBy wr (some D) ∧ wr.rowIs w.heap.size 3 1 (fun i => .int .i64 i)) (fun jv _ => width - (intOf jv).toNat)
  case atStart => exact ⟨0, by omega, rfl, hD1.congr (fun i _ => by simp [byteV, part]), hg1, ho⟩
  case round =>
    clear ho hg1
    obtain ⟨j, hj, rfl, hrow, hgr, ho⟩ := hrel
    by_cases hjw : j < width
    · obtain ⟨wo, ewo⟩ : ∃ x, x = wr := ⟨_, rfl⟩
      subst ewo
      go_wp2_with fail
      go_loopw [18] (fun tv wr => ∃ t : Nat, t ≤ 1 ∧ tv = .int .i64 t ∧ wr.rowIs D 5 n (byteV (part (j + t) (specPick 1 width fd fs) fd)) ∧ w.grownBy wr (some D) ∧ wr.rowIs w.heap.size 3 1 (fun i => .int .i64 i)) (fun tv _ => 1 - (intOf tv).toNat)
      case atStart => exact ⟨0, by omega, rfl, hrow, hgr, ho⟩
      case round =>
        clear hrow ho hgr
        obtain ⟨t, ht, rfl, hrow, hgr, ho⟩ := hrel
        by_cases htk : t < 1
        · have sc := grown_cell hgr (hS (4 * j + t) (by omega)) hne
          have dc := hrow.cell (i := j + t) (by omega)
          have fc := hrow.frozen (j + t)
          have oc := ho.cell htk
          go_wp2_with fail
          go_roundw
          case rel => exact ⟨t + 1, by omega, by go_num, part_set hrow (pick_mid1 hjw htk), grown_set hgr _ _, ho.setOther (by simp; omega) _⟩
          case measure => simp [intOf]; omega
        · have et : t = 1 := by omega
          subst et
          go_wp2_with fail
          go_roundw
          case rel => exact ⟨j + 1, by omega, by go_num, hrow.congr (fun i _ => by rw [show j + 1 = j + 1 by omega]), hgr, ho⟩
          case measure => simp [intOf]; omega
    · have ej : j = width := by omega
      subst ej
      go_wp2
      go_ret3
      exact ⟨rfl, hrow.congr pick_done1, hgr⟩

theorem pick_mid3 {width j t : Nat} {fd fs : Nat → Int} (hj : j < width) (ht : t < 3) : fs (4 * j + t) = specPick 3 width fd fs (j * 3 + t) := by
  unfold specPick
  rw [if_pos (by omega), show (j * 3 + t) / 3 = j by omega, show (j * 3 + t) % 3 = t by omega]
theorem pick_done3 {n width : Nat} {fd fs : Nat → Int} : ∀ i, i < n → byteV (part (width * 3) (specPick 3 width fd fs) fd) i = byteV (specPick 3 width fd fs) i := by
  intro i _
  unfold byteV part specPick
  by_cases h : i < width * 3
  · rw [if_pos h]
  · rw [if_neg h, if_neg (by omega)]

set_option maxHeartbeats 400000 in
theorem wantPick3 (do_ : Option Addr) (dc D S n m width : Nat) (fd fs : Nat → Int) (w : World) (hn : n ≤ 1048576) (hmm : m ≤ 1048576) (hw1 : width * 4 ≤ m) (hw2 : width * 3 ≤ n) (hne : S ≠ D) (hD : w.rowIs D 5 n (byteV fd)) (hS : ∀ i, i < m → w.cell? ⟨S, i, none⟩ = some (.int .u8 (fs i))) :
    Calls Tryd.prog 16 #[.int .i64 width, .int .u8 8, .int .u8 2, .slice do_ n dc, .slice (some ⟨S, 0, none⟩) m m, .slice (some ⟨D, 0, none⟩) n n] w
      fun e w' => e = .returned (.tuple #[.bool true, .slice (some ⟨D, 0, none⟩) n n, .bool true]) ∧ w'.rowIs D 5 n (byteV (specPick 3 width fd fs)) ∧ w.grownBy w' (some D) := by
  have hd1 : decide ((width : Int) < 0) = false := by rw [decide_eq_false_iff_not]; omega
  have hd2 : decide ((m : Int) / 4 < (width : Int)) = false := by rw [decide_eq_false_iff_not]; omega
  have hd3 : ¬ ((n : Int) / 3 < (width : Int)) := by omega
  have hlt := hD.lt
  go_enter Tryd.func16, Tryd.ntmps16
  go_wp2_with (first | (go_at_call 18; refine (straight2 _).mono ?_; rintro e w1 ⟨rfl, hw1⟩; have ho := offs_row3 w; rw [← hw1] at ho; have hg1 := grown_alloc (grown_refl w D) (.cells #[.int .i64 0, .int .i64 1, .int .i64 2] 3); rw [← hw1] at hg1; have hD1 := hD.alloc (.cells #[.int .i64 0, .int .i64 1, .int .i64 2] 3); rw [← hw1] at hD1; clear hw1))
  go_loopw [17] (fun jv wr => ∃ j : Nat, j ≤ width ∧ jv = .int .i64 j ∧ wr.rowIs D 5 n (byteV (part (j * 3) (specPick 3 width fd fs) fd)) ∧ w.grownBy wr (some D) ∧ wr.rowIs w.heap.size 3 3 (fun i => .int .i64 i)) (fun jv _ => width - (intOf jv).toNat)
  case atStart => exact ⟨0, by omega, rfl, hD1.congr (fun i _ => by simp [byteV, part]), hg1, ho⟩
  case round =>
    clear ho hg1
    obtain ⟨j, hj, rfl, hrow, hgr, ho⟩ := hrel
    by_cases hjw : j < width
    · obtain ⟨wo, ewo⟩ : ∃ x, x = wr := ⟨_, rfl⟩
      subst ewo
      go_wp2_with fail
      go_loopw [18] (fun tv wr => ∃ t : Nat, t ≤ 3 ∧ tv = .int .i64 t ∧ wr.rowIs D 5 n (byteV (part (j * 3 + t) (specPick 3 width fd fs) fd)) ∧ w.grownBy wr (some D) ∧ wr.rowIs w.heap.size 3 3 (fun i => .int .i64 i)) (fun tv _ => 3 - (intOf tv).toNat)
      case atStart => exact ⟨0, by omega, rfl, hrow, hgr, ho⟩
      case round =>
        clear hrow ho hgr
        obtain ⟨t, ht, rfl, hrow, hgr, ho⟩ := hrel
        by_cases htk : t < 3
        · have sc := grown_cell hgr (hS (4 * j + t) (by omega)) hne
          have dc := hrow.cell (i := j * 3 + t) (by omega)
          have fc := hrow.frozen (j * 3 + t)
          have oc := ho.cell htk
          go_wp2_with fail
          go_roundw
          case rel => exact ⟨t + 1, by omega, by go_num, part_set hrow (pick_mid3 hjw htk), grown_set hgr _ _, ho.setOther (by simp; omega) _⟩
          case measure => simp [intOf]; omega
        · have et : t = 3 := by omega
          subst et
          go_wp2_with fail
          go_roundw
          case rel => exact ⟨j + 1, by omega, by go_num, hrow.congr (fun i _ => by rw [show j * 3 + 3 = (j + 1) * 3 by omega]), hgr, ho⟩
          case measure => simp [intOf]; omega
    · have ej : j = width := by omega
      subst ej
      go_wp2
      go_ret3
      exact ⟨rfl, hrow.congr pick_done3, hgr⟩

end Go.Proofs.Qxb6613510aDoor
