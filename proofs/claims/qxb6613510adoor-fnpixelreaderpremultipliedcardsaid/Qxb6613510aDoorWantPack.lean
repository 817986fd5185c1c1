import Derived.Test.Qxb6613510aDoorPackPlain
namespace Go.Proofs.Qxb6613510aDoor
open Go.RowKit

theorem pack_start {b per n nb j : Nat} {fd fs : Nat → Int} (h : j = nb) : ∀ i, i < n → byteV (part j (fun _ => 0) fd) i = byteV (packRow b per nb fd fs 0) i := by
  intro i _
  subst h
  unfold byteV part packRow
  by_cases h : i < j
  · rw [if_pos h, if_pos h]
    simp [packed, cnt, acc]
  · rw [if_neg h, if_neg h]

theorem small_wrap (k : Nat) (h : k < 256) : wrap64 (k : Int) % 256 = (k : Int) := by
  unfold wrap64
  omega

theorem pack_set {wr : World} {b per D n nb t q x : Nat} {fd fs : Nat → Int} {p v s u : Int} (hb : (b = 2 ∧ per = 8) ∨ (b = 4 ∧ per = 4) ∨ (b = 16 ∧ per = 2)) (ht : t < per) (hx : x = per * q + t) (hq : q < nb)
    (hp : p = packRow b per nb fd fs x q) (hv : s * ((b - 1 : Nat) : Int) / 255 = v) (hs : s = fs (4 * x)) (b0 : 0 ≤ s) (b1 : s ≤ 255) (hbx : ∀ i, i < t → fs (4 * (per * q + i)) ≤ 255) (e : Int) (he : e = ((b ^ (per - (t + 1)) : Nat) : Int)) (hu : u = v * e ∨ u = wrap64 (v * e) % 256)
    (h : wr.rowIs D 5 n (byteV (packRow b per nb fd fs x))) :
    (wr.setCell ⟨D, q, none⟩ (.int .u8 (bits .or .u8 p u))).rowIs D 5 n (byteV (packRow b per nb fd fs (x + 1))) := by
  have hb1 : 1 ≤ b := by omega
  have c0 : cnt per x q = t := by unfold cnt; subst hx; rw [Nat.add_sub_cancel_left]; exact Nat.min_eq_right (by omega)
  have c1 : cnt per (x + 1) q = t + 1 := by unfold cnt; subst hx; rw [show per * q + t + 1 - per * q = t + 1 by omega]; exact Nat.min_eq_right (by omega)
  have ha := acc_bd b fs (per * q) hb1 t hbx
  have hsm := smp_bd b s hb1 b1
  have hor := or_top b per hb t _ _ ht ha hsm
  have hp2 : p = ((acc b fs (per * q) t * b ^ (per - t) : Nat) : Int) := by
    rw [hp]; unfold packRow; rw [if_pos hq]; unfold packed; rw [c0]
  have hv2 : v = ((smp b s : Nat) : Int) := by
    rw [← hv]; unfold smp
    obtain ⟨k, rfl⟩ : ∃ k : Nat, s = (k : Int) := ⟨s.toNat, by omega⟩
    simp
  have hve : v * e = ((smp b s * b ^ (per - (t + 1)) : Nat) : Int) := by rw [hv2, he]; simp
  have hw : u = ((smp b s * b ^ (per - (t + 1)) : Nat) : Int) := by
    rcases hu with rfl | rfl
    · exact hve
    · rw [hve]
      exact small_wrap _ hor.2.2.2
  have hval : bits .or .u8 p u = ((packed b per fs (x + 1) q : Nat) : Int) := by
    rw [hw, hp2, u8_or_nat _ _ hor.2.2.1 hor.2.2.2, hor.1]
    unfold packed
    rw [c1, acc, ← hx, ← hs]
  refine (h.set q _).congr fun i _ => ?_
  by_cases ei : i = q
  · subst ei
    rw [if_pos rfl, hval]
    unfold byteV packRow
    rw [if_pos hq]
  · rw [if_neg ei]
    unfold byteV packRow
    by_cases hi : i < nb
    · rw [if_pos hi, if_pos hi]
      have hc : cnt per (x + 1) i = cnt per x i := by
        unfold cnt
        rcases Nat.lt_or_gt_of_ne ei with h1 | h1
        · have h2 : per * i + per ≤ per * q := by
            have := Nat.mul_le_mul_left per (show i + 1 ≤ q from h1)
            rwa [Nat.mul_add, Nat.mul_one] at this
          rw [Nat.min_eq_left (by omega), Nat.min_eq_left (by omega)]
        · have h2 : per * q + per ≤ per * i := by
            have := Nat.mul_le_mul_left per (show q + 1 ≤ i from h1)
            rwa [Nat.mul_add, Nat.mul_one] at this
          rw [show x + 1 - per * i = 0 by omega, show x - per * i = 0 by omega]
      unfold packed
      rw [hc]
    · rw [if_neg hi, if_neg hi]

set_option maxHeartbeats 2000000 in
theorem wantPack1 (do_ : Option Addr) (dcc D S n m width : Nat) (fd fs : Nat → Int) (w : World) (hn : n ≤ 1048576) (hmm : m ≤ 1048576) (hw1 : width * 4 ≤ m) (hw2 : (width * 1 + 7) / 8 ≤ n) (hne : S ≠ D) (hD : w.rowIs D 5 n (byteV fd)) (hS : ∀ i, i < m → w.cell? ⟨S, i, none⟩ = some (.int .u8 (fs i))) (hb : Byts m fs) :
    Calls Tryd.prog 16 #[.int .i64 width, .int .u8 1, .int .u8 0, .slice do_ n dcc, .slice (some ⟨S, 0, none⟩) m m, .slice (some ⟨D, 0, none⟩) n n] w
      fun e w' => e = .returned (.tuple #[.bool true, .slice (some ⟨D, 0, none⟩) n n, .bool true]) ∧ w'.rowIs D 5 n (byteV (packRow 2 8 ((width * 1 + 7) / 8) fd fs width)) ∧ w.grownBy w' (some D) := by
  have hd1 : decide ((width : Int) < 0) = false := by rw [decide_eq_false_iff_not]; omega
  have hd2 : decide ((m : Int) / 4 < (width : Int)) = false := by rw [decide_eq_false_iff_not]; omega
  go_enter Tryd.func16, Tryd.ntmps16
  go_wp2
  go_loopw [22] (fun jv wr => ∃ j : Nat, j ≤ (width * 1 + 7) / 8 ∧ jv = .int .i64 j ∧ wr.rowIs D 5 n (byteV (part j (fun _ => 0) fd)) ∧ w.grownBy wr (some D)) (fun jv _ => (width * 1 + 7) / 8 - (intOf jv).toNat)
  case atStart => exact ⟨0, by omega, rfl, hD, grown_refl _ _⟩
  case round =>
    obtain ⟨j, hj, rfl, hrow, hgr⟩ := hrel
    by_cases hjn : j < (width * 1 + 7) / 8
    · have dc := hrow.cell (i := j) (by omega)
      have fc := hrow.frozen j
      go_wp2_with fail
      go_roundw
      case rel => exact ⟨j + 1, by omega, by go_num, part_set hrow rfl, grown_set hgr _ _⟩
      case measure => simp [intOf]; omega
    · have ej : j = (width * 1 + 7) / 8 := by omega
      have hrow2 := hrow.congr (pack_start (b := 2) (per := 8) (fs := fs) ej)
      clear hrow
      go_wp2_with fail
      go_loopw [23] (fun xv wr => ∃ x : Nat, x ≤ width ∧ xv = .int .i64 x ∧ wr.rowIs D 5 n (byteV (packRow 2 8 ((width * 1 + 7) / 8) fd fs x)) ∧ w.grownBy wr (some D)) (fun xv _ => width - (intOf xv).toNat)
      case atStart => exact ⟨0, by omega, rfl, hrow2, hgr⟩
      case round =>
        clear hrow2 hgr
        obtain ⟨x, hx, rfl, hrow, hgr⟩ := hrel
        by_cases hxw : x < width
        · have sc := grown_cell hgr (hS (4 * x) (by omega)) hne
          have bs := hb (4 * x) (by omega)
          obtain ⟨s, hs⟩ : ∃ s, s = fs (4 * x) := ⟨_, rfl⟩
          rw [← hs] at sc bs
          have HS : Hid (s = fs (4 * x)) := hs
          clear hs
          obtain ⟨bs0, bs1⟩ := bs
          go_wp2_with fail
          have hq : x / 8 < (width * 1 + 7) / 8 := by omega
          have hbx : True := trivial
          have dc : wr.cell? ⟨D, x / 8, none⟩ = some (.int .u8 (packRow 2 8 ((width * 1 + 7) / 8) fd fs x (x / 8))) := hrow.cell (by omega)
          have fc := hrow.frozen (x / 8)
          obtain ⟨p, hp⟩ : ∃ p, p = packRow 2 8 ((width * 1 + 7) / 8) fd fs x (x / 8) := ⟨_, rfl⟩
          rw [← hp] at dc
          have HP : Hid (p = packRow 2 8 ((width * 1 + 7) / 8) fd fs x (x / 8)) := hp
          clear hp
          have hi0 : (0 : Int) ≤ (x : Int) / 8 := by omega
          have hi1 : (x : Int) / 8 < (n : Int) := by omega
          obtain hr | hr | hr | hr | hr | hr | hr | hr : x % 8 = 0 ∨ x % 8 = 1 ∨ x % 8 = 2 ∨ x % 8 = 3 ∨ x % 8 = 4 ∨ x % 8 = 5 ∨ x % 8 = 6 ∨ x % 8 = 7 := by omega
          · clear hbx
            have HX : Hid (x = 8 * (x / 8) + 0) := (by omega : x = 8 * (x / 8) + 0)
            have HV : Hid (s * 1 / 255 = s / 255) := (by omega : s * 1 / 255 = s / 255)
            have hbx : Hid (∀ i, i < 0 → fs (4 * (8 * (x / 8) + i)) ≤ 255) := fun i hi => (hb _ (by omega)).2
            have hr2 : (x : Int) % 8 = 0 := by omega
            clear hr
            go_region
            go_wp2
            go_roundw
            case rel => exact ⟨x + 1, by omega, by go_num, pack_set (b := 2) (per := 8) (t := 0) (q := x / 8) (by omega) (by omega) HX.out hq HP.out HV.out HS.out bs0 bs1 hbx.out 128 rfl (by first | exact .inl rfl | exact .inr rfl | exact .inl (Int.mul_one _).symm | exact .inr (by rw [Int.mul_one])) hrow, grown_drewN (grown_set hgr _ _) 1⟩
            case measure => simp [intOf]; omega
          · clear hbx
            have HX : Hid (x = 8 * (x / 8) + 1) := (by omega : x = 8 * (x / 8) + 1)
            have HV : Hid (s * 1 / 255 = s / 255) := (by omega : s * 1 / 255 = s / 255)
            have hbx : Hid (∀ i, i < 1 → fs (4 * (8 * (x / 8) + i)) ≤ 255) := fun i hi => (hb _ (by omega)).2
            have hr2 : (x : Int) % 8 = 1 := by omega
            clear hr
            go_region
            go_wp2
            go_roundw
            case rel => exact ⟨x + 1, by omega, by go_num, pack_set (b := 2) (per := 8) (t := 1) (q := x / 8) (by omega) (by omega) HX.out hq HP.out HV.out HS.out bs0 bs1 hbx.out 64 rfl (by first | exact .inl rfl | exact .inr rfl | exact .inl (Int.mul_one _).symm | exact .inr (by rw [Int.mul_one])) hrow, grown_drewN (grown_set hgr _ _) 1⟩
            case measure => simp [intOf]; omega
          · clear hbx
            have HX : Hid (x = 8 * (x / 8) + 2) := (by omega : x = 8 * (x / 8) + 2)
            have HV : Hid (s * 1 / 255 = s / 255) := (by omega : s * 1 / 255 = s / 255)
            have hbx : Hid (∀ i, i < 2 → fs (4 * (8 * (x / 8) + i)) ≤ 255) := fun i hi => (hb _ (by omega)).2
            have hr2 : (x : Int) % 8 = 2 := by omega
            clear hr
            go_region
            go_wp2
            go_roundw
            case rel => exact ⟨x + 1, by omega, by go_num, pack_set (b := 2) (per := 8) (t := 2) (q := x / 8) (by omega) (by omega) HX.out hq HP.out HV.out HS.out bs0 bs1 hbx.out 32 rfl (by first | exact .inl rfl | exact .inr rfl | exact .inl (Int.mul_one _).symm | exact .inr (by rw [Int.mul_one])) hrow, grown_drewN (grown_set hgr _ _) 1⟩
            case measure => simp [intOf]; omega
          · clear hbx
            have HX : Hid (x = 8 * (x / 8) + 3) := (by omega : x = 8 * (x / 8) + 3)
            have HV : Hid (s * 1 / 255 = s / 255) := (by omega : s * 1 / 255 = s / 255)
            have hbx : Hid (∀ i, i < 3 → fs (4 * (8 * (x / 8) + i)) ≤ 255) := fun i hi => (hb _ (by omega)).2
            have hr2 : (x : Int) % 8 = 3 := by omega
            clear hr
            go_region
            go_wp2
            go_roundw
            case rel => exact ⟨x + 1, by omega, by go_num, pack_set (b := 2) (per := 8) (t := 3) (q := x / 8) (by omega) (by omega) HX.out hq HP.out HV.out HS.out bs0 bs1 hbx.out 16 rfl (by first | exact .inl rfl | exact .inr rfl | exact .inl (Int.mul_one _).symm | exact .inr (by rw [Int.mul_one])) hrow, grown_drewN (grown_set hgr _ _) 1⟩
            case measure => simp [intOf]; omega
          · clear hbx
            have HX : Hid (x = 8 * (x / 8) + 4) := (by omega : x = 8 * (x / 8) + 4)
            have HV : Hid (s * 1 / 255 = s / 255) := (by omega : s * 1 / 255 = s / 255)
            have hbx : Hid (∀ i, i < 4 → fs (4 * (8 * (x / 8) + i)) ≤ 255) := fun i hi => (hb _ (by omega)).2
            have hr2 : (x : Int) % 8 = 4 := by omega
            clear hr
            go_region
            go_wp2
            go_roundw
            case rel => exact ⟨x + 1, by omega, by go_num, pack_set (b := 2) (per := 8) (t := 4) (q := x / 8) (by omega) (by omega) HX.out hq HP.out HV.out HS.out bs0 bs1 hbx.out 8 rfl (by first | exact .inl rfl | exact .inr rfl | exact .inl (Int.mul_one _).symm | exact .inr (by rw [Int.mul_one])) hrow, grown_drewN (grown_set hgr _ _) 1⟩
            case measure => simp [intOf]; omega
          · clear hbx
            have HX : Hid (x = 8 * (x / 8) + 5) := (by omega : x = 8 * (x / 8) + 5)
            have HV : Hid (s * 1 / 255 = s / 255) := (by omega : s * 1 / 255 = s / 255)
            have hbx : Hid (∀ i, i < 5 → fs (4 * (8 * (x / 8) + i)) ≤ 255) := fun i hi => (hb _ (by omega)).2
            have hr2 : (x : Int) % 8 = 5 := by omega
            clear hr
            go_region
            go_wp2
            go_roundw
            case rel => exact ⟨x + 1, by omega, by go_num, pack_set (b := 2) (per := 8) (t := 5) (q := x / 8) (by omega) (by omega) HX.out hq HP.out HV.out HS.out bs0 bs1 hbx.out 4 rfl (by first | exact .inl rfl | exact .inr rfl | exact .inl (Int.mul_one _).symm | exact .inr (by rw [Int.mul_one])) hrow, grown_drewN (grown_set hgr _ _) 1⟩
            case measure => simp [intOf]; omega
          · clear hbx
            have HX : Hid (x = 8 * (x / 8) + 6) := (by omega : x = 8 * (x / 8) + 6)
            have HV : Hid (s * 1 / 255 = s / 255) := (by omega : s * 1 / 255 = s / 255)
            have hbx : Hid (∀ i, i < 6 → fs (4 * (8 * (x / 8) + i)) ≤ 255) := fun i hi => (hb _ (by omega)).2
            have hr2 : (x : Int) % 8 = 6 := by omega
            clear hr
            go_region
            go_wp2
            go_roundw
            case rel => exact ⟨x + 1, by omega, by go_num, pack_set (b := 2) (per := 8) (t := 6) (q := x / 8) (by omega) (by omega) HX.out hq HP.out HV.out HS.out bs0 bs1 hbx.out 2 rfl (by first | exact .inl rfl | exact .inr rfl | exact .inl (Int.mul_one _).symm | exact .inr (by rw [Int.mul_one])) hrow, grown_drewN (grown_set hgr _ _) 1⟩
            case measure => simp [intOf]; omega
          · clear hbx
            have HX : Hid (x = 8 * (x / 8) + 7) := (by omega : x = 8 * (x / 8) + 7)
            have HV : Hid (s * 1 / 255 = s / 255) := (by omega : s * 1 / 255 = s / 255)
            have hbx : Hid (∀ i, i < 7 → fs (4 * (8 * (x / 8) + i)) ≤ 255) := fun i hi => (hb _ (by omega)).2
            have hr2 : (x : Int) % 8 = 7 := by omega
            clear hr
            go_region
            go_wp2
            go_roundw
            case rel => exact ⟨x + 1, by omega, by go_num, pack_set (b := 2) (per := 8) (t := 7) (q := x / 8) (by omega) (by omega) HX.out hq HP.out HV.out HS.out bs0 bs1 hbx.out 1 rfl (by first | exact .inl rfl | exact .inr rfl | exact .inl (Int.mul_one _).symm | exact .inr (by rw [Int.mul_one])) hrow, grown_drewN (grown_set hgr _ _) 1⟩
            case measure => simp [intOf]; omega

        · have ex : x = width := by omega
          subst ex
          go_wp2
          go_ret3
          exact ⟨rfl, hrow, hgr⟩

set_option maxHeartbeats 800000 in
theorem wantPack2 (do_ : Option Addr) (dcc D S n m width : Nat) (fd fs : Nat → Int) (w : World) (hn : n ≤ 1048576) (hmm : m ≤ 1048576) (hw1 : width * 4 ≤ m) (hw2 : (width * 2 + 7) / 8 ≤ n) (hne : S ≠ D) (hD : w.rowIs D 5 n (byteV fd)) (hS : ∀ i, i < m → w.cell? ⟨S, i, none⟩ = some (.int .u8 (fs i))) (hb : Byts m fs) :
    Calls Tryd.prog 16 #[.int .i64 width, .int .u8 2, .int .u8 0, .slice do_ n dcc, .slice (some ⟨S, 0, none⟩) m m, .slice (some ⟨D, 0, none⟩) n n] w
      fun e w' => e = .returned (.tuple #[.bool true, .slice (some ⟨D, 0, none⟩) n n, .bool true]) ∧ w'.rowIs D 5 n (byteV (packRow 4 4 ((width * 2 + 7) / 8) fd fs width)) ∧ w.grownBy w' (some D) := by
  have hd1 : decide ((width : Int) < 0) = false := by rw [decide_eq_false_iff_not]; omega
  have hd2 : decide ((m : Int) / 4 < (width : Int)) = false := by rw [decide_eq_false_iff_not]; omega
  go_enter Tryd.func16, Tryd.ntmps16
  go_wp2
  go_loopw [22] (fun jv wr => ∃ j : Nat, j ≤ (width * 2 + 7) / 8 ∧ jv = .int .i64 j ∧ wr.rowIs D 5 n (byteV (part j (fun _ => 0) fd)) ∧ w.grownBy wr (some D)) (fun jv _ => (width * 2 + 7) / 8 - (intOf jv).toNat)
  case atStart => exact ⟨0, by omega, rfl, hD, grown_refl _ _⟩
  case round =>
    obtain ⟨j, hj, rfl, hrow, hgr⟩ := hrel
    by_cases hjn : j < (width * 2 + 7) / 8
    · have dc := hrow.cell (i := j) (by omega)
      have fc := hrow.frozen j
      go_wp2_with fail
      go_roundw
      case rel => exact ⟨j + 1, by omega, by go_num, part_set hrow rfl, grown_set hgr _ _⟩
      case measure => simp [intOf]; omega
    · have ej : j = (width * 2 + 7) / 8 := by omega
      have hrow2 := hrow.congr (pack_start (b := 4) (per := 4) (fs := fs) ej)
      clear hrow
      go_wp2_with fail
      go_loopw [23] (fun xv wr => ∃ x : Nat, x ≤ width ∧ xv = .int .i64 x ∧ wr.rowIs D 5 n (byteV (packRow 4 4 ((width * 2 + 7) / 8) fd fs x)) ∧ w.grownBy wr (some D)) (fun xv _ => width - (intOf xv).toNat)
      case atStart => exact ⟨0, by omega, rfl, hrow2, hgr⟩
      case round =>
        clear hrow2 hgr
        obtain ⟨x, hx, rfl, hrow, hgr⟩ := hrel
        by_cases hxw : x < width
        · have sc := grown_cell hgr (hS (4 * x) (by omega)) hne
          have bs := hb (4 * x) (by omega)
          obtain ⟨s, hs⟩ : ∃ s, s = fs (4 * x) := ⟨_, rfl⟩
          rw [← hs] at sc bs
          have HS : Hid (s = fs (4 * x)) := hs
          clear hs
          obtain ⟨bs0, bs1⟩ := bs
          go_wp2_with fail
          obtain ⟨q, t, hxq, ht⟩ : ∃ q t, x = 4 * q + t ∧ t < 4 := ⟨x / 4, x % 4, by omega, by omega⟩
          have hq : q < (width * 2 + 7) / 8 := by omega
          have hbx : ∀ i, i < t → fs (4 * (4 * q + i)) ≤ 255 := fun i hi => (hb _ (by omega)).2
          have dc : wr.cell? ⟨D, q, none⟩ = some (.int .u8 (packRow 4 4 ((width * 2 + 7) / 8) fd fs x q)) := hrow.cell (by omega)
          have fc := hrow.frozen q
          obtain ⟨p, hp⟩ : ∃ p, p = packRow 4 4 ((width * 2 + 7) / 8) fd fs x q := ⟨_, rfl⟩
          rw [← hp] at dc
          have HP : Hid (p = packRow 4 4 ((width * 2 + 7) / 8) fd fs x q) := hp
          clear hp
          generalize hbit : (x : Int) * 2 = bit
          generalize hv : s * 3 / 255 = v
          have hqq : bit.tdiv 8 = (q : Int) := by rw [Int.tdiv_eq_ediv_of_nonneg (by omega)]; omega
          have hi0 : (0 : Int) ≤ (q : Int) := by omega
          have hi1 : (q : Int) < (n : Int) := by omega
          obtain rfl | rfl | rfl | rfl : t = 0 ∨ t = 1 ∨ t = 2 ∨ t = 3 := by omega
          · have hr : bit.tmod 8 = 0 := by rw [Int.tmod_eq_emod_of_nonneg (by omega)]; omega
            have HX : Hid (x = 4 * q + 0) := hxq
            have HV : Hid (s * 3 / 255 = v) := hv
            clear hbit hv hxq
            go_region
            go_wp2
            go_roundw
            case rel => exact ⟨x + 1, by omega, by go_num, pack_set (b := 4) (per := 4) (t := 0) (q := q) (by omega) (by omega) HX.out hq HP.out HV.out HS.out bs0 bs1 hbx 64 rfl (by first | exact .inl rfl | exact .inr rfl | exact .inl (Int.mul_one _).symm | exact .inr (by rw [Int.mul_one])) hrow, grown_drewN (grown_set hgr _ _) 1⟩
            case measure => simp [intOf]; omega
          · have hr : bit.tmod 8 = 2 := by rw [Int.tmod_eq_emod_of_nonneg (by omega)]; omega
            have HX : Hid (x = 4 * q + 1) := hxq
            have HV : Hid (s * 3 / 255 = v) := hv
            clear hbit hv hxq
            go_region
            go_wp2
            go_roundw
            case rel => exact ⟨x + 1, by omega, by go_num, pack_set (b := 4) (per := 4) (t := 1) (q := q) (by omega) (by omega) HX.out hq HP.out HV.out HS.out bs0 bs1 hbx 16 rfl (by first | exact .inl rfl | exact .inr rfl | exact .inl (Int.mul_one _).symm | exact .inr (by rw [Int.mul_one])) hrow, grown_drewN (grown_set hgr _ _) 1⟩
            case measure => simp [intOf]; omega
          · have hr : bit.tmod 8 = 4 := by rw [Int.tmod_eq_emod_of_nonneg (by omega)]; omega
            have HX : Hid (x = 4 * q + 2) := hxq
            have HV : Hid (s * 3 / 255 = v) := hv
            clear hbit hv hxq
            go_region
            go_wp2
            go_roundw
            case rel => exact ⟨x + 1, by omega, by go_num, pack_set (b := 4) (per := 4) (t := 2) (q := q) (by omega) (by omega) HX.out hq HP.out HV.out HS.out bs0 bs1 hbx 4 rfl (by first | exact .inl rfl | exact .inr rfl | exact .inl (Int.mul_one _).symm | exact .inr (by rw [Int.mul_one])) hrow, grown_drewN (grown_set hgr _ _) 1⟩
            case measure => simp [intOf]; omega
          · have hr : bit.tmod 8 = 6 := by rw [Int.tmod_eq_emod_of_nonneg (by omega)]; omega
            have HX : Hid (x = 4 * q + 3) := hxq
            have HV : Hid (s * 3 / 255 = v) := hv
            clear hbit hv hxq
            go_region
            go_wp2
            go_roundw
            case rel => exact ⟨x + 1, by omega, by go_num, pack_set (b := 4) (per := 4) (t := 3) (q := q) (by omega) (by omega) HX.out hq HP.out HV.out HS.out bs0 bs1 hbx 1 rfl (by first | exact .inl rfl | exact .inr rfl | exact .inl (Int.mul_one _).symm | exact .inr (by rw [Int.mul_one])) hrow, grown_drewN (grown_set hgr _ _) 1⟩
            case measure => simp [intOf]; omega

        · have ex : x = width := by omega
          subst ex
          go_wp2
          go_ret3
          exact ⟨rfl, hrow, hgr⟩

set_option maxHeartbeats 400000 in
theorem wantPack4 (do_ : Option Addr) (dcc D S n m width : Nat) (fd fs : Nat → Int) (w : World) (hn : n ≤ 1048576) (hmm : m ≤ 1048576) (hw1 : width * 4 ≤ m) (hw2 : (width * 4 + 7) / 8 ≤ n) (hne : S ≠ D) (hD : w.rowIs D 5 n (byteV fd)) (hS : ∀ i, i < m → w.cell? ⟨S, i, none⟩ = some (.int .u8 (fs i))) (hb : Byts m fs) :
    Calls Tryd.prog 16 #[.int .i64 width, .int .u8 4, .int .u8 0, .slice do_ n dcc, .slice (some ⟨S, 0, none⟩) m m, .slice (some ⟨D, 0, none⟩) n n] w
      fun e w' => e = .returned (.tuple #[.bool true, .slice (some ⟨D, 0, none⟩) n n, .bool true]) ∧ w'.rowIs D 5 n (byteV (packRow 16 2 ((width * 4 + 7) / 8) fd fs width)) ∧ w.grownBy w' (some D) := by
  have hd1 : decide ((width : Int) < 0) = false := by rw [decide_eq_false_iff_not]; omega
  have hd2 : decide ((m : Int) / 4 < (width : Int)) = false := by rw [decide_eq_false_iff_not]; omega
  go_enter Tryd.func16, Tryd.ntmps16
  go_wp2
  go_loopw [22] (fun jv wr => ∃ j : Nat, j ≤ (width * 4 + 7) / 8 ∧ jv = .int .i64 j ∧ wr.rowIs D 5 n (byteV (part j (fun _ => 0) fd)) ∧ w.grownBy wr (some D)) (fun jv _ => (width * 4 + 7) / 8 - (intOf jv).toNat)
  case atStart => exact ⟨0, by omega, rfl, hD, grown_refl _ _⟩
  case round =>
    obtain ⟨j, hj, rfl, hrow, hgr⟩ := hrel
    by_cases hjn : j < (width * 4 + 7) / 8
    · have dc := hrow.cell (i := j) (by omega)
      have fc := hrow.frozen j
      go_wp2_with fail
      go_roundw
      case rel => exact ⟨j + 1, by omega, by go_num, part_set hrow rfl, grown_set hgr _ _⟩
      case measure => simp [intOf]; omega
    · have ej : j = (width * 4 + 7) / 8 := by omega
      have hrow2 := hrow.congr (pack_start (b := 16) (per := 2) (fs := fs) ej)
      clear hrow
      go_wp2_with fail
      go_loopw [23] (fun xv wr => ∃ x : Nat, x ≤ width ∧ xv = .int .i64 x ∧ wr.rowIs D 5 n (byteV (packRow 16 2 ((width * 4 + 7) / 8) fd fs x)) ∧ w.grownBy wr (some D)) (fun xv _ => width - (intOf xv).toNat)
      case atStart => exact ⟨0, by omega, rfl, hrow2, hgr⟩
      case round =>
        clear hrow2 hgr
        obtain ⟨x, hx, rfl, hrow, hgr⟩ := hrel
        by_cases hxw : x < width
        · have sc := grown_cell hgr (hS (4 * x) (by omega)) hne
          have bs := hb (4 * x) (by omega)
          obtain ⟨s, hs⟩ : ∃ s, s = fs (4 * x) := ⟨_, rfl⟩
          rw [← hs] at sc bs
          have HS : Hid (s = fs (4 * x)) := hs
          clear hs
          obtain ⟨bs0, bs1⟩ := bs
          go_wp2_with fail
          obtain ⟨q, t, hxq, ht⟩ : ∃ q t, x = 2 * q + t ∧ t < 2 := ⟨x / 2, x % 2, by omega, by omega⟩
          have hq : q < (width * 4 + 7) / 8 := by omega
          have hbx : ∀ i, i < t → fs (4 * (2 * q + i)) ≤ 255 := fun i hi => (hb _ (by omega)).2
          have dc : wr.cell? ⟨D, q, none⟩ = some (.int .u8 (packRow 16 2 ((width * 4 + 7) / 8) fd fs x q)) := hrow.cell (by omega)
          have fc := hrow.frozen q
          obtain ⟨p, hp⟩ : ∃ p, p = packRow 16 2 ((width * 4 + 7) / 8) fd fs x q := ⟨_, rfl⟩
          rw [← hp] at dc
          have HP : Hid (p = packRow 16 2 ((width * 4 + 7) / 8) fd fs x q) := hp
          clear hp
          generalize hbit : (x : Int) * 4 = bit
          generalize hv : s * 15 / 255 = v
          have hqq : bit.tdiv 8 = (q : Int) := by rw [Int.tdiv_eq_ediv_of_nonneg (by omega)]; omega
          have hi0 : (0 : Int) ≤ (q : Int) := by omega
          have hi1 : (q : Int) < (n : Int) := by omega
          obtain rfl | rfl : t = 0 ∨ t = 1 := by omega
          · have hr : bit.tmod 8 = 0 := by rw [Int.tmod_eq_emod_of_nonneg (by omega)]; omega
            have HX : Hid (x = 2 * q + 0) := hxq
            have HV : Hid (s * 15 / 255 = v) := hv
            clear hbit hv hxq
            go_region
            go_wp2
            go_roundw
            case rel => exact ⟨x + 1, by omega, by go_num, pack_set (b := 16) (per := 2) (t := 0) (q := q) (by omega) (by omega) HX.out hq HP.out HV.out HS.out bs0 bs1 hbx 16 rfl (by first | exact .inl rfl | exact .inr rfl | exact .inl (Int.mul_one _).symm | exact .inr (by rw [Int.mul_one])) hrow, grown_drewN (grown_set hgr _ _) 1⟩
            case measure => simp [intOf]; omega
          · have hr : bit.tmod 8 = 4 := by rw [Int.tmod_eq_emod_of_nonneg (by omega)]; omega
            have HX : Hid (x = 2 * q + 1) := hxq
            have HV : Hid (s * 15 / 255 = v) := hv
            clear hbit hv hxq
            go_region
            go_wp2
            go_roundw
            case rel => exact ⟨x + 1, by omega, by go_num, pack_set (b := 16) (per := 2) (t := 1) (q := q) (by omega) (by omega) HX.out hq HP.out HV.out HS.out bs0 bs1 hbx 1 rfl (by first | exact .inl rfl | exact .inr rfl | exact .inl (Int.mul_one _).symm | exact .inr (by rw [Int.mul_one])) hrow, grown_drewN (grown_set hgr _ _) 1⟩
            case measure => simp [intOf]; omega

        · have ex : x = width := by omega
          subst ex
          go_wp2
          go_ret3
          exact ⟨rfl, hrow, hgr⟩

end Go.Proofs.Qxb6613510aDoor
