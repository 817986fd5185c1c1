import Derived.Test.Qxb6613510aDoorLE
import Derived.Deep.RegionHeld3
import Derived.Deep.DrawnRows
import Derived.Deep.DeepCutAuto
namespace Go.Proofs.Qxb6613510aDoor
open Go.RowKit
set_option linter.unusedVariables false
attribute [local go_sem ↓] Go.wp_at_zero Go.wp_at_succ

/-- A cut of a row: where it has an element it begins at its place. -/
def CutAt (v : Value) (D o l c : Nat) : Prop := ∃ ad, v = .slice (some ad) l c ∧ (0 < l → ad = ⟨D, o, none⟩)

theorem specPick_bd {m width q : Nat} {fd fs : Nat → Int} (hb : Byts m fs) (h1 : width * 4 ≤ m) (hq : 4 * q + 4 ≤ width) : ∀ i, 12 * q ≤ i → i < 12 * q + 12 → 0 ≤ specPick 3 width fd fs i ∧ specPick 3 width fd fs i ≤ 255 := by
  intro i h2 h3
  unfold specPick
  rw [if_pos (by omega)]
  exact hb _ (by omega)

theorem cut_next {D o l c k : Nat} (h : l ≤ c) : CutAt (.slice (if c = k then some ⟨D, o, none⟩ else some ⟨D, o + k, none⟩) (l - k) (c - k)) D (o + k) (l - k) (c - k) := by
  by_cases e : c = k
  · rw [if_pos e]
    exact ⟨_, rfl, fun h2 => absurd h2 (by omega)⟩
  · rw [if_neg e]
    exact ⟨_, rfl, fun _ => rfl⟩

def lenOf : Value → Nat | .slice _ n _ => n | _ => 0

theorem fill3_set {wr : World} {D n t width : Nat} {fd fs : Nat → Int} (h : wr.rowIs D 5 n (byteV (part (3 * t) (specPick 3 width fd fs) fd))) (ht : t < width) :
    (((wr.setCell ⟨D, 3 * t, none⟩ (.int .u8 (fs (4 * t)))).setCell ⟨D, 3 * t + 1, none⟩ (.int .u8 (fs (4 * t + 1)))).setCell ⟨D, 3 * t + 2, none⟩ (.int .u8 (fs (4 * t + 2)))).rowIs D 5 n (byteV (part (3 * t + 3) (specPick 3 width fd fs) fd)) := by
  have e : ∀ i, i < 3 → fs (4 * t + i) = specPick 3 width fd fs (3 * t + i) := by
    intro i hi
    unfold specPick
    rw [if_pos (by omega)]
    congr 1
    omega
  exact part_set (part_set (part_set h (e 0 (by omega))) (e 1 (by omega))) (e 2 (by omega))

set_option maxHeartbeats 4000000 in
theorem fill3_many (D S Wb n m width : Nat) (fd fs : Nat → Int) (w : World) (hn : n ≤ 1048576) (hmm : m ≤ 1048576) (hp : 0 < width) (h1 : width * 4 ≤ m) (h2 : width * 3 ≤ n) (hne : S ≠ D) (hWD : Wb ≠ D) (hD : w.rowIs D 5 n (byteV fd)) (hS : w.rowIs S 5 m (byteV fs)) (hb : Byts m fs) (hW : w.cell? ⟨Wb, 0, none⟩ = some (.int .i64 width)) :
    Calls Tryd.prog 30 #[.slice (some ⟨D, 0, none⟩) n n, .slice (some ⟨S, 0, none⟩) m m, .pointer (some ⟨Wb, 0, none⟩)] w fun e w' => e = .returned (.tuple #[]) ∧ w'.rowIs D 5 n (byteV (specPick 3 width fd fs)) ∧ w.grownBy w' (some D) := by
  have i0 : (0 : Int) ≤ 3 * (width : Int) := by omega
  have i1 : 3 * (width : Int) ≤ (n : Int) := by omega
  have i2 : (0 : Int) ≤ 4 * (width : Int) := by omega
  have i3 : 4 * (width : Int) ≤ (m : Int) := by omega
  have j0 : IntKind.i64.wrap (3 * (width : Int)) = 3 * (width : Int) := by rw [IntKind.wrap_i64]; omega
  have j1 : IntKind.i64.wrap (4 * (width : Int)) = 4 * (width : Int) := by rw [IntKind.wrap_i64]; omega
  have j2 : (3 * (width : Int)).toNat = 3 * width := by omega
  have j3 : (4 * (width : Int)).toNat = 4 * width := by omega
  go_enter Tryd.func30, Tryd.ntmps30
  go_wp2_with fail
  go_quiet (fail)
  go_wp2_with fail
  go_loopw [5, 6] (fun dv sv wr => ∃ (q ld cd ls cs : Nat), ld + 12 * q = 3 * width ∧ cd + 12 * q = n ∧ ls + 16 * q = 4 * width ∧ cs + 16 * q = m ∧ CutAt dv D (12 * q) ld cd ∧ CutAt sv S (16 * q) ls cs ∧ wr.rowIs D 5 n (byteV (part (12 * q) (specPick 3 width fd fs) fd)) ∧ w.grownBy wr (some D)) (fun dv _ _ => lenOf dv)
  case atStart => exact ⟨0, 3 * width, n, 4 * width, m, by omega, by omega, by omega, by omega, ⟨_, rfl, fun _ => rfl⟩, ⟨_, rfl, fun _ => rfl⟩, hD, grown_drewN (grown_refl _ _) _⟩
  case round =>
    obtain ⟨q, ld, cd, ls, cs, e1, e2, e3, e4, ⟨ad, rfl, had⟩, ⟨sd, rfl, hsd⟩, hrow, hgr⟩ := hrel
    by_cases hq : 12 ≤ ld
    · obtain rfl := had (by omega)
      obtain rfl := hsd (by omega)
      have hSr := grown_row hgr hS hne
      have hSd : wr.drew.rowIs S 5 m (byteV fs) := hSr
      have k0 : (4 : Int) ≤ (ls : Int) := by omega
      have k1 : (16 : Int) ≤ (ls : Int) := by omega
      have k2 : (12 : Int) ≤ (ld : Int) := by omega
      have k3 : (ls : Int) ≤ (cs : Int) := by omega
      have n4 : ¬ cs = 4 := by omega
      have n8 : ¬ cs = 8 := by omega
      have n12 : ¬ cs = 12 := by omega
      have m4 : ¬ cd = 4 := by omega
      have m8 : ¬ cd = 8 := by omega
      have k4 : (ld : Int) ≤ (cd : Int) := by omega
      have hg0 : wr.grownBy wr.drew none := ⟨rfl, rfl, rfl, Nat.le_refl _, fun _ _ _ => rfl⟩
      go_wp2_with fail
      go_cut [7, 8] (fun p0 p1 w' => p0 = .int .u32 (le4 fs (16 * q)) ∧ p1 = .int .u32 (le4 fs (16 * q + 4)) ∧ wr.grownBy w' none ∧ w'.rowIs S 5 m (byteV fs))
      case first =>
        go_region_with (first | (go_at_call 31; refine (le_get_from wr S m fs hb _ _ _ _ (by omega) (by omega) (by assumption) (by assumption)).mono ?_; rintro e w1 ⟨rfl, hS1, hg1⟩))
        all_goals
          go_wp2
          go_meet
          case rel => exact ⟨rfl, rfl, hg1, hS1⟩
      case rest =>
        clear hSr hSd hg0
        obtain ⟨rfl, rfl, hg1, hS1⟩ := hcut
        have hSd : wc.drew.rowIs S 5 m (byteV fs) := hS1
        have hg0 : wr.grownBy wc.drew none := grown_none_trans hg1 ⟨rfl, rfl, rfl, Nat.le_refl _, fun _ _ _ => rfl⟩
        obtain ⟨p0, hp0⟩ : ∃ p, p = le4 fs (16 * q) := ⟨_, rfl⟩
        obtain ⟨p1, hp1⟩ : ∃ p, p = le4 fs (16 * q + 4) := ⟨_, rfl⟩
        rw [← hp0, ← hp1]
        have HP0 : Hid (p0 = le4 fs (16 * q)) := hp0
        have HP1 : Hid (p1 = le4 fs (16 * q + 4)) := hp1
        obtain ⟨bp0, bq0⟩ : 0 ≤ p0 ∧ p0 < 4294967296 := by rw [hp0]; exact le4_bd m fs _ hb (by omega)
        obtain ⟨bp1, bq1⟩ : 0 ≤ p1 ∧ p1 < 4294967296 := by rw [hp1]; exact le4_bd m fs _ hb (by omega)
        clear hp0 hp1 hg1 hS1
        go_wp2_with fail
        go_cut [9, 10] (fun p2 p3 w' => p2 = .int .u32 (le4 fs (16 * q + 8)) ∧ p3 = .int .u32 (le4 fs (16 * q + 12)) ∧ wr.grownBy w' none ∧ w'.rowIs S 5 m (byteV fs))
        case first =>
          go_region_with (first | (go_at_call 31; refine (le_get_from wr S m fs hb _ _ _ _ (by omega) (by omega) (by assumption) (by assumption)).mono ?_; rintro e w1 ⟨rfl, hS1, hg1⟩))
          all_goals
            go_wp2
            go_meet
            case rel => exact ⟨rfl, rfl, hg1, hS1⟩
        case rest =>
          clear hSd hg0
          obtain ⟨rfl, rfl, hg1, hS1⟩ := hcut
          obtain ⟨p2, hp2⟩ : ∃ p, p = le4 fs (16 * q + 8) := ⟨_, rfl⟩
          obtain ⟨p3, hp3⟩ : ∃ p, p = le4 fs (16 * q + 12) := ⟨_, rfl⟩
          rw [← hp2, ← hp3]
          have HP2 : Hid (p2 = le4 fs (16 * q + 8)) := hp2
          have HP3 : Hid (p3 = le4 fs (16 * q + 12)) := hp3
          obtain ⟨bp2, bq2⟩ : 0 ≤ p2 ∧ p2 < 4294967296 := by rw [hp2]; exact le4_bd m fs _ hb (by omega)
          obtain ⟨bp3, bq3⟩ : 0 ≤ p3 ∧ p3 < 4294967296 := by rw [hp3]; exact le4_bd m fs _ hb (by omega)
          have hp0 := HP0.out
          have hp1 := HP1.out
          have hwd := words3 m width q fd fs hb h1 (by omega)
          rw [← hp0, ← hp1, ← hp2, ← hp3] at hwd
          obtain ⟨W1, W2, W3⟩ := hwd
          have HW1 : Hid _ := W1
          have HW2 : Hid _ := W2
          have HW3 : Hid _ := W3
          clear hp2 hp3 hp0 hp1 W1 W2 W3 HP0 HP1 HP2 HP3
          have hgs := specPick_bd (fd := fd) hb h1 (q := q) (by omega)
          have hrow1 := hrow.of_block (hg1.block D hrow.lt (by simp))
          have hgr1 := grown_trans hgr (grown_any hg1 (some D))
          clear hrow hgr hg1 hS1
          go_wp2_with fail
          refine (le_put_part w D n (specPick 3 width fd fs) fd _ _ _ _ _ (by omega) (by omega) (fun i a b => hgs i (by omega) (by omega)) HW1.out hrow1 hgr1).mono ?_
          rintro e w4 ⟨rfl, hrow4, hgr4⟩
          clear hrow1 hgr1 HW1
          have hrow4d : w4.drew.rowIs D 5 n (byteV (part (12 * q + 4) (specPick 3 width fd fs) fd)) := hrow4
          have hgr4d : w.grownBy w4.drew (some D) := grown_drewN hgr4 1
          clear hrow4 hgr4
          go_wp2_with fail
          go_cut [] (fun w' => w'.rowIs D 5 n (byteV (part (12 * q + 8) (specPick 3 width fd fs) fd)) ∧ w.grownBy w' (some D))
          case first =>
            go_region_with (first | (go_at_call 32; refine (le_put_part w D n (specPick 3 width fd fs) fd _ _ _ _ _ (by omega) (by omega) (fun i a b => hgs i (by omega) (by omega)) (by exact HW2.out) hrow4d hgr4d).mono ?_; rintro e w5 ⟨rfl, hrow5, hgr5⟩))
            all_goals
              go_wp2
              go_meet
              case rel => exact ⟨hrow5, hgr5⟩
          case rest =>
            clear hrow4d hgr4d HW2
            obtain ⟨hrow5, hgr5⟩ := hcut
            have hrow5d : wc.drew.rowIs D 5 n (byteV (part (12 * q + 8) (specPick 3 width fd fs) fd)) := hrow5
            have hgr5d : w.grownBy wc.drew (some D) := grown_drewN hgr5 1
            clear hrow5 hgr5
            go_wp2_with fail
            go_cut [] (fun w' => w'.rowIs D 5 n (byteV (part (12 * q + 12) (specPick 3 width fd fs) fd)) ∧ w.grownBy w' (some D))
            case first =>
              go_region_with (first | (go_at_call 32; refine (le_put_part w D n (specPick 3 width fd fs) fd _ _ _ _ _ (by omega) (by omega) (fun i a b => hgs i (by omega) (by omega)) (by exact HW3.out) hrow5d hgr5d).mono ?_; rintro e w6 ⟨rfl, hrow6, hgr6⟩))
              all_goals
                go_wp2
                go_meet
                case rel => exact ⟨hrow6, hgr6⟩
            case rest =>
              clear hrow5d hgr5d HW3
              obtain ⟨hrow6, hgr6⟩ := hcut
              have k5 : (12 : Int) ≤ (cd : Int) := by omega
              have k6 : (16 : Int) ≤ (cs : Int) := by omega
              go_wp2_with fail
              go_quiet (fail)
              go_wp2
              go_roundw
              case rel => exact ⟨q + 1, ld - 12, cd - 12, ls - 16, cs - 16, by omega, by omega, by omega, by omega, cut_next (by omega), cut_next (by omega), hrow6, grown_drewN hgr6 _⟩
              case measure => simp only [lenOf]; omega
    · have hq2 : ¬ ((12 : Int) ≤ (ld : Int)) := by omega
      go_wp2_with fail
      go_loopw [5, 6] (fun dv sv wr => ∃ (t ld cd ls cs : Nat), ld + 3 * t = 3 * width ∧ cd + 3 * t = n ∧ ls + 4 * t = 4 * width ∧ cs + 4 * t = m ∧ CutAt dv D (3 * t) ld cd ∧ CutAt sv S (4 * t) ls cs ∧ wr.rowIs D 5 n (byteV (part (3 * t) (specPick 3 width fd fs) fd)) ∧ w.grownBy wr (some D)) (fun dv _ _ => lenOf dv)
      case atStart => exact ⟨4 * q, ld, cd, ls, cs, by omega, by omega, by omega, by omega, ⟨ad, rfl, fun h => by rw [had h]; congr 1; omega⟩, ⟨sd, rfl, fun h => by rw [hsd h]; congr 1; omega⟩, hrow.congr (fun i _ => by rw [show 3 * (4 * q) = 12 * q by omega]), hgr⟩
      case round =>
        clear hrow hgr had hsd
        obtain ⟨t, ld, cd, ls, cs, e1, e2, e3, e4, ⟨ad, rfl, had⟩, ⟨sd, rfl, hsd⟩, hrow, hgr⟩ := hrel
        by_cases ht : 3 ≤ ld
        · obtain rfl := had (by omega)
          obtain rfl := hsd (by omega)
          have hSr := grown_row hgr hS hne
          have s0 : wr.cell? ⟨S, 4 * t, none⟩ = some (.int .u8 (fs (4 * t))) := hSr.cell (by omega)
          have s1 : wr.cell? ⟨S, 4 * t + 1, none⟩ = some (.int .u8 (fs (4 * t + 1))) := hSr.cell (by omega)
          have s2 : wr.cell? ⟨S, 4 * t + 2, none⟩ = some (.int .u8 (fs (4 * t + 2))) := hSr.cell (by omega)
          have d0 := hrow.cell (i := 3 * t) (by omega)
          have d1 := hrow.cell (i := 3 * t + 1) (by omega)
          have d2 := hrow.cell (i := 3 * t + 2) (by omega)
          have f0 := hrow.frozen (3 * t)
          have f1 := hrow.frozen (3 * t + 1)
          have f2 := hrow.frozen (3 * t + 2)
          have k0 : (0 : Int) < (ls : Int) := by omega
          have k1 : (1 : Int) < (ls : Int) := by omega
          have k2 : (2 : Int) < (ls : Int) := by omega
          have k3 : (0 : Int) < (ld : Int) := by omega
          have k4 : (1 : Int) < (ld : Int) := by omega
          have k5 : (2 : Int) < (ld : Int) := by omega
          have R := fill3_set hrow (show t < width by omega)
          have R2 := grown_set (grown_set (grown_set hgr (3 * t) (.int .u8 (fs (4 * t)))) (3 * t + 1) (.int .u8 (fs (4 * t + 1)))) (3 * t + 2) (.int .u8 (fs (4 * t + 2)))
          have HR : Hid _ := R
          have HR2 : Hid _ := R2
          clear R R2 hSr
          go_wp2_with fail
          go_region
          all_goals go_wp2_with fail
          all_goals
            obtain ⟨w7, hw7⟩ : ∃ x, x = ((wr.setCell ⟨D, 3 * t, none⟩ (.int .u8 (fs (4 * t)))).setCell ⟨D, 3 * t + 1, none⟩ (.int .u8 (fs (4 * t + 1)))).setCell ⟨D, 3 * t + 2, none⟩ (.int .u8 (fs (4 * t + 2))) := ⟨_, rfl⟩
            have R : w7.rowIs D 5 n (byteV (part (3 * t + 3) (specPick 3 width fd fs) fd)) := by rw [hw7]; exact HR.out
            have R2 : w.grownBy w7 (some D) := by rw [hw7]; exact HR2.out
            rw [← hw7]
            have q1 : (3 : Int) ≤ (ld : Int) := by omega
            have q2 : (4 : Int) ≤ (ls : Int) := by omega
            have q3 : (ld : Int) ≤ (cd : Int) := by omega
            have q4 : (ls : Int) ≤ (cs : Int) := by omega
            clear hw7 HR HR2 hrow hgr s0 s1 s2 d0 d1 d2 f0 f1 f2
            go_quiet (fail)
            go_wp2
            go_roundw
            case rel => exact ⟨t + 1, ld - 3, cd - 3, ls - 4, cs - 4, by omega, by omega, by omega, by omega, cut_next (by omega), cut_next (by omega), R, grown_drewN (grown_drewN R2 1) _⟩
            case measure => simp only [lenOf]; omega
        · go_wp2
          go_end0
          exact ⟨rfl, hrow.congr (fun i _ => by rw [show 3 * t = width * 3 by omega]; exact pick_done3 (n := i + 1) i (by omega)), hgr⟩
end Go.Proofs.Qxb6613510aDoor
