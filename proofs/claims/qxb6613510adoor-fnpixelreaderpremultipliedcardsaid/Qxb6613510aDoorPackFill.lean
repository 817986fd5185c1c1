import Derived.Test.Qxb6613510aDoorFills
namespace Go.Proofs.Qxb6613510aDoor
open Go.RowKit
set_option linter.unusedVariables false

/-- The table of the packer: each byte's level. -/
def lvl (b : Nat) : Nat → Value := fun i => .int .u8 ((smp b (i : Int) : Nat) : Int)

theorem full_byte {b per nb q width : Nat} {fd fs : Nat → Int} (hq : q < nb) (h : per * q + per ≤ width) : ((acc b fs (per * q) per : Nat) : Int) = packRow b per nb fd fs width q := by
  unfold packRow
  rw [if_pos hq]
  unfold packed cnt
  rw [Nat.min_eq_left (by omega), Nat.sub_self, Nat.pow_zero, Nat.mul_one]
theorem last_byte {b per nb q t width : Nat} {fd fs : Nat → Int} (hq : q < nb) (h : width = per * q + t) (ht : t < per) : ((acc b fs (per * q) t * b ^ (per - t) : Nat) : Int) = packRow b per nb fd fs width q := by
  unfold packRow
  rw [if_pos hq]
  unfold packed cnt
  rw [show width - per * q = t by omega, Nat.min_eq_right (by omega)]
theorem pack_done {b per nb n width : Nat} {fd fs : Nat → Int} : ∀ i, i < n → byteV (part nb (packRow b per nb fd fs width) fd) i = byteV (packRow b per nb fd fs width) i := by
  intro i _
  unfold byteV part
  by_cases h : i < nb
  · rw [if_pos h]
  · rw [if_neg h]
    unfold packRow
    rw [if_neg h]

theorem packFillZero1 (a c : Option Addr) (n m cn cm Wb Zb Db Tb Pb : Nat) (w : World) (hW : w.cell? ⟨Wb, 0, none⟩ = some (.int .i64 0)) (hZ : w.cell? ⟨Zb, 0, none⟩ = some (.int .i64 4)) :
    Calls Tryd.prog 34 #[.slice a n cn, .slice c m cm, .pointer (some ⟨Wb, 0, none⟩), .pointer (some ⟨Zb, 0, none⟩), .pointer (some ⟨Db, 0, none⟩), .pointer (some ⟨Tb, 0, none⟩), .pointer (some ⟨Pb, 0, none⟩)] w fun e w' => e = .returned (.tuple #[]) ∧ w = w' := by
  go_enter Tryd.func34, Tryd.ntmps34
  go_wp2
  refine wp_loop_rounds 1 ?_
  rw [rounds_succ]
  go_wp2
  go_end0
  exact ⟨rfl, rfl⟩

set_option maxRecDepth 10000 in
set_option maxHeartbeats 1000000 in
theorem packFill1 (D S Wb Zb Db Tb Pb n m width : Nat) (fd fs : Nat → Int) (w : World) (hn : n ≤ 1048576) (hmm : m ≤ 1048576) (h1 : width * 4 ≤ m) (h2 : ((width * 1 + 7) / 8) ≤ n) (hne : S ≠ D) (hWD : Wb ≠ D) (hZD : Zb ≠ D) (hDD : Db ≠ D) (hTD : Tb ≠ D) (hPD : Pb ≠ D) (hD : w.rowIs D 5 n (byteV fd)) (hS : w.rowIs S 5 m (byteV fs)) (hb : Byts m fs)
    (hW : w.cell? ⟨Wb, 0, none⟩ = some (.int .i64 width)) (hZ : w.cell? ⟨Zb, 0, none⟩ = some (.int .i64 4)) (hDp : w.cell? ⟨Db, 0, none⟩ = some (.int .u8 1)) (hT : ∀ i, i < 256 → w.cell? ⟨Tb, i, none⟩ = some (lvl 2 i)) (hP : w.cell? ⟨Pb, 0, none⟩ = some (.int .i64 8)) :
    Calls Tryd.prog 34 #[.slice (some ⟨D, 0, none⟩) n n, .slice (some ⟨S, 0, none⟩) m m, .pointer (some ⟨Wb, 0, none⟩), .pointer (some ⟨Zb, 0, none⟩), .pointer (some ⟨Db, 0, none⟩), .pointer (some ⟨Tb, 0, none⟩), .pointer (some ⟨Pb, 0, none⟩)] w fun e w' => e = .returned (.tuple #[]) ∧ w'.rowIs D 5 n (byteV (packRow 2 8 ((width * 1 + 7) / 8) fd fs width)) ∧ w.grownBy w' (some D) := by
  go_enter Tryd.func34, Tryd.ntmps34
  go_wp2
  go_loopw [9, 10, 11, 12] (fun bv kv av xv wr => ∃ q t : Nat, 8 * q + t ≤ width ∧ t < 8 ∧ xv = .int .i64 (4 * (8 * (q : Int) + t)) ∧ kv = .int .i64 t ∧ av = .int .i64 q ∧ bv = .int .u8 ((acc 2 fs (8 * q) t : Nat) : Int) ∧ wr.rowIs D 5 n (byteV (part q (packRow 2 8 ((width * 1 + 7) / 8) fd fs width) fd)) ∧ w.grownBy wr (some D)) (fun _ _ _ xv _ => 4 * width - (intOf xv).toNat)
  case atStart => exact ⟨0, 0, by omega, by omega, rfl, rfl, rfl, rfl, hD, grown_refl _ _⟩
  case round =>
    obtain ⟨q, t, hx, ht, rfl, rfl, rfl, rfl, hrow, hgr⟩ := hrel
    have w1 := grown_cell hgr hW hWD
    have z1 := grown_cell hgr hZ hZD
    have d1 := grown_cell hgr hDp hDD
    have p1 := grown_cell hgr hP hPD
    by_cases hxw : 8 * q + t < width
    · have hSr := grown_row hgr hS hne
      have sc : wr.cell? ⟨S, 4 * (8 * q + t), none⟩ = some (.int .u8 (fs (4 * (8 * q + t)))) := hSr.cell (by omega)
      have bs := hb (4 * (8 * q + t)) (by omega)
      obtain ⟨s, hs⟩ : ∃ s : Nat, (s : Int) = fs (4 * (8 * q + t)) := ⟨(fs (4 * (8 * q + t))).toNat, by omega⟩
      rw [← hs] at sc bs
      have tc : wr.cell? ⟨Tb, s, none⟩ = some (.int .u8 ((smp 2 (s : Int) : Nat) : Int)) := grown_cell hgr (hT s (by omega)) hTD
      have hsm := smp_bd 2 (s : Int) (by omega) bs.2
      have hab := acc_bd 2 fs (8 * q) (by omega) t (fun i hi => (hb _ (by omega)).2)
      have hol := or_low 2 8 (by omega) t _ _ ht hab hsm
      have hacc : acc 2 fs (8 * q) (t + 1) = acc 2 fs (8 * q) t * 2 + smp 2 (s : Int) := by rw [acc, hs]
      have hval : bits .or .u8 (((acc 2 fs (8 * q) t : Nat) : Int) * 2) ((smp 2 (s : Int) : Nat) : Int) = ((acc 2 fs (8 * q) (t + 1) : Nat) : Int) := by
        rw [hacc, ← hol.1]
        exact u8_or_nat _ _ hol.2.2 (by omega)
      obtain ⟨A, hA⟩ : ∃ A, A = acc 2 fs (8 * q) t := ⟨_, rfl⟩
      obtain ⟨V, hV⟩ : ∃ V, V = smp 2 (s : Int) := ⟨_, rfl⟩
      rw [← hA, ← hV] at hval
      rw [← hV] at tc hsm hol
      rw [← hA] at hol hab ⊢
      have hA2 : A * 2 < 256 := hol.2.2
      have HV : Hid _ := hval
      obtain ⟨bs0, bs1⟩ := bs
      have HSS : Hid ((s : Int) = fs (4 * (8 * q + t))) := hs
      have HAcc : Hid _ := hacc
      clear hs hacc hol hval hV hA hab hSr
      have i1 : (0 : Int) ≤ 4 * (8 * (q : Int) + t) := by omega
      have i2 : 4 * (8 * (q : Int) + t) < (m : Int) := by omega
      have i3 : (s : Int) < 256 := by omega
      have i4 : (0 : Int) ≤ (A : Int) := by omega
      have i5 : (A : Int) * 2 < 256 := by omega
      have i6 : (0 : Int) ≤ (V : Int) := by omega
      go_wp2_with fail
      go_quiet (fail)
      by_cases hk : t + 1 < 8
      · have hk2 : ((t : Int) + 1 == 8) = false := by rw [beq_eq_false_iff_ne]; omega
        go_wp2
        go_roundw
        case rel => exact ⟨q, t + 1, by omega, hk, by go_num, by go_num, rfl, by rw [HV.out], hrow, grown_drewN hgr _⟩
        case measure => simp [intOf]; omega
      · have hk2 : ((t : Int) + 1 == 8) = true := by rw [beq_iff_eq]; omega
        have dc := hrow.cell (i := q) (by omega)
        have fc := hrow.frozen q
        go_wp2
        go_roundw
        case rel => exact ⟨q + 1, 0, by omega, by omega, by go_num, rfl, by go_num, rfl, part_set (show (wr.drewN _).rowIs D 5 n (byteV (part q (packRow 2 8 ((width * 1 + 7) / 8) fd fs width) fd)) from hrow) (by rw [HV.out, show t + 1 = 8 by omega]; exact full_byte (by omega) (by omega)), grown_set (grown_drewN hgr _) _ _⟩
        case measure => simp [intOf]; omega
    · have hxe : width = 8 * q + t := by omega
      have HX : Hid (width = 8 * q + t) := hxe
      clear hxe
      rcases Nat.eq_zero_or_pos t with rfl | htp
      · go_wp2
        go_end0
        exact ⟨rfl, hrow.congr (by rw [show q = ((width * 1 + 7) / 8) by have := HX.out; omega]; exact pack_done), hgr⟩
      · have hqn : q < ((width * 1 + 7) / 8) := by have := HX.out; omega
        have dc := hrow.cell (i := q) (by omega)
        have fc := hrow.frozen q
        have hab := acc_bd 2 fs (8 * q) (by omega) t (fun i hi => (hb _ (by have := HX.out; omega)).2)
        have HL := last_byte (b := 2) (per := 8) (fd := fd) (fs := fs) hqn HX.out ht
        obtain ⟨A, hA⟩ : ∃ A, A = acc 2 fs (8 * q) t := ⟨_, rfl⟩
        rw [← hA] at hab HL ⊢
        have HL2 : Hid _ := HL
        clear hA HL
        obtain rfl | rfl | rfl | rfl | rfl | rfl | rfl : t = 1 ∨ t = 2 ∨ t = 3 ∨ t = 4 ∨ t = 5 ∨ t = 6 ∨ t = 7 := by omega
        all_goals
          have hab2 := hab
          simp only [Nat.reducePow, Nat.pow_one] at hab2
          go_wp2_with fail
          go_end0
          exact ⟨rfl, (part_set hrow (by rw [← HL2.out, Int.natCast_mul]; rfl)).congr (by rw [show q + 1 = ((width * 1 + 7) / 8) by have := HX.out; omega]; exact pack_done), grown_set hgr _ _⟩

theorem packFillZero2 (a c : Option Addr) (n m cn cm Wb Zb Db Tb Pb : Nat) (w : World) (hW : w.cell? ⟨Wb, 0, none⟩ = some (.int .i64 0)) (hZ : w.cell? ⟨Zb, 0, none⟩ = some (.int .i64 4)) :
    Calls Tryd.prog 34 #[.slice a n cn, .slice c m cm, .pointer (some ⟨Wb, 0, none⟩), .pointer (some ⟨Zb, 0, none⟩), .pointer (some ⟨Db, 0, none⟩), .pointer (some ⟨Tb, 0, none⟩), .pointer (some ⟨Pb, 0, none⟩)] w fun e w' => e = .returned (.tuple #[]) ∧ w = w' := by
  go_enter Tryd.func34, Tryd.ntmps34
  go_wp2
  refine wp_loop_rounds 1 ?_
  rw [rounds_succ]
  go_wp2
  go_end0
  exact ⟨rfl, rfl⟩

set_option maxRecDepth 10000 in
set_option maxHeartbeats 1000000 in
theorem packFill2 (D S Wb Zb Db Tb Pb n m width : Nat) (fd fs : Nat → Int) (w : World) (hn : n ≤ 1048576) (hmm : m ≤ 1048576) (h1 : width * 4 ≤ m) (h2 : ((width * 2 + 7) / 8) ≤ n) (hne : S ≠ D) (hWD : Wb ≠ D) (hZD : Zb ≠ D) (hDD : Db ≠ D) (hTD : Tb ≠ D) (hPD : Pb ≠ D) (hD : w.rowIs D 5 n (byteV fd)) (hS : w.rowIs S 5 m (byteV fs)) (hb : Byts m fs)
    (hW : w.cell? ⟨Wb, 0, none⟩ = some (.int .i64 width)) (hZ : w.cell? ⟨Zb, 0, none⟩ = some (.int .i64 4)) (hDp : w.cell? ⟨Db, 0, none⟩ = some (.int .u8 2)) (hT : ∀ i, i < 256 → w.cell? ⟨Tb, i, none⟩ = some (lvl 4 i)) (hP : w.cell? ⟨Pb, 0, none⟩ = some (.int .i64 4)) :
    Calls Tryd.prog 34 #[.slice (some ⟨D, 0, none⟩) n n, .slice (some ⟨S, 0, none⟩) m m, .pointer (some ⟨Wb, 0, none⟩), .pointer (some ⟨Zb, 0, none⟩), .pointer (some ⟨Db, 0, none⟩), .pointer (some ⟨Tb, 0, none⟩), .pointer (some ⟨Pb, 0, none⟩)] w fun e w' => e = .returned (.tuple #[]) ∧ w'.rowIs D 5 n (byteV (packRow 4 4 ((width * 2 + 7) / 8) fd fs width)) ∧ w.grownBy w' (some D) := by
  go_enter Tryd.func34, Tryd.ntmps34
  go_wp2
  go_loopw [9, 10, 11, 12] (fun bv kv av xv wr => ∃ q t : Nat, 4 * q + t ≤ width ∧ t < 4 ∧ xv = .int .i64 (4 * (4 * (q : Int) + t)) ∧ kv = .int .i64 t ∧ av = .int .i64 q ∧ bv = .int .u8 ((acc 4 fs (4 * q) t : Nat) : Int) ∧ wr.rowIs D 5 n (byteV (part q (packRow 4 4 ((width * 2 + 7) / 8) fd fs width) fd)) ∧ w.grownBy wr (some D)) (fun _ _ _ xv _ => 4 * width - (intOf xv).toNat)
  case atStart => exact ⟨0, 0, by omega, by omega, rfl, rfl, rfl, rfl, hD, grown_refl _ _⟩
  case round =>
    obtain ⟨q, t, hx, ht, rfl, rfl, rfl, rfl, hrow, hgr⟩ := hrel
    have w1 := grown_cell hgr hW hWD
    have z1 := grown_cell hgr hZ hZD
    have d1 := grown_cell hgr hDp hDD
    have p1 := grown_cell hgr hP hPD
    by_cases hxw : 4 * q + t < width
    · have hSr := grown_row hgr hS hne
      have sc : wr.cell? ⟨S, 4 * (4 * q + t), none⟩ = some (.int .u8 (fs (4 * (4 * q + t)))) := hSr.cell (by omega)
      have bs := hb (4 * (4 * q + t)) (by omega)
      obtain ⟨s, hs⟩ : ∃ s : Nat, (s : Int) = fs (4 * (4 * q + t)) := ⟨(fs (4 * (4 * q + t))).toNat, by omega⟩
      rw [← hs] at sc bs
      have tc : wr.cell? ⟨Tb, s, none⟩ = some (.int .u8 ((smp 4 (s : Int) : Nat) : Int)) := grown_cell hgr (hT s (by omega)) hTD
      have hsm := smp_bd 4 (s : Int) (by omega) bs.2
      have hab := acc_bd 4 fs (4 * q) (by omega) t (fun i hi => (hb _ (by omega)).2)
      have hol := or_low 4 4 (by omega) t _ _ ht hab hsm
      have hacc : acc 4 fs (4 * q) (t + 1) = acc 4 fs (4 * q) t * 4 + smp 4 (s : Int) := by rw [acc, hs]
      have hval : bits .or .u8 (((acc 4 fs (4 * q) t : Nat) : Int) * 4) ((smp 4 (s : Int) : Nat) : Int) = ((acc 4 fs (4 * q) (t + 1) : Nat) : Int) := by
        rw [hacc, ← hol.1]
        exact u8_or_nat _ _ hol.2.2 (by omega)
      obtain ⟨A, hA⟩ : ∃ A, A = acc 4 fs (4 * q) t := ⟨_, rfl⟩
      obtain ⟨V, hV⟩ : ∃ V, V = smp 4 (s : Int) := ⟨_, rfl⟩
      rw [← hA, ← hV] at hval
      rw [← hV] at tc hsm hol
      rw [← hA] at hol hab ⊢
      have hA2 : A * 4 < 256 := hol.2.2
      have HV : Hid _ := hval
      obtain ⟨bs0, bs1⟩ := bs
      have HSS : Hid ((s : Int) = fs (4 * (4 * q + t))) := hs
      have HAcc : Hid _ := hacc
      clear hs hacc hol hval hV hA hab hSr
      have i1 : (0 : Int) ≤ 4 * (4 * (q : Int) + t) := by omega
      have i2 : 4 * (4 * (q : Int) + t) < (m : Int) := by omega
      have i3 : (s : Int) < 256 := by omega
      have i4 : (0 : Int) ≤ (A : Int) := by omega
      have i5 : (A : Int) * 4 < 256 := by omega
      have i6 : (0 : Int) ≤ (V : Int) := by omega
      go_wp2_with fail
      go_quiet (fail)
      by_cases hk : t + 1 < 4
      · have hk2 : ((t : Int) + 1 == 4) = false := by rw [beq_eq_false_iff_ne]; omega
        go_wp2
        go_roundw
        case rel => exact ⟨q, t + 1, by omega, hk, by go_num, by go_num, rfl, by rw [HV.out], hrow, grown_drewN hgr _⟩
        case measure => simp [intOf]; omega
      · have hk2 : ((t : Int) + 1 == 4) = true := by rw [beq_iff_eq]; omega
        have dc := hrow.cell (i := q) (by omega)
        have fc := hrow.frozen q
        go_wp2
        go_roundw
        case rel => exact ⟨q + 1, 0, by omega, by omega, by go_num, rfl, by go_num, rfl, part_set (show (wr.drewN _).rowIs D 5 n (byteV (part q (packRow 4 4 ((width * 2 + 7) / 8) fd fs width) fd)) from hrow) (by rw [HV.out, show t + 1 = 4 by omega]; exact full_byte (by omega) (by omega)), grown_set (grown_drewN hgr _) _ _⟩
        case measure => simp [intOf]; omega
    · have hxe : width = 4 * q + t := by omega
      have HX : Hid (width = 4 * q + t) := hxe
      clear hxe
      rcases Nat.eq_zero_or_pos t with rfl | htp
      · go_wp2
        go_end0
        exact ⟨rfl, hrow.congr (by rw [show q = ((width * 2 + 7) / 8) by have := HX.out; omega]; exact pack_done), hgr⟩
      · have hqn : q < ((width * 2 + 7) / 8) := by have := HX.out; omega
        have dc := hrow.cell (i := q) (by omega)
        have fc := hrow.frozen q
        have hab := acc_bd 4 fs (4 * q) (by omega) t (fun i hi => (hb _ (by have := HX.out; omega)).2)
        have HL := last_byte (b := 4) (per := 4) (fd := fd) (fs := fs) hqn HX.out ht
        obtain ⟨A, hA⟩ : ∃ A, A = acc 4 fs (4 * q) t := ⟨_, rfl⟩
        rw [← hA] at hab HL ⊢
        have HL2 : Hid _ := HL
        clear hA HL
        obtain rfl | rfl | rfl : t = 1 ∨ t = 2 ∨ t = 3 := by omega
        all_goals
          have hab2 := hab
          simp only [Nat.reducePow, Nat.pow_one] at hab2
          go_wp2_with fail
          go_end0
          exact ⟨rfl, (part_set hrow (by rw [← HL2.out, Int.natCast_mul]; rfl)).congr (by rw [show q + 1 = ((width * 2 + 7) / 8) by have := HX.out; omega]; exact pack_done), grown_set hgr _ _⟩

theorem packFillZero4 (a c : Option Addr) (n m cn cm Wb Zb Db Tb Pb : Nat) (w : World) (hW : w.cell? ⟨Wb, 0, none⟩ = some (.int .i64 0)) (hZ : w.cell? ⟨Zb, 0, none⟩ = some (.int .i64 4)) :
    Calls Tryd.prog 34 #[.slice a n cn, .slice c m cm, .pointer (some ⟨Wb, 0, none⟩), .pointer (some ⟨Zb, 0, none⟩), .pointer (some ⟨Db, 0, none⟩), .pointer (some ⟨Tb, 0, none⟩), .pointer (some ⟨Pb, 0, none⟩)] w fun e w' => e = .returned (.tuple #[]) ∧ w = w' := by
  go_enter Tryd.func34, Tryd.ntmps34
  go_wp2
  refine wp_loop_rounds 1 ?_
  rw [rounds_succ]
  go_wp2
  go_end0
  exact ⟨rfl, rfl⟩

set_option maxRecDepth 10000 in
set_option maxHeartbeats 1000000 in
theorem packFill4 (D S Wb Zb Db Tb Pb n m width : Nat) (fd fs : Nat → Int) (w : World) (hn : n ≤ 1048576) (hmm : m ≤ 1048576) (h1 : width * 4 ≤ m) (h2 : ((width * 4 + 7) / 8) ≤ n) (hne : S ≠ D) (hWD : Wb ≠ D) (hZD : Zb ≠ D) (hDD : Db ≠ D) (hTD : Tb ≠ D) (hPD : Pb ≠ D) (hD : w.rowIs D 5 n (byteV fd)) (hS : w.rowIs S 5 m (byteV fs)) (hb : Byts m fs)
    (hW : w.cell? ⟨Wb, 0, none⟩ = some (.int .i64 width)) (hZ : w.cell? ⟨Zb, 0, none⟩ = some (.int .i64 4)) (hDp : w.cell? ⟨Db, 0, none⟩ = some (.int .u8 4)) (hT : ∀ i, i < 256 → w.cell? ⟨Tb, i, none⟩ = some (lvl 16 i)) (hP : w.cell? ⟨Pb, 0, none⟩ = some (.int .i64 2)) :
    Calls Tryd.prog 34 #[.slice (some ⟨D, 0, none⟩) n n, .slice (some ⟨S, 0, none⟩) m m, .pointer (some ⟨Wb, 0, none⟩), .pointer (some ⟨Zb, 0, none⟩), .pointer (some ⟨Db, 0, none⟩), .pointer (some ⟨Tb, 0, none⟩), .pointer (some ⟨Pb, 0, none⟩)] w fun e w' => e = .returned (.tuple #[]) ∧ w'.rowIs D 5 n (byteV (packRow 16 2 ((width * 4 + 7) / 8) fd fs width)) ∧ w.grownBy w' (some D) := by
  go_enter Tryd.func34, Tryd.ntmps34
  go_wp2
  go_loopw [9, 10, 11, 12] (fun bv kv av xv wr => ∃ q t : Nat, 2 * q + t ≤ width ∧ t < 2 ∧ xv = .int .i64 (4 * (2 * (q : Int) + t)) ∧ kv = .int .i64 t ∧ av = .int .i64 q ∧ bv = .int .u8 ((acc 16 fs (2 * q) t : Nat) : Int) ∧ wr.rowIs D 5 n (byteV (part q (packRow 16 2 ((width * 4 + 7) / 8) fd fs width) fd)) ∧ w.grownBy wr (some D)) (fun _ _ _ xv _ => 4 * width - (intOf xv).toNat)
  case atStart => exact ⟨0, 0, by omega, by omega, rfl, rfl, rfl, rfl, hD, grown_refl _ _⟩
  case round =>
    obtain ⟨q, t, hx, ht, rfl, rfl, rfl, rfl, hrow, hgr⟩ := hrel
    have w1 := grown_cell hgr hW hWD
    have z1 := grown_cell hgr hZ hZD
    have d1 := grown_cell hgr hDp hDD
    have p1 := grown_cell hgr hP hPD
    by_cases hxw : 2 * q + t < width
    · have hSr := grown_row hgr hS hne
      have sc : wr.cell? ⟨S, 4 * (2 * q + t), none⟩ = some (.int .u8 (fs (4 * (2 * q + t)))) := hSr.cell (by omega)
      have bs := hb (4 * (2 * q + t)) (by omega)
      obtain ⟨s, hs⟩ : ∃ s : Nat, (s : Int) = fs (4 * (2 * q + t)) := ⟨(fs (4 * (2 * q + t))).toNat, by omega⟩
      rw [← hs] at sc bs
      have tc : wr.cell? ⟨Tb, s, none⟩ = some (.int .u8 ((smp 16 (s : Int) : Nat) : Int)) := grown_cell hgr (hT s (by omega)) hTD
      have hsm := smp_bd 16 (s : Int) (by omega) bs.2
      have hab := acc_bd 16 fs (2 * q) (by omega) t (fun i hi => (hb _ (by omega)).2)
      have hol := or_low 16 2 (by omega) t _ _ ht hab hsm
      have hacc : acc 16 fs (2 * q) (t + 1) = acc 16 fs (2 * q) t * 16 + smp 16 (s : Int) := by rw [acc, hs]
      have hval : bits .or .u8 (((acc 16 fs (2 * q) t : Nat) : Int) * 16) ((smp 16 (s : Int) : Nat) : Int) = ((acc 16 fs (2 * q) (t + 1) : Nat) : Int) := by
        rw [hacc, ← hol.1]
        exact u8_or_nat _ _ hol.2.2 (by omega)
      obtain ⟨A, hA⟩ : ∃ A, A = acc 16 fs (2 * q) t := ⟨_, rfl⟩
      obtain ⟨V, hV⟩ : ∃ V, V = smp 16 (s : Int) := ⟨_, rfl⟩
      rw [← hA, ← hV] at hval
      rw [← hV] at tc hsm hol
      rw [← hA] at hol hab ⊢
      have hA2 : A * 16 < 256 := hol.2.2
      have HV : Hid _ := hval
      obtain ⟨bs0, bs1⟩ := bs
      have HSS : Hid ((s : Int) = fs (4 * (2 * q + t))) := hs
      have HAcc : Hid _ := hacc
      clear hs hacc hol hval hV hA hab hSr
      have i1 : (0 : Int) ≤ 4 * (2 * (q : Int) + t) := by omega
      have i2 : 4 * (2 * (q : Int) + t) < (m : Int) := by omega
      have i3 : (s : Int) < 256 := by omega
      have i4 : (0 : Int) ≤ (A : Int) := by omega
      have i5 : (A : Int) * 16 < 256 := by omega
      have i6 : (0 : Int) ≤ (V : Int) := by omega
      go_wp2_with fail
      go_quiet (fail)
      by_cases hk : t + 1 < 2
      · have hk2 : ((t : Int) + 1 == 2) = false := by rw [beq_eq_false_iff_ne]; omega
        go_wp2
        go_roundw
        case rel => exact ⟨q, t + 1, by omega, hk, by go_num, by go_num, rfl, by rw [HV.out], hrow, grown_drewN hgr _⟩
        case measure => simp [intOf]; omega
      · have hk2 : ((t : Int) + 1 == 2) = true := by rw [beq_iff_eq]; omega
        have dc := hrow.cell (i := q) (by omega)
        have fc := hrow.frozen q
        go_wp2
        go_roundw
        case rel => exact ⟨q + 1, 0, by omega, by omega, by go_num, rfl, by go_num, rfl, part_set (show (wr.drewN _).rowIs D 5 n (byteV (part q (packRow 16 2 ((width * 4 + 7) / 8) fd fs width) fd)) from hrow) (by rw [HV.out, show t + 1 = 2 by omega]; exact full_byte (by omega) (by omega)), grown_set (grown_drewN hgr _) _ _⟩
        case measure => simp [intOf]; omega
    · have hxe : width = 2 * q + t := by omega
      have HX : Hid (width = 2 * q + t) := hxe
      clear hxe
      rcases Nat.eq_zero_or_pos t with rfl | htp
      · go_wp2
        go_end0
        exact ⟨rfl, hrow.congr (by rw [show q = ((width * 4 + 7) / 8) by have := HX.out; omega]; exact pack_done), hgr⟩
      · have hqn : q < ((width * 4 + 7) / 8) := by have := HX.out; omega
        have dc := hrow.cell (i := q) (by omega)
        have fc := hrow.frozen q
        have hab := acc_bd 16 fs (2 * q) (by omega) t (fun i hi => (hb _ (by have := HX.out; omega)).2)
        have HL := last_byte (b := 16) (per := 2) (fd := fd) (fs := fs) hqn HX.out ht
        obtain ⟨A, hA⟩ : ∃ A, A = acc 16 fs (2 * q) t := ⟨_, rfl⟩
        rw [← hA] at hab HL ⊢
        have HL2 : Hid _ := HL
        clear hA HL
        obtain rfl : t = 1 := by omega
        all_goals
          have hab2 := hab
          simp only [Nat.pow_one] at hab2
          go_wp2_with fail
          go_end0
          exact ⟨rfl, (part_set hrow (by rw [← HL2.out, Int.natCast_mul]; rfl)).congr (by rw [show q + 1 = ((width * 4 + 7) / 8) by have := HX.out; omega]; exact pack_done), grown_set hgr _ _⟩

end Go.Proofs.Qxb6613510aDoor
