import Derived.Test.Qxb6613510aDoorLook
import Derived.BigQuiet
namespace Go.Proofs.Qxb6613510aDoor
open Go.RowKit
set_option linter.unusedVariables false

set_option maxRecDepth 100000 in
set_option maxHeartbeats 1000000 in
/-- No such colour type: nothing. -/
theorem readRgbaNoKept (I : Nat) (width height depth ct : Int) (bm : Nat) (w : World)
    (hm : w.cell? ⟨0, 0, none⟩ = some (.map (some bm)))
    (hd0 : 1 ≤ depth) (hd8 : depth ≤ 8) (h6 : (ct == 6) = false) (hl : Look w bm ct (.slice none 0 0)) :
    Calls Tryd.prog 17 #[.iface 47 (.pointer (some ⟨I, 0, none⟩)), .agg #[.int .i64 width, .int .i64 height, .int .u8 depth, .int .u8 ct]] w fun e w' => e = .returned (.tuple #[.slice none 0 0, .int .i64 0, .nilFunc]) ∧ Below w.heap.size w w' := by
  obtain ⟨W, hW, g0, g1, g2, g3, go, hb, hsz⟩ := boxes2 w (.int .i64 width) (.int .i64 height) (.int .u8 depth) (.int .u8 ct)
  have HW : Hid (W = _) := hW
  have H19 : Hid ((depth + 7) / 8 = 1) := (by omega : (depth + 7) / 8 = 1)
  have HD0 : Hid (0 ≤ depth) := (by omega : 0 ≤ depth)
  have HD1 : Hid (depth ≤ 255) := (by omega : depth ≤ 255)
  clear hW hd0 hd8
  go_enter Tryd.func17, Tryd.ntmps17
  go_wp2_with (first | (go_at_call 19; refine (sampleBytes_any _ _ HD0.out HD1.out).mono ?_; rintro e wx ⟨rfl, rfl⟩; rw [H19.out]))
  rw [← HW.out]
  refine (one_any _ 1 _ (by omega) go).mono ?_
  rintro e w1 ⟨ao, al, ac, rfl, hb1⟩
  have hbw1 := hb.trans (hb1.mono hsz)
  have m1 := cell_up hbw1 hm
  have t1 := cell_up hb1 g3
  have l1 := hl w1 hbw1
  go_wp2_with fail
  refine (offs_zero none 0 1 w1).mono ?_
  rintro e w2 ⟨rfl, ew2⟩
  have hb2 : Below w1.heap.size w1 w2 := by rw [← ew2]; exact Below.refl _ _
  clear ew2
  have hs1 := hb1.size
  have hB2 := hb1.trans (hb2.mono hs1)
  have hbw2 := hb.trans (hB2.mono hsz)
  clear m1 t1 l1
  have m1 := cell_up hbw2 hm
  have t1 := cell_up hB2 g3
  have l1 := hl w2 hbw2
  go_wp2_with fail
  refine (cont_no _ _ _ _ (has3_zero none 0 w2)).mono ?_
  rintro e wx ⟨rfl, rfl⟩
  clear m1 l1
  have a1 := ta47_58 ⟨I, 0, none⟩
  have a2 := ta47_61 ⟨I, 0, none⟩
  have a3 := ta47_63 ⟨I, 0, none⟩
  have a4 := ta47_36 ⟨I, 0, none⟩
  have a5 := ta47_68 ⟨I, 0, none⟩
  have a6 := ta47_47 ⟨I, 0, none⟩
  have a7 := Go.run_neq_slice_nil_any (P := Tryd.prog) w2 50 3 none 0 0 0 0 Tryd.underlying50
  all_goals go_wp2_with fail
  all_goals go_ret3
  all_goals exact ⟨rfl, hbw2⟩

set_option maxRecDepth 100000 in
set_option maxHeartbeats 1000000 in
/-- Gray with alpha: nothing. -/
theorem readRgbaNoAlpha (I : Nat) (width height : Int) (bm : Nat) (w : World) (lv : Value)
    (hm : w.cell? ⟨0, 0, none⟩ = some (.map (some bm)))
    (hl : Look w bm 4 lv)
    (h20 : ∀ (w1 : World) (N : Nat), N ≤ 32 → Below w.heap.size w w1 → Calls Tryd.prog 20 #[lv, .int .i64 N] w1 fun e w' => ∃ ao l cp, e = .returned (.slice ao l cp) ∧ Below w1.heap.size w1 w')
    (h21 : ∀ w1, Below w.heap.size w w1 → Calls Tryd.prog 21 #[lv, .int .i64 3] w1 fun e w' => e = .returned (.bool true) ∧ w1 = w') :
    Calls Tryd.prog 17 #[.iface 47 (.pointer (some ⟨I, 0, none⟩)), .agg #[.int .i64 width, .int .i64 height, .int .u8 8, .int .u8 4]] w fun e w' => e = .returned (.tuple #[.slice none 0 0, .int .i64 0, .nilFunc]) ∧ Below w.heap.size w w' := by
  obtain ⟨W, hW, g0, g1, g2, g3, go, hb, hsz⟩ := boxes2 w (.int .i64 width) (.int .i64 height) (.int .u8 8) (.int .u8 4)
  have HW : Hid (W = _) := hW
  have H20 : Hid _ := h20
  have H21 : Hid _ := h21
  clear hW h20 h21
  go_enter Tryd.func17, Tryd.ntmps17
  go_wp2_with (first | (go_at_call 19; refine (sampleBytes_any _ _ (by omega) (by omega)).mono ?_; rintro e wx ⟨rfl, rfl⟩))
  rw [← HW.out]
  refine (one_any _ 1 _ (by omega) go).mono ?_
  rintro e w1 ⟨ao, al, ac, rfl, hb1⟩
  have hbw1 := hb.trans (hb1.mono hsz)
  have m1 := cell_up hbw1 hm
  have t1 := cell_up hb1 g3
  have l1 := hl w1 hbw1
  go_wp2_with fail
  refine (H20.out w1 1 (by omega) hbw1).mono ?_
  rintro e w2 ⟨ko, kl, kc, rfl, hb2⟩
  have hs1 := hb1.size
  have hB2 := hb1.trans (hb2.mono hs1)
  have hbw2 := hb.trans (hB2.mono hsz)
  clear m1 t1 l1
  have m1 := cell_up hbw2 hm
  have t1 := cell_up hB2 g3
  have l1 := hl w2 hbw2
  go_wp2_with fail
  refine (H21.out w2 hbw2).mono ?_
  rintro e wx ⟨rfl, rfl⟩
  clear m1 l1
  have a1 := ta47_58 ⟨I, 0, none⟩
  have a2 := ta47_61 ⟨I, 0, none⟩
  have a3 := ta47_63 ⟨I, 0, none⟩
  have a4 := ta47_36 ⟨I, 0, none⟩
  have a5 := ta47_68 ⟨I, 0, none⟩
  have a6 := ta47_47 ⟨I, 0, none⟩
  have a7 := Go.run_neq_slice_nil_any (P := Tryd.prog) w2 50 3 ko kl kc 0 0 Tryd.underlying50
  cases ko
  all_goals go_wp2_with fail
  all_goals go_ret3
  all_goals exact ⟨rfl, hbw2⟩

set_option maxRecDepth 100000 in
set_option maxHeartbeats 1000000 in
/-- With alpha: unpremultiplied. -/
theorem readRgbaUn (I : Nat) (pao : Option Addr) (np : Nat) (stride width height : Int) (bm : Nat) (w : World) (lv : Value)
    (hm : w.cell? ⟨0, 0, none⟩ = some (.map (some bm)))
    (hp : w.cell? ⟨I, 0, none⟩ = some (.slice pao np np)) (hs : w.cell? ⟨I, 1, none⟩ = some (.int .i64 stride)) (hl : Look w bm 6 lv)
    (h20 : ∀ (w1 : World) (N : Nat), N ≤ 32 → Below w.heap.size w w1 → Calls Tryd.prog 20 #[lv, .int .i64 N] w1 fun e w' => ∃ ao l cp, e = .returned (.slice ao l cp) ∧ Below w1.heap.size w1 w')
    (h21 : ∀ w1, Below w.heap.size w w1 → Calls Tryd.prog 21 #[lv, .int .i64 3] w1 fun e w' => ∃ b, e = .returned (.bool b) ∧ w1 = w') :
    Calls Tryd.prog 17 #[.iface 47 (.pointer (some ⟨I, 0, none⟩)), .agg #[.int .i64 width, .int .i64 height, .int .u8 8, .int .u8 6]] w fun e w' => e = .returned (.tuple #[.slice pao np np, .int .i64 stride, .func (.func 23) #[] #[]]) ∧ Below w.heap.size w w' := by
  obtain ⟨W, hW, g0, g1, g2, g3, go, hb, hsz⟩ := boxes2 w (.int .i64 width) (.int .i64 height) (.int .u8 8) (.int .u8 6)
  have HW : Hid (W = _) := hW
  have H20 : Hid _ := h20
  have H21 : Hid _ := h21
  clear hW h20 h21
  go_enter Tryd.func17, Tryd.ntmps17
  go_wp2_with (first | (go_at_call 19; refine (sampleBytes_any _ _ (by omega) (by omega)).mono ?_; rintro e wx ⟨rfl, rfl⟩))
  rw [← HW.out]
  refine (one_any _ 1 _ (by omega) go).mono ?_
  rintro e w1 ⟨ao, al, ac, rfl, hb1⟩
  have hbw1 := hb.trans (hb1.mono hsz)
  have m1 := cell_up hbw1 hm
  have t1 := cell_up hb1 g3
  have l1 := hl w1 hbw1
  go_wp2_with fail
  refine (H20.out w1 1 (by omega) hbw1).mono ?_
  rintro e w2 ⟨ko, kl, kc, rfl, hb2⟩
  have hs1 := hb1.size
  have hB2 := hb1.trans (hb2.mono hs1)
  have hbw2 := hb.trans (hB2.mono hsz)
  clear m1 t1 l1
  have m1 := cell_up hbw2 hm
  have t1 := cell_up hB2 g3
  have l1 := hl w2 hbw2
  go_wp2_with fail
  refine (H21.out w2 hbw2).mono ?_
  rintro e wx ⟨b, rfl, rfl⟩
  clear m1 l1
  have a1 := ta47_58 ⟨I, 0, none⟩
  have a2 := ta47_61 ⟨I, 0, none⟩
  have a3 := ta47_63 ⟨I, 0, none⟩
  have a4 := ta47_36 ⟨I, 0, none⟩
  have a5 := ta47_68 ⟨I, 0, none⟩
  have a6 := ta47_47 ⟨I, 0, none⟩
  go_wp2_with fail
  have p2 := cell_up hbw2 hp
  have s2 := cell_up hbw2 hs
  clear hp hs hm g0 g1 g2 g3 go a1 a2 a3 a4 a5 a6
  go_quiet (fail)
  go_wp2_with fail
  go_ret3
  exact ⟨rfl, below_drewN hbw2 _⟩
end Go.Proofs.Qxb6613510aDoor
