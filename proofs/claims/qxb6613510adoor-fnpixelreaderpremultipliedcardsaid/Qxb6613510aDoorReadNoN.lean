import Derived.Test.Qxb6613510aDoorLook
import Derived.BigQuiet
namespace Go.Proofs.Qxb6613510aDoor
open Go.RowKit
set_option linter.unusedVariables false

set_option maxRecDepth 100000 in
set_option maxHeartbeats 1000000 in
/-- Not one byte a sample: nothing. -/
theorem readRgbaNoN (I : Nat) (width height depth ct : Int) (bm : Nat) (w : World) (lv : Value)
    (hm : w.cell? ⟨0, 0, none⟩ = some (.map (some bm)))
    (hd0 : 0 ≤ depth) (hd1 : depth ≤ 255) (hd : depth = 0 ∨ 8 < depth) (hl : Look w bm ct lv)
    (h20 : ∀ (w1 : World) (N : Nat), N ≤ 32 → Below w.heap.size w w1 → Calls Tryd.prog 20 #[lv, .int .i64 N] w1 fun e w' => ∃ ao l cp, e = .returned (.slice ao l cp) ∧ Below w1.heap.size w1 w')
    (h21 : ∀ w1, Below w.heap.size w w1 → Calls Tryd.prog 21 #[lv, .int .i64 3] w1 fun e w' => ∃ b, e = .returned (.bool b) ∧ w1 = w') :
    Calls Tryd.prog 17 #[.iface 47 (.pointer (some ⟨I, 0, none⟩)), .agg #[.int .i64 width, .int .i64 height, .int .u8 depth, .int .u8 ct]] w fun e w' => e = .returned (.tuple #[.slice none 0 0, .int .i64 0, .nilFunc]) ∧ Below w.heap.size w w' := by
  obtain ⟨W, hW, g0, g1, g2, g3, go, hb, hsz⟩ := boxes2 w (.int .i64 width) (.int .i64 height) (.int .u8 depth) (.int .u8 ct)
  obtain ⟨N, hN⟩ : ∃ N : Nat, (depth + 7) / 8 = (N : Int) := ⟨((depth + 7) / 8).toNat, by omega⟩
  have HN : Hid (N ≤ 32) := (by omega : N ≤ 32)
  have n1 : ((N : Int) == 1) = false := by rw [beq_eq_false_iff_ne]; omega
  have HW : Hid (W = _) := hW
  have H20 : Hid _ := h20
  have H21 : Hid _ := h21
  have H19 : Hid ((depth + 7) / 8 = (N : Int)) := hN
  have HD0 : Hid (0 ≤ depth) := hd0
  have HD1 : Hid (depth ≤ 255) := hd1
  clear hW h20 h21 hd0 hd1 hd hN
  go_enter Tryd.func17, Tryd.ntmps17
  go_wp2_with (first | (go_at_call 19; refine (sampleBytes_any _ _ HD0.out HD1.out).mono ?_; rintro e wx ⟨rfl, rfl⟩; rw [H19.out]))
  rw [← HW.out]
  refine (one_any _ N _ HN.out go).mono ?_
  rintro e w1 ⟨ao, al, ac, rfl, hb1⟩
  have hbw1 := hb.trans (hb1.mono hsz)
  have m1 := cell_up hbw1 hm
  have t1 := cell_up hb1 g3
  have l1 := hl w1 hbw1
  go_wp2_with fail
  refine (H20.out w1 N HN.out hbw1).mono ?_
  rintro e w2 ⟨ko, kl, kc, rfl, hb2⟩
  have hs1 := hb1.size
  have hB2 := hb1.trans (hb2.mono hs1)
  have hbw2 := hb.trans (hB2.mono hsz)
  clear m1 t1 l1
  have m1 := cell_up hbw2 hm
  have t1 := cell_up hB2 g3
  have l1 := hl w2 hbw2
  go_wp2_with fail
  refine (H21.out w2 hbw2).mono ?_
  rintro e wx ⟨b, rfl, rfl⟩
  clear m1 l1
  have a1 := ta47_58 ⟨I, 0, none⟩
  have a2 := ta47_61 ⟨I, 0, none⟩
  have a3 := ta47_63 ⟨I, 0, none⟩
  have a4 := ta47_36 ⟨I, 0, none⟩
  have a5 := ta47_68 ⟨I, 0, none⟩
  have a6 := ta47_47 ⟨I, 0, none⟩
  have a7 := Go.run_neq_slice_nil_any (P := Tryd.prog) w2 50 3 ko kl kc 0 0 Tryd.underlying50
  cases ko <;> cases b <;> rcases Bool.eq_false_or_eq_true (ct == 6) with h6 | h6
  all_goals go_wp2_with fail
  all_goals go_ret3
  all_goals exact ⟨rfl, hbw2⟩

set_option maxRecDepth 100000 in
set_option maxHeartbeats 1000000 in
/-- Not one byte a sample: nothing. -/
theorem readNrgbaNoN (I : Nat) (width height depth ct : Int) (bm : Nat) (w : World) (lv : Value)
    (hm : w.cell? ⟨0, 0, none⟩ = some (.map (some bm)))
    (hd0 : 0 ≤ depth) (hd1 : depth ≤ 255) (hd : depth = 0 ∨ 8 < depth) (hl : Look w bm ct lv)
    (h20 : ∀ (w1 : World) (N : Nat), N ≤ 32 → Below w.heap.size w w1 → Calls Tryd.prog 20 #[lv, .int .i64 N] w1 fun e w' => ∃ ao l cp, e = .returned (.slice ao l cp) ∧ Below w1.heap.size w1 w')
    (h21 : ∀ w1, Below w.heap.size w w1 → Calls Tryd.prog 21 #[lv, .int .i64 3] w1 fun e w' => ∃ b, e = .returned (.bool b) ∧ w1 = w') :
    Calls Tryd.prog 17 #[.iface 36 (.pointer (some ⟨I, 0, none⟩)), .agg #[.int .i64 width, .int .i64 height, .int .u8 depth, .int .u8 ct]] w fun e w' => e = .returned (.tuple #[.slice none 0 0, .int .i64 0, .nilFunc]) ∧ Below w.heap.size w w' := by
  obtain ⟨W, hW, g0, g1, g2, g3, go, hb, hsz⟩ := boxes2 w (.int .i64 width) (.int .i64 height) (.int .u8 depth) (.int .u8 ct)
  obtain ⟨N, hN⟩ : ∃ N : Nat, (depth + 7) / 8 = (N : Int) := ⟨((depth + 7) / 8).toNat, by omega⟩
  have HN : Hid (N ≤ 32) := (by omega : N ≤ 32)
  have n1 : ((N : Int) == 1) = false := by rw [beq_eq_false_iff_ne]; omega
  have HW : Hid (W = _) := hW
  have H20 : Hid _ := h20
  have H21 : Hid _ := h21
  have H19 : Hid ((depth + 7) / 8 = (N : Int)) := hN
  have HD0 : Hid (0 ≤ depth) := hd0
  have HD1 : Hid (depth ≤ 255) := hd1
  clear hW h20 h21 hd0 hd1 hd hN
  go_enter Tryd.func17, Tryd.ntmps17
  go_wp2_with (first | (go_at_call 19; refine (sampleBytes_any _ _ HD0.out HD1.out).mono ?_; rintro e wx ⟨rfl, rfl⟩; rw [H19.out]))
  rw [← HW.out]
  refine (one_any _ N _ HN.out go).mono ?_
  rintro e w1 ⟨ao, al, ac, rfl, hb1⟩
  have hbw1 := hb.trans (hb1.mono hsz)
  have m1 := cell_up hbw1 hm
  have t1 := cell_up hb1 g3
  have l1 := hl w1 hbw1
  go_wp2_with fail
  refine (H20.out w1 N HN.out hbw1).mono ?_
  rintro e w2 ⟨ko, kl, kc, rfl, hb2⟩
  have hs1 := hb1.size
  have hB2 := hb1.trans (hb2.mono hs1)
  have hbw2 := hb.trans (hB2.mono hsz)
  clear m1 t1 l1
  have m1 := cell_up hbw2 hm
  have t1 := cell_up hB2 g3
  have l1 := hl w2 hbw2
  go_wp2_with fail
  refine (H21.out w2 hbw2).mono ?_
  rintro e wx ⟨b, rfl, rfl⟩
  clear m1 l1
  have a1 := ta36_58 ⟨I, 0, none⟩
  have a2 := ta36_61 ⟨I, 0, none⟩
  have a3 := ta36_63 ⟨I, 0, none⟩
  have a4 := ta36_36 ⟨I, 0, none⟩
  have a7 := Go.run_neq_slice_nil_any (P := Tryd.prog) w2 50 3 ko kl kc 0 0 Tryd.underlying50
  cases ko <;> cases b <;> rcases Bool.eq_false_or_eq_true (ct == 6) with h6 | h6
  all_goals go_wp2_with fail
  all_goals go_ret3
  all_goals exact ⟨rfl, hbw2⟩
end Go.Proofs.Qxb6613510aDoor
