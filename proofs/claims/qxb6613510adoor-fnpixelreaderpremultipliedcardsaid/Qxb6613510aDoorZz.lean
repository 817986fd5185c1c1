import Derived.Test.Qxb6613510aDoorLook
namespace Go.Proofs.Qxb6613510aDoor
open Go.RowKit
set_option linter.unusedVariables false
open Go.Op in
theorem neqFun (k : Nat) (caps : Array Value) (w : World) : (binOp .neq 33 (.func (.func k) #[] caps) .nilFunc).run Tryd.prog w = .ok (.bool true) w := by kernel_rfl
open Go.Op in
theorem neqNil (w : World) : (binOp .neq 33 .nilFunc .nilFunc).run Tryd.prog w = .ok (.bool false) w := by kernel_rfl

set_option maxRecDepth 100000 in
set_option maxHeartbeats 1000000 in
theorem zzRgba (pao so oo : Option Addr) (np m n : Nat) (stride width height depth ct : Int) (w : World) (Q : World → Value → Prop) (R : World → World → Prop)
    (h17 : ∀ w1 I, Below w.heap.size w w1 → w1.cell? ⟨I, 0, none⟩ = some (.slice pao np np) → w1.cell? ⟨I, 1, none⟩ = some (.int .i64 stride) → Calls Tryd.prog 17 #[.iface 47 (.pointer (some ⟨I, 0, none⟩)), .agg #[.int .i64 width, .int .i64 height, .int .u8 depth, .int .u8 ct]] w1 fun e w' => ∃ F, e = .returned (.tuple #[.slice pao np np, .int .i64 stride, F]) ∧ Q w' F ∧ Below w1.heap.size w1 w')
    (hQ : ∀ w1 F, Below w.heap.size w w1 → Q w1 F → ∃ k caps, F = .func (.func k) #[] caps ∧ (k = 23 ∨ k = 30 ∨ k = 33 ∨ k = 34) ∧ Calls Tryd.prog k (#[.slice oo n n, .slice so m m] ++ caps) w1 fun e w' => e = .returned (.tuple #[]) ∧ R w1 w') :
    Calls Tryd.prog 12 #[.slice pao np np, .int .i64 stride, .int .i64 width, .int .i64 height, .int .u8 depth, .int .u8 ct, .slice oo n n, .slice so m m] w fun e w' => e = .returned (.tuple #[.slice pao np np, .int .i64 stride, .bool true]) ∧ ∃ w1, Below w.heap.size w w1 ∧ R w1 w' := by
  have H17 : Hid _ := h17
  have HQ : Hid _ := hQ
  clear h17 hQ
  go_enter Tryd.func12, Tryd.ntmps12
  go_wp2_with fail
  obtain ⟨w0, e0⟩ : ∃ w0, w0 = w.alloc (.cells #[.slice pao np np, .int .i64 stride, .int .i64 0, .int .i64 0, .int .i64 0, .int .i64 0] 48) := ⟨_, rfl⟩
  have hb0 : Below w.heap.size w w0 := by rw [e0]; exact (Below.refl _ _).alloc (Nat.le_refl _) _
  have c0 : w0.cell? ⟨w.heap.size, 0, none⟩ = some (.slice pao np np) := by rw [e0, cell_of_row _ _ _ _ _ _ (heap_alloc_new w _)]; rfl
  have c1 : w0.cell? ⟨w.heap.size, 1, none⟩ = some (.int .i64 stride) := by rw [e0, cell_of_row _ _ _ _ _ _ (heap_alloc_new w _)]; rfl
  rw [← e0]
  refine (H17.out w0 w.heap.size hb0 c0 c1).mono ?_
  rintro e w1 ⟨F, rfl, hF, hb1⟩
  have hbw := hb0.trans (hb1.mono hb0.size)
  obtain ⟨k, caps, rfl, kk, hk⟩ := HQ.out w1 F hbw hF
  have HK : Hid _ := hk
  clear hk hF
  have a1 := neqFun k caps
  rcases kk with rfl | rfl | rfl | rfl
  all_goals go_wp2_with fail
  all_goals refine Calls.mono HK.out ?_
  all_goals rintro e w2 ⟨rfl, hR⟩
  all_goals go_wp2_with fail
  all_goals go_ret3
  all_goals exact ⟨rfl, w1, hbw, hR⟩

set_option maxRecDepth 100000 in
set_option maxHeartbeats 1000000 in
theorem zzNrgba (pao so oo : Option Addr) (np m n : Nat) (stride width height depth ct : Int) (w : World) (Q : World → Value → Prop) (R : World → World → Prop)
    (h17 : ∀ w1 I, Below w.heap.size w w1 → w1.cell? ⟨I, 0, none⟩ = some (.slice pao np np) → w1.cell? ⟨I, 1, none⟩ = some (.int .i64 stride) → Calls Tryd.prog 17 #[.iface 36 (.pointer (some ⟨I, 0, none⟩)), .agg #[.int .i64 width, .int .i64 height, .int .u8 depth, .int .u8 ct]] w1 fun e w' => ∃ F, e = .returned (.tuple #[.slice pao np np, .int .i64 stride, F]) ∧ Q w' F ∧ Below w1.heap.size w1 w')
    (hQ : ∀ w1 F, Below w.heap.size w w1 → Q w1 F → ∃ k caps, F = .func (.func k) #[] caps ∧ (k = 23 ∨ k = 30 ∨ k = 33 ∨ k = 34) ∧ Calls Tryd.prog k (#[.slice oo n n, .slice so m m] ++ caps) w1 fun e w' => e = .returned (.tuple #[]) ∧ R w1 w') :
    Calls Tryd.prog 8 #[.slice pao np np, .int .i64 stride, .int .i64 width, .int .i64 height, .int .u8 depth, .int .u8 ct, .slice oo n n, .slice so m m] w fun e w' => e = .returned (.tuple #[.slice pao np np, .int .i64 stride, .bool true]) ∧ ∃ w1, Below w.heap.size w w1 ∧ R w1 w' := by
  have H17 : Hid _ := h17
  have HQ : Hid _ := hQ
  clear h17 hQ
  go_enter Tryd.func8, Tryd.ntmps8
  go_wp2_with fail
  obtain ⟨w0, e0⟩ : ∃ w0, w0 = w.alloc (.cells #[.slice pao np np, .int .i64 stride, .int .i64 0, .int .i64 0, .int .i64 0, .int .i64 0] 42) := ⟨_, rfl⟩
  have hb0 : Below w.heap.size w w0 := by rw [e0]; exact (Below.refl _ _).alloc (Nat.le_refl _) _
  have c0 : w0.cell? ⟨w.heap.size, 0, none⟩ = some (.slice pao np np) := by rw [e0, cell_of_row _ _ _ _ _ _ (heap_alloc_new w _)]; rfl
  have c1 : w0.cell? ⟨w.heap.size, 1, none⟩ = some (.int .i64 stride) := by rw [e0, cell_of_row _ _ _ _ _ _ (heap_alloc_new w _)]; rfl
  rw [← e0]
  refine (H17.out w0 w.heap.size hb0 c0 c1).mono ?_
  rintro e w1 ⟨F, rfl, hF, hb1⟩
  have hbw := hb0.trans (hb1.mono hb0.size)
  obtain ⟨k, caps, rfl, kk, hk⟩ := HQ.out w1 F hbw hF
  have HK : Hid _ := hk
  clear hk hF
  have a1 := neqFun k caps
  rcases kk with rfl | rfl | rfl | rfl
  all_goals go_wp2_with fail
  all_goals refine Calls.mono HK.out ?_
  all_goals rintro e w2 ⟨rfl, hR⟩
  all_goals go_wp2_with fail
  all_goals go_ret3
  all_goals exact ⟨rfl, w1, hbw, hR⟩

set_option maxRecDepth 100000 in
set_option maxHeartbeats 1000000 in
theorem zzRgbaNo (pao so oo : Option Addr) (np m n : Nat) (stride width height depth ct : Int) (w : World)
    (h17 : ∀ w1 I, Below w.heap.size w w1 → Calls Tryd.prog 17 #[.iface 47 (.pointer (some ⟨I, 0, none⟩)), .agg #[.int .i64 width, .int .i64 height, .int .u8 depth, .int .u8 ct]] w1 fun e w' => e = .returned (.tuple #[.slice none 0 0, .int .i64 0, .nilFunc]) ∧ Below w1.heap.size w1 w') :
    Calls Tryd.prog 12 #[.slice pao np np, .int .i64 stride, .int .i64 width, .int .i64 height, .int .u8 depth, .int .u8 ct, .slice oo n n, .slice so m m] w fun e w' => e = .returned (.tuple #[.slice none 0 0, .int .i64 0, .bool false]) ∧ Below w.heap.size w w' := by
  have H17 : Hid _ := h17
  clear h17
  go_enter Tryd.func12, Tryd.ntmps12
  go_wp2_with fail
  obtain ⟨w0, e0⟩ : ∃ w0, w0 = w.alloc (.cells #[.slice pao np np, .int .i64 stride, .int .i64 0, .int .i64 0, .int .i64 0, .int .i64 0] 48) := ⟨_, rfl⟩
  have hb0 : Below w.heap.size w w0 := by rw [e0]; exact (Below.refl _ _).alloc (Nat.le_refl _) _
  rw [← e0]
  refine (H17.out w0 w.heap.size hb0).mono ?_
  rintro e w1 ⟨rfl, hb1⟩
  have hbw := hb0.trans (hb1.mono hb0.size)
  have a1 := neqNil
  go_wp2_with fail
  go_ret3
  exact ⟨rfl, hbw⟩

set_option maxRecDepth 100000 in
set_option maxHeartbeats 1000000 in
theorem zzNrgbaNo (pao so oo : Option Addr) (np m n : Nat) (stride width height depth ct : Int) (w : World)
    (h17 : ∀ w1 I, Below w.heap.size w w1 → Calls Tryd.prog 17 #[.iface 36 (.pointer (some ⟨I, 0, none⟩)), .agg #[.int .i64 width, .int .i64 height, .int .u8 depth, .int .u8 ct]] w1 fun e w' => e = .returned (.tuple #[.slice none 0 0, .int .i64 0, .nilFunc]) ∧ Below w1.heap.size w1 w') :
    Calls Tryd.prog 8 #[.slice pao np np, .int .i64 stride, .int .i64 width, .int .i64 height, .int .u8 depth, .int .u8 ct, .slice oo n n, .slice so m m] w fun e w' => e = .returned (.tuple #[.slice none 0 0, .int .i64 0, .bool false]) ∧ Below w.heap.size w w' := by
  have H17 : Hid _ := h17
  clear h17
  go_enter Tryd.func8, Tryd.ntmps8
  go_wp2_with fail
  obtain ⟨w0, e0⟩ : ∃ w0, w0 = w.alloc (.cells #[.slice pao np np, .int .i64 stride, .int .i64 0, .int .i64 0, .int .i64 0, .int .i64 0] 42) := ⟨_, rfl⟩
  have hb0 : Below w.heap.size w w0 := by rw [e0]; exact (Below.refl _ _).alloc (Nat.le_refl _) _
  rw [← e0]
  refine (H17.out w0 w.heap.size hb0).mono ?_
  rintro e w1 ⟨rfl, hb1⟩
  have hbw := hb0.trans (hb1.mono hb0.size)
  have a1 := neqNil
  go_wp2_with fail
  go_ret3
  exact ⟨rfl, hbw⟩
end Go.Proofs.Qxb6613510aDoor
