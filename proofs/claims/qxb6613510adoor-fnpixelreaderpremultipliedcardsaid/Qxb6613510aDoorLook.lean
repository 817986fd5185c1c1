import Derived.Test.Qxb6613510aDoorMakers
import Derived.Deep.RegionWith
namespace Go.Proofs.Qxb6613510aDoor
open Go.RowKit
set_option linter.unusedVariables false

/-- A look-up, in whatever later world. -/
def Look (w : World) (bm : Nat) (ct : Int) (v : Value) : Prop := ∀ w', Below w.heap.size w w' → (Instr.lookup 56 (.map (some bm)) (.int .u8 ct) false).run Tryd.prog w' = .ok v w'
/-- The samples of a colour type, as the map holds them. -/
def Samples (w : World) (bm : Nat) (ct : Int) (L : Nat) (zs : Nat → Int) : Prop := ∃ sb so c, Look w bm ct (.slice (some ⟨sb, so, none⟩) L c) ∧ ∀ i, i < L → w.cell? ⟨sb, so + i, none⟩ = some (.int .i64 (zs i))
def id3 : Nat → Int := fun i => i

theorem one_any (b : Nat) (n : Nat) (w : World) (hn : n ≤ 32) (h : w.cell? ⟨b, 0, none⟩ = some (.int .i64 0)) : Calls Tryd.prog 20 #[.slice (some ⟨b, 0, none⟩) 1 1, .int .i64 n] w fun e w' => ∃ ao l cp, e = .returned (.slice ao l cp) ∧ Below w.heap.size w w' :=
  offs_any b 0 1 1 (fun _ => 0) n w hn (by omega) (fun i _ => by omega) (fun i hi => by rw [show 0 + i = 0 by omega]; exact h)


theorem cell_up {W w' : World} {x : Addr} {v : Value} (hb : Below W.heap.size W w') (h : W.cell? x = some v) : w'.cell? x = some v := by rw [hb.cell (block_lt_of_cell h), h]

/-- The header's box and the one-sample list. -/
theorem boxes2 (w : World) (h0 h1 h2 h3 : Value) : ∃ W, W = (w.alloc (.cells #[h0, h1, h2, h3] 44)).alloc (.cells #[.int .i64 0] 3) ∧ W.cell? ⟨w.heap.size, 0, none⟩ = some h0 ∧ W.cell? ⟨w.heap.size, 1, none⟩ = some h1 ∧ W.cell? ⟨w.heap.size, 2, none⟩ = some h2 ∧ W.cell? ⟨w.heap.size, 3, none⟩ = some h3 ∧ W.cell? ⟨w.heap.size + 1, 0, none⟩ = some (.int .i64 0) ∧ Below w.heap.size w W ∧ w.heap.size ≤ W.heap.size := by
  have hc : ∀ i v, (#[h0, h1, h2, h3] : Array Value)[i]? = some v → ((w.alloc (.cells #[h0, h1, h2, h3] 44)).alloc (.cells #[.int .i64 0] 3)).cell? ⟨w.heap.size, i, none⟩ = some v := fun i v hv => Go.Lib.cell?_alloc_some _ (by rw [cell_of_row _ _ _ _ _ _ (heap_alloc_new w _)]; exact hv)
  refine ⟨_, rfl, hc 0 _ rfl, hc 1 _ rfl, hc 2 _ rfl, hc 3 _ rfl, ?_, ((Below.refl _ _).alloc (Nat.le_refl _) _).alloc (by simp) _, by simp; omega⟩
  have h := cell_of_row _ _ 0 _ _ _ (heap_alloc_new (w.alloc (.cells #[h0, h1, h2, h3] 44)) (.cells #[.int .i64 0] 3))
  rwa [show (w.alloc (.cells #[h0, h1, h2, h3] 44)).heap.size = w.heap.size + 1 by simp] at h

theorem ta47_58 (a : Addr) (w : World) : (Instr.typeAssert (.iface 47 (.pointer (some a))) 53 58 true).run Tryd.prog w = .ok (.tuple #[.pointer none, .bool false]) w := by kernel_rfl
theorem ta47_61 (a : Addr) (w : World) : (Instr.typeAssert (.iface 47 (.pointer (some a))) 53 61 true).run Tryd.prog w = .ok (.tuple #[.pointer none, .bool false]) w := by kernel_rfl
theorem ta47_63 (a : Addr) (w : World) : (Instr.typeAssert (.iface 47 (.pointer (some a))) 53 63 true).run Tryd.prog w = .ok (.tuple #[.pointer none, .bool false]) w := by kernel_rfl
theorem ta47_36 (a : Addr) (w : World) : (Instr.typeAssert (.iface 47 (.pointer (some a))) 53 36 true).run Tryd.prog w = .ok (.tuple #[.pointer none, .bool false]) w := by kernel_rfl
theorem ta47_68 (a : Addr) (w : World) : (Instr.typeAssert (.iface 47 (.pointer (some a))) 53 68 true).run Tryd.prog w = .ok (.tuple #[.pointer none, .bool false]) w := by kernel_rfl
theorem ta47_47 (a : Addr) (w : World) : (Instr.typeAssert (.iface 47 (.pointer (some a))) 53 47 true).run Tryd.prog w = .ok (.tuple #[.pointer (some a), .bool true]) w := by kernel_rfl
theorem ta36_58 (a : Addr) (w : World) : (Instr.typeAssert (.iface 36 (.pointer (some a))) 53 58 true).run Tryd.prog w = .ok (.tuple #[.pointer none, .bool false]) w := by kernel_rfl
theorem ta36_61 (a : Addr) (w : World) : (Instr.typeAssert (.iface 36 (.pointer (some a))) 53 61 true).run Tryd.prog w = .ok (.tuple #[.pointer none, .bool false]) w := by kernel_rfl
theorem ta36_63 (a : Addr) (w : World) : (Instr.typeAssert (.iface 36 (.pointer (some a))) 53 63 true).run Tryd.prog w = .ok (.tuple #[.pointer none, .bool false]) w := by kernel_rfl
theorem ta36_36 (a : Addr) (w : World) : (Instr.typeAssert (.iface 36 (.pointer (some a))) 53 36 true).run Tryd.prog w = .ok (.tuple #[.pointer (some a), .bool true]) w := by kernel_rfl
end Go.Proofs.Qxb6613510aDoor
