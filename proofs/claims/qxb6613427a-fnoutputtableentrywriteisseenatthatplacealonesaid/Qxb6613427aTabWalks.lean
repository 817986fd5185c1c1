import Derived.Test.Qxb6613427aChunkWalks
import Derived.Deep.QuietTactic
import Derived.BigQuiet
namespace Go.Proofs.Qxb6613427a
open Go.RowKit

theorem table_any (ao : Option Addr) (nc cap n : Nat) (w : World) :
    Calls Try.prog 10 #[.slice ao nc cap, .int .i64 n] w fun e w' => e = .returned (.pointer (some ⟨w.heap.size, 0, none⟩)) ∧ w'.cell? ⟨w.heap.size, 2, none⟩ = some (.slice ao nc cap) ∧ Below w.heap.size w w' := by
  go_enter Try.func10, Try.ntmps10
  go_wp2
  go_ret
  exact ⟨rfl, cell_of_row _ _ _ _ _ _ (heap_alloc_new _ _), (Below.refl _ _).alloc (Nat.le_refl _) _⟩

theorem entryAt_any (T G nc cap gg L P : Nat) (w : World) (hP0 : P < 131072) (h2 : w.cell? ⟨T, 2, none⟩ = some (.slice (some ⟨G, 0, none⟩) nc cap)) (hc : w.cell? ⟨G, P / 4096, none⟩ = some (.slice (some ⟨gg, 0, none⟩) L 4096)) (hP : P / 4096 < nc) (hL : P % 4096 < L) :
    Calls Try.prog 12 #[.pointer (some ⟨T, 0, none⟩), .int .i32 ((P : Int) + 1)] w fun e w' => e = .returned (.pointer (some ⟨gg, P % 4096 * 35, none⟩)) ∧ w' = w := by
  go_enter Try.func12, Try.ntmps12
  go_wp2
  go_ret
  exact ⟨rfl, rfl⟩

theorem index_any (g o : Nat) (x : Int) (w : World) (h : w.cell? ⟨g, o + 32, none⟩ = some (.int .u64 x)) :
    Calls Try.prog 13 #[.pointer (some ⟨g, o, none⟩)] w fun e w' => e = .returned (.int .u64 x) ∧ w' = w := by
  go_enter Try.func13, Try.ntmps13
  go_wp2
  go_ret
  exact ⟨rfl, rfl⟩

theorem recN_any (g o : Nat) (x : Int) (w : World) (h : w.cell? ⟨g, o + 33, none⟩ = some (.int .i64 x)) :
    Calls Try.prog 14 #[.pointer (some ⟨g, o, none⟩)] w fun e w' => e = .returned (.int .i64 x) ∧ w' = w := by
  go_enter Try.func14, Try.ntmps14
  go_wp2
  go_ret
  exact ⟨rfl, rfl⟩

theorem setN_any (g o : Nat) (x v : Int) (w : World) (h : w.cell? ⟨g, o + 33, none⟩ = some (.int .i64 x)) (hf : w.frozen? ⟨g, o + 33, none⟩ = false) :
    Calls Try.prog 16 #[.pointer (some ⟨g, o, none⟩), .int .i64 v] w fun e w' => e = .returned (.tuple #[]) ∧ w' = w.setCell ⟨g, o + 33, none⟩ (.int .i64 v) := by
  go_enter Try.func16, Try.ntmps16
  go_wp2
  go_end0
  exact ⟨rfl, rfl⟩

/-- THE TABLE AS THE LAWS USE IT: T the table's block, G the row of the chunks' heads, g c the block of chunk c. -/
structure TabAt (w : World) (zs : List Int) (len B T G nc cap : Nat) (g : Nat → Nat) : Prop where
  tab : w.cell? ⟨T, 2, none⟩ = some (.slice (some ⟨G, 0, none⟩) nc cap)
  inn : ∀ P, P < len → P / 4096 < nc ∧ P % 4096 < Ln len (P / 4096)
  head : ∀ P, P < len → w.cell? ⟨G, P / 4096, none⟩ = some (.slice (some ⟨g (P / 4096), 0, none⟩) (Ln len (P / 4096)) 4096)
  idx : ∀ P, P < len → w.cell? ⟨g (P / 4096), P % 4096 * 35 + 32, none⟩ = some (.int .u64 P)
  num : ∀ P, P < len → w.cell? ⟨g (P / 4096), P % 4096 * 35 + 33, none⟩ = some (.int .i64 (zs.getD P 0))
  free : ∀ P, P < len → w.frozen? ⟨g (P / 4096), P % 4096 * 35 + 33, none⟩ = false
  inj : ∀ P Q, P < len → Q < len → g (P / 4096) = g (Q / 4096) → P / 4096 = Q / 4096
  apart : ∀ P, P < len → B ≤ g (P / 4096) ∧ g (P / 4096) ≠ G ∧ g (P / 4096) ≠ T

theorem heads_get (g : Nat → Nat) (len nc c : Nat) (h : c < nc) : (heads g len nc)[c]? = some (.slice (some ⟨g c, 0, none⟩) (Ln len c) 4096) := by
  simp [heads, h]

theorem tab_at {w1 : World} {zs : List Int} {len B nc : Nat} {g : Nat → Nat} {cv : Value} (hown : w1.ownsRow B 45 1 cv nc (heads g len nc)) (hch : Chunks w1 zs len B g nc) (h : len ≤ 4096 * nc) (hlen : 0 < len) :
    ∃ G cap, cv = .slice (some ⟨G, 0, none⟩) nc cap ∧ ∀ w2, Below w1.heap.size w1 w2 → w2.cell? ⟨w1.heap.size, 2, none⟩ = some (.slice (some ⟨G, 0, none⟩) nc cap) → TabAt w2 zs len B w1.heap.size G nc cap g := by
  rcases hown.2 with ⟨_, hn⟩ | ⟨G, cap, cur, hv, hBG, hG, hnc, _, hsz, htk⟩
  · omega
  · refine ⟨G, cap, hv, fun w2 hb ht => ?_⟩
    have hGlt : G < w1.heap.size := (Array.getElem?_eq_some_iff.1 hG).1
    have hin : ∀ P, P < len → P / 4096 < nc ∧ P % 4096 < Ln len (P / 4096) := fun P hP => ⟨by omega, by unfold Ln; omega⟩
    have hblk : ∀ P, P < len → ∃ cur : Array Value, w2.heap[g (P / 4096)]? = some (.cells cur 52 (0, 0)) ∧ cur[P % 4096 * 35 + 32]? = some (.int .u64 P) ∧ cur[P % 4096 * 35 + 33]? = some (.int .i64 (zs.getD P 0)) ∧ g (P / 4096) < w1.heap.size ∧ g (P / 4096) ≠ G := by
      intro P hP
      obtain ⟨_, cu, hcu, hr⟩ := hch.1 _ (hin P hP).1
      have hlt : g (P / 4096) < w1.heap.size := (Array.getElem?_eq_some_iff.1 hcu).1
      have h2 := hr _ (hin P hP).2
      rw [show (4096 * ((P / 4096 : Nat) : Int) + ((P % 4096 : Nat) : Int)) = (P : Int) by omega, show 4096 * (P / 4096) + P % 4096 = P by omega] at h2
      refine ⟨cu, (hb.block _ hlt).trans hcu, h2.1, h2.2, hlt, ?_⟩
      intro e
      rw [e, hG] at hcu
      simp at hcu
    refine ⟨ht, hin, ?_, ?_, ?_, ?_, ?_, ?_⟩
    · intro P hP
      rw [hb.cell (by exact hGlt), cell_of_row _ _ _ _ _ _ hG]
      have := heads_get g len nc _ (hin P hP).1
      rw [← htk, List.getElem?_take, if_pos (by have := (hin P hP).1; omega)] at this
      simpa using this
    · intro P hP
      obtain ⟨cu, h1, h2, _⟩ := hblk P hP
      rw [cell_of_row _ _ _ _ _ _ h1, h2]
    · intro P hP
      obtain ⟨cu, h1, _, h3, _⟩ := hblk P hP
      rw [cell_of_row _ _ _ _ _ _ h1, h3]
    · intro P hP
      obtain ⟨cu, h1, _⟩ := hblk P hP
      exact frozen_of_row _ _ _ _ _ h1
    · intro P Q hP hQ e
      exact hch.2 _ _ (hin P hP).1 (hin Q hQ).1 e
    · intro P hP
      obtain ⟨cu, _, _, _, h4, h5⟩ := hblk P hP
      exact ⟨(hch.1 _ (hin P hP).1).1, h5, by omega⟩
end Go.Proofs.Qxb6613427a
