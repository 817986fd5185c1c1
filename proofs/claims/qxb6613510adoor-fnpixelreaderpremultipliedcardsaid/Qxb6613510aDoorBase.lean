import Derived.Test.Qxb6613510aDoorRows
import Derived.WalkKit
import Derived.WalkSpells
import Derived.WalkLawsBesides
import Derived.Deep.OwnRows
import Derived.Laws.CopyOwn
import Derived.LaidEqlPtr
import Derived.Deep.QuietTactic
import Derived.BigQuiet
import Derived.WalkSmall
namespace Go.Proofs.Qxb6613510aDoor
open Go.RowKit

theorem info5 : (Tryd.prog.info? 5).map (fun i => (i.zero, i.size, i.bytes)) = some (some (.int .u8 0), 1, 1) := by kernel_rfl
theorem size5 : (Tryd.prog.info? 5).map (·.size) = some 1 := by kernel_rfl

/-- A row's cells, as bytes. -/
def byteV (f : Nat → Int) : Nat → Value := fun i => .int .u8 (f i)
/-- The bytes from 0 to n are bytes. -/
def Byts (n : Nat) (f : Nat → Int) : Prop := ∀ i, i < n → 0 ≤ f i ∧ f i ≤ 255

/-- A slice that is read: n bytes f from its address on. -/
def Src (w : World) (ao : Option Addr) (n : Nat) (f : Nat → Int) : Prop :=
  n = 0 ∨ ∃ b off, ao = some ⟨b, off, none⟩ ∧ ∀ i, i < n → w.cell? ⟨b, off + i, none⟩ = some (.int .u8 (f i))

theorem Src.below {w w' : World} {ao : Option Addr} {n : Nat} {f : Nat → Int} (h : Src w ao n f) (hb : Below w.heap.size w w') : Src w' ao n f := by
  rcases h with h | ⟨b, off, h1, h2⟩
  · exact .inl h
  · refine .inr ⟨b, off, h1, fun i hi => ?_⟩
    have := h2 i hi
    rw [hb.cell (block_lt_of_cell this), this]

/-- A slice of the call's own: nil, or a row of n bytes f from block B on. -/
def Own (w : World) (B : Nat) (ao : Option Addr) (n : Nat) (f : Nat → Int) : Prop :=
  (ao = none ∧ n = 0) ∨ ∃ G, ao = some ⟨G, 0, none⟩ ∧ B ≤ G ∧ w.rowIs G 5 n (byteV f)

theorem row_below {w w' : World} {B G n : Nat} {t : TypeId} {f : Nat → Value} (h : w.rowIs G t n f) (hb : Below B w w') (hG : G < B) : w'.rowIs G t n f := h.of_block (hb.block G hG)

theorem Own.below {w w' : World} {B : Nat} {ao : Option Addr} {n : Nat} {f : Nat → Int} (h : Own w B ao n f) (hb : Below w.heap.size w w') : Own w' B ao n f := by
  rcases h with h | ⟨G, h1, h2, h3⟩
  · exact .inl h
  · exact .inr ⟨G, h1, h2, row_below h3 hb h3.lt⟩

theorem Own.src {w : World} {B : Nat} {ao : Option Addr} {n : Nat} {f : Nat → Int} (h : Own w B ao n f) : Src w ao n f := by
  rcases h with h | ⟨G, h1, h2, h3⟩
  · exact .inl h.2
  · exact .inr ⟨G, 0, h1, fun i hi => by rw [Nat.zero_add]; exact h3.cell hi⟩

/-- The cells that a copy carries over. -/
def carried (n : Nat) (f : Nat → Int) : List Value := (List.range n).map fun i => .int .u8 (f i)
theorem carried_len (n : Nat) (f : Nat → Int) : (carried n f).length = n := by simp [carried]
theorem carried_one (n : Nat) (f : Nat → Int) : ∀ v ∈ carried n f, v.oneCell' = true := by
  intro v hv
  simp only [carried, List.mem_map] at hv
  obtain ⟨i, _, rfl⟩ := hv
  rfl
theorem carried_get (n : Nat) (f : Nat → Int) (j : Nat) (v : Value) (h : (carried n f)[j]? = some v) : j < n ∧ v = .int .u8 (f j) := by
  have hj : j < n := by
    rcases Nat.lt_or_ge j n with h1 | h1
    · exact h1
    · rw [List.getElem?_eq_none (by rw [carried_len]; exact h1)] at h; simp at h
  refine ⟨hj, ?_⟩
  simp [carried, hj] at h
  exact h.symm

theorem src_cells {w : World} {ao : Option Addr} {n : Nat} {f : Nat → Int} (h : Src w ao n f) (hp : 0 < n) : ∃ ad, ao = some ad ∧ ∀ j v, (carried n f)[j]? = some v → w.cell? (ad.add j) = some v := by
  rcases h with h | ⟨b, off, h1, h2⟩
  · omega
  · refine ⟨_, h1, fun j v hv => ?_⟩
    obtain ⟨hj, rfl⟩ := carried_get n f j v hv
    have hplain : (⟨b, off, none⟩ : Addr).add j = ⟨b, off + j, none⟩ := by unfold Addr.add; split <;> simp_all
    rw [hplain]
    exact h2 j hj

theorem splice_all {L : List Value} {n : Nat} {f : Nat → Int} (hL : L.length = n) : splice L 0 (carried n f) = carried n f := by
  have hl := carried_len n f
  unfold splice
  rw [Nat.zero_add, List.take_zero, List.nil_append, List.drop_of_length_le (by omega), List.append_nil]

theorem row_of_carried {w : World} {G n : Nat} {f : Nat → Int} (h : w.heap[G]? = some (.cells (carried n f).toArray 5 (0, 0))) : w.rowIs G 5 n (byteV f) := by
  refine ⟨_, h, by simp [carried], fun i hi => ?_⟩
  simp [carried, byteV, hi]

/-- What 'make' leaves, as the copy wants it. -/
theorem made_cells {w1 : World} {G n : Nat} {xs : List Value} {B : Nat} (h : w1.ownsRow B 5 1 (.slice (some ⟨G, 0, none⟩) n n) n xs) : ∃ cur : List Value, w1.heap[G]? = some (.cells cur.toArray 5 (0, 0)) ∧ cur.length = n := by
  rcases h.2 with ⟨hv, _⟩ | ⟨g', cap', cur, hv, _, hg, _, _, hs, _⟩
  · simp at hv
  · simp only [Value.slice.injEq, Option.some.injEq, Addr.mk.injEq, and_true] at hv
    obtain ⟨rfl, _, rfl⟩ := hv
    exact ⟨cur.toList, by simpa using hg, by simpa using hs⟩

theorem clone_some (x : Addr) (n c : Nat) (f : Nat → Int) (w : World) (hn : n ≤ 1048576) (hs : Src w (some x) n f) :
    Calls Tryd.prog 7 #[.slice (some x) n c] w fun e w' => e = .returned (.slice (some ⟨w.heap.size, 0, none⟩) n n) ∧ w'.rowIs w.heap.size 5 n (byteV f) ∧ Below w.heap.size w w' := by
  obtain ⟨i5, hi, hz0, hz1, hz2⟩ := info_parts info5
  have hq := Go.Lib.run_eql_slice_nil (P := Tryd.prog) w 22 5 (some x) n c 0 0 Tryd.underlying22
  go_enter Tryd.func7, Tryd.ntmps7
  go_wp2_with (first | (at_make; refine wpList_make_full _ rfl _ _ 22 rfl w.heap.size 5 i5 (.int .u8 0) 1 Tryd.underlying22 hi hz0 hz1 _ _ _ _ n rfl rfl rfl rfl (by rw [hz2]; omega) (by unfold maxLen; omega) (Nat.le_refl _) ?_))
  intro w1 ho1 hg1
  obtain ⟨cur, hcur, hlen⟩ := made_cells ho1
  have hb1 : Below w.heap.size w w1 := (Below.refl _ _).grown hg1 (Nat.le_refl _) (by simp)
  have hs1 := hs.below hb1
  clear ho1 hg1
  go_wp2_with (first | (refine wpList_copy_splice rfl _ _ 22 22 rfl 5 Tryd.underlying22 size5 _ _ _ _ _ _ rfl rfl w.heap.size 0 cur 5 hcur (carried n f) (by rw [carried_len]; exact (Nat.min_self n).symm) (fun hp => ⟨rfl, src_cells hs1 (by rw [carried_len] at hp; exact hp)⟩) (by rw [carried_len]; omega) (carried_one n f) w.heap.size w hb1 (Nat.le_refl _) ?_))
  intro w2 hr2 hb2
  have hr := hr2.out
  rw [splice_all hlen] at hr
  have R := row_of_carried hr
  clear hr hr2 hcur hs1 hb1
  go_wp2
  go_ret
  exact ⟨rfl, R, hb2⟩

theorem clone_nil (c : Nat) (w : World) :
    Calls Tryd.prog 7 #[.slice none 0 c] w fun e w' => e = .returned (.slice none 0 0) ∧ w = w' := by
  have hq := Go.Lib.run_eql_slice_nil (P := Tryd.prog) w 22 5 none 0 c 0 0 Tryd.underlying22
  go_enter Tryd.func7, Tryd.ntmps7
  go_wp2
  go_ret
  exact ⟨rfl, rfl⟩

theorem clone_any (ao : Option Addr) (n c : Nat) (f : Nat → Int) (w : World) (hn : n ≤ 1048576) (h0 : ao = none → n = 0) (hs : Src w ao n f) :
    Calls Tryd.prog 7 #[.slice ao n c] w fun e w' => ∃ ao', e = .returned (.slice ao' n n) ∧ Own w' w.heap.size ao' n f ∧ Below w.heap.size w w' := by
  cases ao with
  | none =>
    obtain rfl := h0 rfl
    exact (clone_nil c w).mono fun e w' ⟨he, hw⟩ => ⟨none, he, .inl ⟨rfl, rfl⟩, by rw [← hw]; exact Below.refl _ _⟩
  | some x => exact (clone_some x n c f w hn hs).mono fun e w' ⟨he, hr, hb⟩ => ⟨_, he, .inr ⟨_, rfl, Nat.le_refl _, hr⟩, hb⟩

end Go.Proofs.Qxb6613510aDoor
