import Derived.Test.Qxb6613427aEntWalks
import Derived.Deep.AppendLies
namespace Go.Proofs.Qxb6613427a
open Go.RowKit

/-- How many entries chunk c of len entries holds. -/
def Ln (len c : Nat) : Nat := min 4096 (len - 4096 * c)

/-- The cells xs hold the first n entries of chunk c. -/
def entsOk (zs : List Int) (c n : Nat) (xs : List Value) : Prop :=
  ∀ j, j < n → xs[j * 35 + 32]? = some (.int .u64 (4096 * (c : Int) + j)) ∧ xs[j * 35 + 33]? = some (.int .i64 (zs.getD (4096 * c + j) 0))

theorem ents_nil (zs : List Int) (c : Nat) : entsOk zs c 0 [] := fun j h => absurd h (by omega)

theorem ents_snoc {zs : List Int} {c n : Nat} {xs : List Value} (h : entsOk zs c n xs) (hl : xs.length = n * 35) :
    entsOk zs c (n + 1) (xs ++ (ent (4096 * (c : Int) + n) (zs.getD (4096 * c + n) 0)).toList) := by
  intro j hj
  by_cases e : j < n
  · have := h j e
    rw [List.getElem?_append_left (by omega), List.getElem?_append_left (by omega)]
    exact this
  · have e : j = n := by omega
    subst e
    rw [List.getElem?_append_right (by omega), List.getElem?_append_right (by omega), hl]
    rw [show j * 35 + 32 - j * 35 = 32 by omega, show j * 35 + 33 - j * 35 = 33 by omega]
    exact ⟨rfl, rfl⟩

theorem ent_list_one (a b : Int) : ∀ u ∈ (ent a b).toList, u.oneCell' = true := by
  have h := ent_one a b
  rw [Array.all_eq_true_iff_forall_mem] at h
  intro u hu
  exact h u (by simpa using hu)

/-- Block g is chunk c: it holds its first n entries. -/
def chunkIs (w : World) (zs : List Int) (g c n : Nat) : Prop :=
  ∃ cur : Array Value, w.heap[g]? = some (.cells cur 52 (0, 0)) ∧ ∀ j, j < n → cur[j * 35 + 32]? = some (.int .u64 (4096 * (c : Int) + j)) ∧ cur[j * 35 + 33]? = some (.int .i64 (zs.getD (4096 * c + j) 0))

theorem chunkIs.lt {w : World} {zs : List Int} {g c n : Nat} (h : chunkIs w zs g c n) : g < w.heap.size := by
  obtain ⟨cur, hg, _⟩ := h
  exact (Array.getElem?_eq_some_iff.1 hg).1

theorem chunkIs.of_block {w w' : World} {zs : List Int} {g c n : Nat} (h : chunkIs w zs g c n) (e : w'.heap[g]? = w.heap[g]?) : chunkIs w' zs g c n := by
  obtain ⟨cur, hg, hc⟩ := h
  exact ⟨cur, e.trans hg, hc⟩

theorem chunk_of_owns {w : World} {zs : List Int} {B g c n cap : Nat} {xs : List Value} (h : w.ownsRow B 52 35 (.slice (some ⟨g, 0, none⟩) n cap) n xs) (he : entsOk zs c n xs) : chunkIs w zs g c n := by
  obtain ⟨hl, h2⟩ := h
  rcases h2 with ⟨hv, _⟩ | ⟨g', cap', cur, hv, _, hg, _, _, _, ht⟩
  · simp at hv
  · simp only [Value.slice.injEq, Option.some.injEq, Addr.mk.injEq, and_true] at hv
    obtain ⟨rfl, _, _⟩ := hv
    refine ⟨cur, hg, fun j hj => ?_⟩
    have h3 := he j hj
    rw [← ht, List.getElem?_take, List.getElem?_take, if_pos (by omega), if_pos (by omega)] at h3
    simpa using h3

theorem owns_below {w w' : World} {base : Nat} {e : TypeId} {size : Nat} {v : Value} {n : Nat} {xs : List Value} (h : w.ownsRow base e size v n xs) (hb : Below w.heap.size w w') : w'.ownsRow base e size v n xs := by
  refine ⟨h.1, ?_⟩
  rcases h.2 with h2 | ⟨g, cap, cur, hv, hg, hh, h3⟩
  · exact .inl h2
  · exact .inr ⟨g, cap, cur, hv, hg, (hb.block g (Array.getElem?_eq_some_iff.1 hh).1).trans hh, h3⟩

/-- The chunks so far: g c is the block of chunk c; no two are one. -/
def Chunks (w : World) (zs : List Int) (len B : Nat) (g : Nat → Nat) (nc : Nat) : Prop :=
  (∀ c, c < nc → B ≤ g c ∧ chunkIs w zs (g c) c (Ln len c)) ∧ ∀ c c', c < nc → c' < nc → g c = g c' → c = c'

def heads (g : Nat → Nat) (len nc : Nat) : List Value := (List.range nc).map fun c => .slice (some ⟨g c, 0, none⟩) (Ln len c) 4096

theorem heads_succ (g : Nat → Nat) (len nc G : Nat) : heads (fun c => if c = nc then G else g c) len (nc + 1) = heads g len nc ++ [.slice (some ⟨G, 0, none⟩) (Ln len nc) 4096] := by
  unfold heads
  rw [List.range_succ, List.map_append]
  congr 1
  · apply List.map_congr_left
    intro c hc
    have : c ≠ nc := by have := List.mem_range.1 hc; omega
    simp [this]
  · simp

/-- One chunk more. -/
theorem tab_step {w wr w2 w5 : World} {zs : List Int} {len B nc n : Nat} {g : Nat → Nat} {cv cv' : Value} {xs : List Value} {o : Obj}
    (hB : B ≤ wr.heap.size) (hn : n = Ln len nc) (hown : wr.ownsRow B 45 1 cv nc (heads g len nc)) (hch : Chunks wr zs len B g nc) (hbl : Below B w wr)
    (hb2 : Below wr.heap.size wr w2) (ho2 : w2.ownsRow B 52 35 (.slice (some ⟨wr.heap.size, 0, none⟩) n 4096) n xs) (he : entsOk zs nc n xs)
    (hown5 : w5.ownsRow B 45 1 cv' (nc + 1) (heads g len nc ++ [.slice (some ⟨wr.heap.size, 0, none⟩) n 4096])) (hgrow : (w2.alloc o).grownBy w5 cv.ownBlock) :
    ∃ g', w5.ownsRow B 45 1 cv' (nc + 1) (heads g' len (nc + 1)) ∧ Chunks w5 zs len B g' (nc + 1) ∧ Below B w w5 := by
  subst hn
  have hck := chunk_of_owns ho2 he
  have hsz := hb2.size
  -- a block of type 52 is not the row of the chunks' heads
  have far : ∀ (k : Nat) (cur : Array Value), w2.heap[k]? = some (Obj.cells cur 52 (0, 0)) → w5.heap[k]? = w2.heap[k]? := by
    intro k cur hk
    have hlt : k < w2.heap.size := (Array.getElem?_eq_some_iff.1 hk).1
    refine (hgrow.block k (by simp; omega) ?_).trans (Below.heap_alloc _ _ _ hlt)
    intro e
    have ho := owns_below hown hb2
    rcases ho.2 with ⟨hv, _⟩ | ⟨gg, cap, cur', hv, _, hh, _⟩
    · rw [hv] at e; simp [Value.ownBlock] at e
    · rw [hv] at e
      simp [Value.ownBlock] at e
      subst e
      rw [hh] at hk
      simp at hk
  refine ⟨fun c => if c = nc then wr.heap.size else g c, by rw [heads_succ]; exact hown5, ⟨?_, ?_⟩, ?_⟩
  · intro c hc
    by_cases e : c = nc
    · subst e
      simp only [if_true]
      obtain ⟨cur, hcur, hr⟩ := hck
      exact ⟨hB, cur, (far _ _ hcur).trans hcur, hr⟩
    · simp only [e, if_false]
      obtain ⟨h1, cur, hcur, hr⟩ := hch.1 c (by omega)
      have hlt : g c < wr.heap.size := (Array.getElem?_eq_some_iff.1 hcur).1
      have h2 : w2.heap[g c]? = some (.cells cur 52 (0, 0)) := (hb2.block _ hlt).trans hcur
      exact ⟨h1, cur, (far _ _ h2).trans h2, hr⟩
  · intro c c' hc hc' hg
    by_cases e : c = nc <;> by_cases e' : c' = nc
    · omega
    · simp only [e, if_true, e', if_false] at hg
      have := (hch.1 c' (by omega)).2.lt
      omega
    · simp only [e, if_false, e', if_true] at hg
      have := (hch.1 c (by omega)).2.lt
      omega
    · simp only [e, if_false, e', if_false] at hg
      exact hch.2 c c' (by omega) (by omega) hg
  · refine ((hbl.trans (hb2.mono hB)).alloc (by omega) o).grown hgrow (by simp; omega) ?_
    intro k hk
    exact (hown.lt k hk).1

end Go.Proofs.Qxb6613427a
