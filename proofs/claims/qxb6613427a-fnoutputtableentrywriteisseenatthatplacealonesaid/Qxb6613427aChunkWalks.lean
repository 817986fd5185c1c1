import Derived.Test.Qxb6613427aChunkParts
namespace Go.Proofs.Qxb6613427a
open Go.RowKit

theorem info52 : (Try.prog.info? 52).map (fun i => (i.zero, i.size, i.bytes)) = some (some (.agg (ent 0 0)), 35, 56) := by kernel_rfl
theorem info45 : (Try.prog.info? 45).map (fun i => (i.zero, i.size, i.bytes)) = some (some (.slice none 0 0), 1, 24) := by kernel_rfl

/-- A cell that was there when the call began. -/
theorem old_cell {w wr w2 : World} {x : Addr} {v : Value} (hbl : Below w.heap.size w wr) (hb2 : Below wr.heap.size wr w2) (h : w.cell? x = some v) : w2.cell? x = some v := by
  have hlt := block_lt_of_cell h
  have := hbl.size
  rw [hb2.cell (by omega), hbl.cell hlt, h]

set_option maxRecDepth 100000 in
set_option maxHeartbeats 400000 in
theorem chunks_any (b off len cap : Nat) (zs : List Int) (w : World) (hl : len ≤ zs.length) (hlen : len ≤ 131072) (hc : ∀ j, j < zs.length → w.cell? ⟨b, off + j, none⟩ = some (.int .i64 (zs.getD j 0))) :
    Calls Try.prog 11 #[.slice (some ⟨b, off, none⟩) len cap] w fun e w' => ∃ (cv : Value) (nc : Nat) (g : Nat → Nat), e = .returned cv ∧ len ≤ 4096 * nc ∧ 4096 * nc < len + 4096 ∧ w'.ownsRow w.heap.size 45 1 cv nc (heads g len nc) ∧ Chunks w' zs len w.heap.size g nc ∧ Below w.heap.size w w' := by
  obtain ⟨i52, hi, hz0, hz1, hz2⟩ := info_parts info52
  obtain ⟨i45, ki, kz0, kz1, kz2⟩ := info_parts info45
  go_enter Try.func11, Try.ntmps11
  go_wp2
  go_loopw [3, 4] (fun cv s wr => ∃ (nc : Nat) (g : Nat → Nat), s = .int .i64 (4096 * (nc : Int)) ∧ 4096 * nc < len + 4096 ∧ wr.ownsRow w.heap.size 45 1 cv nc (heads g len nc) ∧ Chunks wr zs len w.heap.size g nc ∧ Below w.heap.size w wr)
    (fun _ s _ => len - (intOf s).toNat)
  case atStart => exact ⟨0, fun _ => 0, rfl, by omega, World.ownsRow_nil _ _ _ _, ⟨fun c h => absurd h (by omega), fun c c' h => absurd h (by omega)⟩, Below.refl _ _⟩
  case round =>
    obtain ⟨nc, g, rfl, hnc, hown, hch, hbl⟩ := hrel
    obtain ⟨wo, ewo⟩ : ∃ x, x = wr := ⟨_, rfl⟩
    subst ewo
    have hB := hbl.size
    by_cases hlt : 4096 * nc < len
    · by_cases hend : 4096 * nc + 4096 ≤ len
      · go_wp2_with (first | (at_make; refine wpList_make_own _ rfl _ _ 45 rfl w.heap.size 52 i52 (.agg (ent 0 0)) 35 Try.underlying45 hi hz0 hz1 _ _ _ 4096 rfl rfl (by omega) (by rw [hz2]; omega) (by unfold maxLen; omega) (hbl.size) ?_))
        intro w1 ho1 hg1
        have hb1 : Below wo.heap.size wo w1 := (Below.refl _ _).grown hg1 (Nat.le_refl _) (by simp)
        clear hg1
        go_wp2
        go_loopw [6, 7] (fun c i w2 => ∃ (j : Nat) (xs : List Value), j ≤ 4096 ∧ i = .int .i64 (4096 * (nc : Int) + j) ∧ c = .slice (some ⟨wo.heap.size, 0, none⟩) j 4096 ∧ w2.ownsRow w.heap.size 52 35 (.slice (some ⟨wo.heap.size, 0, none⟩) j 4096) j xs ∧ entsOk zs nc j xs ∧ Below wo.heap.size wo w2)
          (fun _ i _ => len - (intOf i).toNat)
        case atStart => exact ⟨0, [], by omega, by simp, rfl, ho1, ents_nil _ _, hb1⟩
        case round =>
          clear ho1 hb1
          obtain ⟨j, xs, hj, rfl, rfl, ho2, he, hb2⟩ := hrel
          have hB2 := hb2.size
          by_cases hjn : j < 4096
          · have hcj : wr.cell? ⟨b, off + (4096 * nc + j), none⟩ = some (.int .i64 (zs.getD (4096 * nc + j) 0)) := old_cell hbl hb2 (hc _ (by omega))
            obtain ⟨z, hz⟩ : ∃ z, z = zs.getD (4096 * nc + j) 0 := ⟨_, rfl⟩
            rw [← hz] at hcj
            have HZ : Hid (z = zs.getD (4096 * nc + j) 0) := hz
            clear hz
            go_wp2_with (first | (go_at_call 18; refine (entry_any _ _ _).mono ?_; rintro e w3 ⟨rfl, hb3⟩; have ho3 := owns_below ho2 hb3) | (refine wpList_buildSlice_by rfl 45 1 _ rfl _ (by simp [Act.eval, Act.put]; rfl) _ _ (run_bs45 _ _ _) ?_) | (at_builtin; refine wpList_append_fits _ rfl _ _ 45 rfl w.heap.size 52 i52 35 Try.underlying45 hi hz1 wo.heap.size j 4096 xs rfl (ho3.alloc _) ⟨w3.heap.size, 0, none⟩ 1 1 (ent (4096 * (nc : Int) + j) z).toList rfl rfl (World.news_of_block (heap_alloc_new _ _)) (ent_list_one _ _) (by omega) ?_))
            intro w4 ho4 hg4
            have hb4 : Below wo.heap.size wo w4 := ((hb2.trans (hb3.mono hB2)).alloc (by have := hb3.size; omega) _).grown hg4 (by have := hb3.size; simp; omega) (by simp)
            have he4 := ents_snoc he ho2.1
            rw [← HZ.out] at he4
            clear ho2 ho3 hb3 hg4 hb2 he hcj
            go_wp2
            go_roundw
            case rel => exact ⟨j + 1, _, by omega, by go_num, rfl, ho4, he4, hb4⟩
            case measure => simp [intOf]; omega
          · have ej : j = 4096 := by omega
            subst ej
            go_wp2_with (first | (at_builtin; refine wpList_append_own _ rfl _ _ 30 rfl w.heap.size 45 i45 (.slice none 0 0) 1 24 Try.underlying30 ki kz0 kz1 kz2 rfl (by decide) _ nc _ rfl ((owns_below hown hb2).alloc _) ⟨wr.heap.size, 0, none⟩ 1 1 [.slice (some ⟨wo.heap.size, 0, none⟩) 4096 4096] rfl rfl (cell_one_new _ _ _) (by simp [Value.oneCell']) (by unfold maxLen; omega) (by omega) (by simp; omega) ?_))
            intro cv' w5 ho5 hg5 _
            obtain ⟨g', R1, R2, R3⟩ := tab_step hB (by unfold Ln; omega) hown hch hbl hb2 ho2 he ho5 hg5
            clear ho2 he hb2 ho5 hg5 hown hch hbl hB2
            go_wp2
            go_roundw
            case rel => exact ⟨nc + 1, g', by go_num, by omega, R1, R2, R3⟩
            case measure => simp [intOf]; omega
      · go_wp2_with (first | (at_make; refine wpList_make_own _ rfl _ _ 45 rfl w.heap.size 52 i52 (.agg (ent 0 0)) 35 Try.underlying45 hi hz0 hz1 _ _ _ 4096 rfl rfl (by omega) (by rw [hz2]; omega) (by unfold maxLen; omega) (hbl.size) ?_))
        intro w1 ho1 hg1
        have hb1 : Below wo.heap.size wo w1 := (Below.refl _ _).grown hg1 (Nat.le_refl _) (by simp)
        clear hg1
        go_wp2
        go_loopw [6, 7] (fun c i w2 => ∃ (j : Nat) (xs : List Value), j ≤ (len - 4096 * nc) ∧ i = .int .i64 (4096 * (nc : Int) + j) ∧ c = .slice (some ⟨wo.heap.size, 0, none⟩) j 4096 ∧ w2.ownsRow w.heap.size 52 35 (.slice (some ⟨wo.heap.size, 0, none⟩) j 4096) j xs ∧ entsOk zs nc j xs ∧ Below wo.heap.size wo w2)
          (fun _ i _ => len - (intOf i).toNat)
        case atStart => exact ⟨0, [], by omega, by simp, rfl, ho1, ents_nil _ _, hb1⟩
        case round =>
          clear ho1 hb1
          obtain ⟨j, xs, hj, rfl, rfl, ho2, he, hb2⟩ := hrel
          have hB2 := hb2.size
          by_cases hjn : j < (len - 4096 * nc)
          · have hcj : wr.cell? ⟨b, off + (4096 * nc + j), none⟩ = some (.int .i64 (zs.getD (4096 * nc + j) 0)) := old_cell hbl hb2 (hc _ (by omega))
            obtain ⟨z, hz⟩ : ∃ z, z = zs.getD (4096 * nc + j) 0 := ⟨_, rfl⟩
            rw [← hz] at hcj
            have HZ : Hid (z = zs.getD (4096 * nc + j) 0) := hz
            clear hz
            go_wp2_with (first | (go_at_call 18; refine (entry_any _ _ _).mono ?_; rintro e w3 ⟨rfl, hb3⟩; have ho3 := owns_below ho2 hb3) | (refine wpList_buildSlice_by rfl 45 1 _ rfl _ (by simp [Act.eval, Act.put]; rfl) _ _ (run_bs45 _ _ _) ?_) | (at_builtin; refine wpList_append_fits _ rfl _ _ 45 rfl w.heap.size 52 i52 35 Try.underlying45 hi hz1 wo.heap.size j 4096 xs rfl (ho3.alloc _) ⟨w3.heap.size, 0, none⟩ 1 1 (ent (4096 * (nc : Int) + j) z).toList rfl rfl (World.news_of_block (heap_alloc_new _ _)) (ent_list_one _ _) (by omega) ?_))
            intro w4 ho4 hg4
            have hb4 : Below wo.heap.size wo w4 := ((hb2.trans (hb3.mono hB2)).alloc (by have := hb3.size; omega) _).grown hg4 (by have := hb3.size; simp; omega) (by simp)
            have he4 := ents_snoc he ho2.1
            rw [← HZ.out] at he4
            clear ho2 ho3 hb3 hg4 hb2 he hcj
            go_wp2
            go_roundw
            case rel => exact ⟨j + 1, _, by omega, by go_num, rfl, ho4, he4, hb4⟩
            case measure => simp [intOf]; omega
          · have ej : j = (len - 4096 * nc) := by omega
            subst ej
            go_wp2_with (first | (at_builtin; refine wpList_append_own _ rfl _ _ 30 rfl w.heap.size 45 i45 (.slice none 0 0) 1 24 Try.underlying30 ki kz0 kz1 kz2 rfl (by decide) _ nc _ rfl ((owns_below hown hb2).alloc _) ⟨wr.heap.size, 0, none⟩ 1 1 [.slice (some ⟨wo.heap.size, 0, none⟩) (len - 4096 * nc) 4096] rfl rfl (cell_one_new _ _ _) (by simp [Value.oneCell']) (by unfold maxLen; omega) (by omega) (by simp; omega) ?_))
            intro cv' w5 ho5 hg5 _
            obtain ⟨g', R1, R2, R3⟩ := tab_step hB (by unfold Ln; omega) hown hch hbl hb2 ho2 he ho5 hg5
            clear ho2 he hb2 ho5 hg5 hown hch hbl hB2
            go_wp2
            go_roundw
            case rel => exact ⟨nc + 1, g', by go_num, by omega, R1, R2, R3⟩
            case measure => simp [intOf]; omega
    · go_wp2
      go_ret
      exact ⟨_, nc, g, rfl, by omega, hnc, hown, hch, hbl⟩
end Go.Proofs.Qxb6613427a
