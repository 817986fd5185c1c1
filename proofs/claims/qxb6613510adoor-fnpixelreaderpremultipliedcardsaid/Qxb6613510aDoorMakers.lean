import Derived.Test.Qxb6613510aDoorPackFill
namespace Go.Proofs.Qxb6613510aDoor
open Go.RowKit
set_option linter.unusedVariables false

section
variable {P : Program} {w : World} {ops : Array Oper} {rest : List Oper} {o : Oper} {a : Act} {Q : Exit → Act → World → Prop}
theorem wpList_alloc_by (hg : o.guard = none) (t : TypeId) (ho : o.op = .alloc t) (v : Value) (w' : World) (hr : (Instr.alloc t true (.tuple #[])).run P w = .ok v w')
    (h : wpList P ops Q rest (a.put o.dst v) w') : wpList P ops Q (o :: rest) a w :=
  wpList_plain hg fun K hK => by
    unfold Oper.wp execOp
    simp only [ho, Sem.run_bind, hr, Result.andThen_ok, Sem.run_pure, Oper.upon_value]
    exact hK _ _ h
end

theorem sampleBytes_any (depth : Int) (w : World) (h0 : 0 ≤ depth) (h1 : depth ≤ 255) : Calls Tryd.prog 19 #[.int .u8 depth] w fun e w' => e = .returned (.int .i64 ((depth + 7) / 8)) ∧ w = w' := by
  go_enter Tryd.func19, Tryd.ntmps19
  go_wp2
  go_ret
  exact ⟨rfl, rfl⟩

theorem grayStep1 (w : World) : Calls Tryd.prog 26 #[.int .u8 1] w fun e w' => e = .returned (.int .u8 255) ∧ w = w' := by
  go_enter Tryd.func26, Tryd.ntmps26
  go_wp2
  go_ret
  exact ⟨rfl, rfl⟩
theorem grayStep2 (w : World) : Calls Tryd.prog 26 #[.int .u8 2] w fun e w' => e = .returned (.int .u8 85) ∧ w = w' := by
  go_enter Tryd.func26, Tryd.ntmps26
  go_wp2
  go_ret
  exact ⟨rfl, rfl⟩
theorem grayStep4 (w : World) : Calls Tryd.prog 26 #[.int .u8 4] w fun e w' => e = .returned (.int .u8 17) ∧ w = w' := by
  go_enter Tryd.func26, Tryd.ntmps26
  go_wp2
  go_ret
  exact ⟨rfl, rfl⟩

def zeros256 : Array Value := Array.replicate 256 (.int .u8 0)
theorem run_alloc82 (old : Value) (w : World) : (Instr.alloc 82 true old).run Tryd.prog w = .ok (.pointer (some ⟨w.heap.size, 0, none⟩)) (w.alloc (.cells zeros256 82)) := by kernel_rfl
theorem zeros256_row (w : World) : (w.alloc (.cells zeros256 82)).rowIs w.heap.size 82 256 (fun _ => .int .u8 0) := by
  have h := World.rowIs_alloc w zeros256 82 (fun _ => .int .u8 0) (fun i hi => by unfold zeros256 at hi ⊢; simp at hi; simp [hi])
  have e : zeros256.size = 256 := by simp [zeros256]
  rwa [e] at h


/-- What a packer's closure holds. -/
def IsPacker (w : World) (B : Nat) (d b per : Nat) (width : Int) (F : Value) : Prop :=
  ∃ Wb Zb Db Tb Pb : Nat, F = .func (.func 34) #[] #[.pointer (some ⟨Wb, 0, none⟩), .pointer (some ⟨Zb, 0, none⟩), .pointer (some ⟨Db, 0, none⟩), .pointer (some ⟨Tb, 0, none⟩), .pointer (some ⟨Pb, 0, none⟩)] ∧ B ≤ Wb ∧ B ≤ Zb ∧ B ≤ Db ∧ B ≤ Tb ∧ B ≤ Pb ∧
    w.cell? ⟨Wb, 0, none⟩ = some (.int .i64 width) ∧ w.cell? ⟨Zb, 0, none⟩ = some (.int .i64 4) ∧ w.cell? ⟨Db, 0, none⟩ = some (.int .u8 d) ∧ (∀ i, i < 256 → w.cell? ⟨Tb, i, none⟩ = some (lvl b i)) ∧ w.cell? ⟨Pb, 0, none⟩ = some (.int .i64 per)

/-- Three boxes and a block behind them. -/
theorem boxes3 (w : World) (x y z : Value) (t1 t2 t3 : TypeId) (o : Obj) : ∃ W, W = (((w.alloc (.cells #[x] t1)).alloc (.cells #[y] t2)).alloc (.cells #[z] t3)).alloc o ∧ W.cell? ⟨w.heap.size, 0, none⟩ = some x ∧ W.cell? ⟨w.heap.size + 1, 0, none⟩ = some y ∧ W.cell? ⟨w.heap.size + 1 + 1, 0, none⟩ = some z ∧ Below w.heap.size w W ∧ W.heap[w.heap.size + 1 + 1 + 1]? = some o ∧ W.heap.size = w.heap.size + 1 + 1 + 1 + 1 := by
  refine ⟨_, rfl, ?_, ?_, ?_, ?_, ?_, by simp⟩
  · exact Go.Lib.cell?_alloc_some _ (Go.Lib.cell?_alloc_some _ (Go.Lib.cell?_alloc_some _ (cell_of_row _ _ _ _ _ _ (heap_alloc_new w _))))
  · have h := cell_of_row _ _ 0 _ _ _ (heap_alloc_new (w.alloc (.cells #[x] t1)) (.cells #[y] t2))
    rw [show (w.alloc (.cells #[x] t1)).heap.size = w.heap.size + 1 by simp] at h
    exact Go.Lib.cell?_alloc_some _ (Go.Lib.cell?_alloc_some _ h)
  · have h := cell_of_row _ _ 0 _ _ _ (heap_alloc_new ((w.alloc (.cells #[x] t1)).alloc (.cells #[y] t2)) (.cells #[z] t3))
    rw [show ((w.alloc (.cells #[x] t1)).alloc (.cells #[y] t2)).heap.size = w.heap.size + 1 + 1 by simp] at h
    exact Go.Lib.cell?_alloc_some _ h
  · exact ((((Below.refl _ _).alloc (Nat.le_refl _) _).alloc (by simp) _).alloc (by simp; omega) _).alloc (by simp; omega) _
  · have h := heap_alloc_new (((w.alloc (.cells #[x] t1)).alloc (.cells #[y] t2)).alloc (.cells #[z] t3)) o
    rwa [show (((w.alloc (.cells #[x] t1)).alloc (.cells #[y] t2)).alloc (.cells #[z] t3)).heap.size = w.heap.size + 1 + 1 + 1 by simp] at h

/-- The table's first v levels are laid. -/
def lvls (b v : Nat) (i : Nat) : Value := if i < v then lvl b i else .int .u8 0
theorem lvls_set {wr : World} {T b v : Nat} {z : Int} (h : wr.rowIs T 82 256 (lvls b v)) (hz : z = ((smp b (v : Int) : Nat) : Int)) : (wr.setCell ⟨T, v, none⟩ (.int .u8 z)).rowIs T 82 256 (lvls b (v + 1)) := by
  refine (h.set v _).congr fun i _ => ?_
  by_cases e : i = v
  · subst e
    rw [if_pos rfl]
    unfold lvls lvl
    rw [if_pos (by omega), hz]
  · rw [if_neg e]
    unfold lvls
    by_cases h3 : i < v
    · rw [if_pos h3, if_pos (by omega)]
    · rw [if_neg h3, if_neg (by omega)]

set_option maxRecDepth 10000 in
theorem packer1 (width : Int) (w : World) : Calls Tryd.prog 27 #[.int .i64 width, .int .u8 1, .int .i64 4, .int .u8 255] w fun e w' => ∃ F, e = .returned F ∧ IsPacker w' w.heap.size 1 2 8 width F ∧ Below w.heap.size w w' := by
  obtain ⟨W, hW, c1, c2, c3, hb, _, _⟩ := boxes3 w (.int .i64 width) (.int .u8 1) (.int .i64 4) 3 5 3 (.cells zeros256 82)
  have hz := zeros256_row (((w.alloc (.cells #[.int .i64 width] 3)).alloc (.cells #[.int .u8 1] 5)).alloc (.cells #[.int .i64 4] 3))
  rw [show (((w.alloc (.cells #[.int .i64 width] 3)).alloc (.cells #[.int .u8 1] 5)).alloc (.cells #[.int .i64 4] 3)).heap.size = w.heap.size + 1 + 1 + 1 by simp, ← hW] at hz
  have HW : Hid _ := hW
  clear hW
  go_enter Tryd.func27, Tryd.ntmps27
  go_wp2_with (first | (refine wpList_alloc_by rfl 82 rfl _ _ (run_alloc82 _ _) ?_))
  rw [← HW.out]
  go_loopw [12] (fun vv wr => ∃ v : Nat, v ≤ 256 ∧ vv = .int .i64 v ∧ wr.rowIs (w.heap.size + 1 + 1 + 1) 82 256 (lvls 2 v) ∧ W.grownBy wr (some (w.heap.size + 1 + 1 + 1))) (fun vv _ => 256 - (intOf vv).toNat)
  case atStart => exact ⟨0, by omega, rfl, hz, grown_refl _ _⟩
  case round =>
    clear hz
    obtain ⟨v, hv, rfl, hrow, hgr⟩ := hrel
    by_cases hlt : v < 256
    · have dc := hrow.cell hlt
      have fc := hrow.frozen v
      go_wp2_with fail
      go_roundw
      case rel => exact ⟨v + 1, by omega, by go_num, lvls_set hrow (by unfold smp; omega), grown_set hgr _ _⟩
      case measure => simp [intOf]; omega
    · have ev : v = 256 := by omega
      subst ev
      have d1 := grown_cell hgr c1 (by intro e; simp at e; omega)
      have d2 := grown_cell hgr c2 (by intro e; simp at e)
      have d3 := grown_cell hgr c3 (by intro e; simp at e)
      have hbr : Below w.heap.size w wr := hb.trans (grown_below hgr (by omega) hb.size)
      have hlt3 := hrow.lt
      go_wp2_with fail
      go_ret
      refine ⟨_, rfl, ⟨w.heap.size, w.heap.size + 1 + 1, w.heap.size + 1, w.heap.size + 1 + 1 + 1, wr.heap.size, rfl, by omega, by omega, by omega, by omega, by omega, Go.Lib.cell?_alloc_some _ d1, Go.Lib.cell?_alloc_some _ d3, Go.Lib.cell?_alloc_some _ d2, fun i hi => ?_, cell_of_row _ _ _ _ _ _ (heap_alloc_new _ _)⟩, hbr.alloc (by omega) _⟩
      rw [(hrow.alloc _).cell hi]
      unfold lvls
      rw [if_pos hi]

set_option maxRecDepth 10000 in
theorem packer2 (width : Int) (w : World) : Calls Tryd.prog 27 #[.int .i64 width, .int .u8 2, .int .i64 4, .int .u8 85] w fun e w' => ∃ F, e = .returned F ∧ IsPacker w' w.heap.size 2 4 4 width F ∧ Below w.heap.size w w' := by
  obtain ⟨W, hW, c1, c2, c3, hb, _, _⟩ := boxes3 w (.int .i64 width) (.int .u8 2) (.int .i64 4) 3 5 3 (.cells zeros256 82)
  have hz := zeros256_row (((w.alloc (.cells #[.int .i64 width] 3)).alloc (.cells #[.int .u8 2] 5)).alloc (.cells #[.int .i64 4] 3))
  rw [show (((w.alloc (.cells #[.int .i64 width] 3)).alloc (.cells #[.int .u8 2] 5)).alloc (.cells #[.int .i64 4] 3)).heap.size = w.heap.size + 1 + 1 + 1 by simp, ← hW] at hz
  have HW : Hid _ := hW
  clear hW
  go_enter Tryd.func27, Tryd.ntmps27
  go_wp2_with (first | (refine wpList_alloc_by rfl 82 rfl _ _ (run_alloc82 _ _) ?_))
  rw [← HW.out]
  go_loopw [12] (fun vv wr => ∃ v : Nat, v ≤ 256 ∧ vv = .int .i64 v ∧ wr.rowIs (w.heap.size + 1 + 1 + 1) 82 256 (lvls 4 v) ∧ W.grownBy wr (some (w.heap.size + 1 + 1 + 1))) (fun vv _ => 256 - (intOf vv).toNat)
  case atStart => exact ⟨0, by omega, rfl, hz, grown_refl _ _⟩
  case round =>
    clear hz
    obtain ⟨v, hv, rfl, hrow, hgr⟩ := hrel
    by_cases hlt : v < 256
    · have dc := hrow.cell hlt
      have fc := hrow.frozen v
      go_wp2_with fail
      go_roundw
      case rel => exact ⟨v + 1, by omega, by go_num, lvls_set hrow (by unfold smp; omega), grown_set hgr _ _⟩
      case measure => simp [intOf]; omega
    · have ev : v = 256 := by omega
      subst ev
      have d1 := grown_cell hgr c1 (by intro e; simp at e; omega)
      have d2 := grown_cell hgr c2 (by intro e; simp at e)
      have d3 := grown_cell hgr c3 (by intro e; simp at e)
      have hbr : Below w.heap.size w wr := hb.trans (grown_below hgr (by omega) hb.size)
      have hlt3 := hrow.lt
      go_wp2_with fail
      go_ret
      refine ⟨_, rfl, ⟨w.heap.size, w.heap.size + 1 + 1, w.heap.size + 1, w.heap.size + 1 + 1 + 1, wr.heap.size, rfl, by omega, by omega, by omega, by omega, by omega, Go.Lib.cell?_alloc_some _ d1, Go.Lib.cell?_alloc_some _ d3, Go.Lib.cell?_alloc_some _ d2, fun i hi => ?_, cell_of_row _ _ _ _ _ _ (heap_alloc_new _ _)⟩, hbr.alloc (by omega) _⟩
      rw [(hrow.alloc _).cell hi]
      unfold lvls
      rw [if_pos hi]

set_option maxRecDepth 10000 in
theorem packer4 (width : Int) (w : World) : Calls Tryd.prog 27 #[.int .i64 width, .int .u8 4, .int .i64 4, .int .u8 17] w fun e w' => ∃ F, e = .returned F ∧ IsPacker w' w.heap.size 4 16 2 width F ∧ Below w.heap.size w w' := by
  obtain ⟨W, hW, c1, c2, c3, hb, _, _⟩ := boxes3 w (.int .i64 width) (.int .u8 4) (.int .i64 4) 3 5 3 (.cells zeros256 82)
  have hz := zeros256_row (((w.alloc (.cells #[.int .i64 width] 3)).alloc (.cells #[.int .u8 4] 5)).alloc (.cells #[.int .i64 4] 3))
  rw [show (((w.alloc (.cells #[.int .i64 width] 3)).alloc (.cells #[.int .u8 4] 5)).alloc (.cells #[.int .i64 4] 3)).heap.size = w.heap.size + 1 + 1 + 1 by simp, ← hW] at hz
  have HW : Hid _ := hW
  clear hW
  go_enter Tryd.func27, Tryd.ntmps27
  go_wp2_with (first | (refine wpList_alloc_by rfl 82 rfl _ _ (run_alloc82 _ _) ?_))
  rw [← HW.out]
  go_loopw [12] (fun vv wr => ∃ v : Nat, v ≤ 256 ∧ vv = .int .i64 v ∧ wr.rowIs (w.heap.size + 1 + 1 + 1) 82 256 (lvls 16 v) ∧ W.grownBy wr (some (w.heap.size + 1 + 1 + 1))) (fun vv _ => 256 - (intOf vv).toNat)
  case atStart => exact ⟨0, by omega, rfl, hz, grown_refl _ _⟩
  case round =>
    clear hz
    obtain ⟨v, hv, rfl, hrow, hgr⟩ := hrel
    by_cases hlt : v < 256
    · have dc := hrow.cell hlt
      have fc := hrow.frozen v
      go_wp2_with fail
      go_roundw
      case rel => exact ⟨v + 1, by omega, by go_num, lvls_set hrow (by unfold smp; omega), grown_set hgr _ _⟩
      case measure => simp [intOf]; omega
    · have ev : v = 256 := by omega
      subst ev
      have d1 := grown_cell hgr c1 (by intro e; simp at e; omega)
      have d2 := grown_cell hgr c2 (by intro e; simp at e)
      have d3 := grown_cell hgr c3 (by intro e; simp at e)
      have hbr : Below w.heap.size w wr := hb.trans (grown_below hgr (by omega) hb.size)
      have hlt3 := hrow.lt
      go_wp2_with fail
      go_ret
      refine ⟨_, rfl, ⟨w.heap.size, w.heap.size + 1 + 1, w.heap.size + 1, w.heap.size + 1 + 1 + 1, wr.heap.size, rfl, by omega, by omega, by omega, by omega, by omega, Go.Lib.cell?_alloc_some _ d1, Go.Lib.cell?_alloc_some _ d3, Go.Lib.cell?_alloc_some _ d2, fun i hi => ?_, cell_of_row _ _ _ _ _ _ (heap_alloc_new _ _)⟩, hbr.alloc (by omega) _⟩
      rw [(hrow.alloc _).cell hi]
      unfold lvls
      rw [if_pos hi]

/-! ### slices.Equal -/
theorem eq3_no (og oc : Nat) (H hc : Nat) (w : World) : Calls Tryd.prog 29 #[.slice (some ⟨og, 0, none⟩) 1 oc, .slice (some ⟨H, 0, none⟩) 3 hc] w fun e w' => e = .returned (.bool false) ∧ w = w' := by
  go_enter Tryd.func29, Tryd.ntmps29
  go_wp2
  go_ret
  exact ⟨rfl, rfl⟩
theorem eq3_yes (og oc H hc : Nat) (w : World) (h1 : ∀ i, i < 3 → w.cell? ⟨og, i, none⟩ = some (.int .i64 i)) (h2 : ∀ i, i < 3 → w.cell? ⟨H, i, none⟩ = some (.int .i64 i)) :
    Calls Tryd.prog 29 #[.slice (some ⟨og, 0, none⟩) 3 oc, .slice (some ⟨H, 0, none⟩) 3 hc] w fun e w' => e = .returned (.bool true) ∧ ∃ q, w' = w.drewN q := by
  go_enter Tryd.func29, Tryd.ntmps29
  go_wp2
  go_loopw [13] (fun i wr => ∃ k q : Nat, k ≤ 3 ∧ i = .int .i64 k ∧ wr = w.drewN q) (fun i _ => 3 - (intOf i).toNat)
  case atStart => exact ⟨0, 0, by omega, rfl, rfl⟩
  case round =>
    obtain ⟨k, q, hk, rfl, rfl⟩ := hrel
    by_cases hlt : k < 3
    · have c1 := h1 k hlt
      have c2 := h2 k hlt
      have i1 : (0 : Int) ≤ (k : Int) := by omega
      have i2 : (k : Int) < 3 := by omega
      clear h1 h2
      go_wp2_with fail
      go_quiet (fail)
      go_wp2
      go_roundw
      case rel => exact ⟨k + 1, _, by omega, by go_num, rfl⟩
      case measure => simp [intOf]; omega
    · go_wp2
      go_ret
      exact ⟨rfl, q, rfl⟩

/-! ### picker -/
/-- What the closure for three bytes a pixel holds. -/
def IsPick3 (w : World) (B : Nat) (width : Int) (F : Value) : Prop :=
  ∃ Wb : Nat, F = .func (.func 30) #[] #[.pointer (some ⟨Wb, 0, none⟩)] ∧ B ≤ Wb ∧ w.cell? ⟨Wb, 0, none⟩ = some (.int .i64 width)
/-- What the closure for one byte a pixel holds. -/
def IsPick1 (w : World) (B : Nat) (width : Int) (F : Value) : Prop :=
  ∃ Wb Zb Ob og oc : Nat, F = .func (.func 33) #[] #[.pointer (some ⟨Wb, 0, none⟩), .pointer (some ⟨Zb, 0, none⟩), .pointer (some ⟨Ob, 0, none⟩)] ∧ B ≤ Wb ∧ B ≤ Zb ∧ B ≤ Ob ∧ B ≤ og ∧
    w.cell? ⟨Wb, 0, none⟩ = some (.int .i64 width) ∧ w.cell? ⟨Zb, 0, none⟩ = some (.int .i64 4) ∧ w.cell? ⟨Ob, 0, none⟩ = some (.slice (some ⟨og, 0, none⟩) 1 oc) ∧ w.cell? ⟨og, 0, none⟩ = some (.int .i64 0)

theorem picker3 (width : Int) (og oc : Nat) (w : World) (h : ∀ i, i < 3 → w.cell? ⟨og, i, none⟩ = some (.int .i64 i)) :
    Calls Tryd.prog 25 #[.int .i64 width, .int .i64 4, .slice (some ⟨og, 0, none⟩) 3 oc] w fun e w' => ∃ F, e = .returned F ∧ IsPick3 w' w.heap.size width F ∧ Below w.heap.size w w' := by
  obtain ⟨W, hW, c1, c2, c3, hb, hblk, _⟩ := boxes3 w (.int .i64 width) (.int .i64 4) (.slice (some ⟨og, 0, none⟩) 3 oc) 3 3 50 (.cells #[.int .i64 0, .int .i64 1, .int .i64 2] 3)
  have hr : ∀ i, i < 3 → W.cell? ⟨w.heap.size + 1 + 1 + 1, i, none⟩ = some (.int .i64 i) := by
    intro i hi
    rw [cell_of_row _ _ _ _ _ _ hblk]
    match i, hi with
    | 0, _ => rfl
    | 1, _ => rfl
    | 2, _ => rfl
  have ho : ∀ i, i < 3 → W.cell? ⟨og, i, none⟩ = some (.int .i64 i) := fun i hi => by rw [hb.cell (block_lt_of_cell (h i hi)), h i hi]
  have HW : Hid _ := hW
  clear hW hblk h
  go_enter Tryd.func25, Tryd.ntmps25
  go_wp2_with fail
  rw [← HW.out]
  refine (eq3_yes _ _ _ _ _ ho hr).mono ?_
  rintro e wx ⟨rfl, q, rfl⟩
  go_wp2
  go_ret
  exact ⟨_, rfl, ⟨w.heap.size, rfl, Nat.le_refl _, c1⟩, below_drewN hb _⟩
theorem picker1 (width : Int) (og oc B : Nat) (w : World) (hB : B ≤ w.heap.size) (hog : B ≤ og) (h : w.cell? ⟨og, 0, none⟩ = some (.int .i64 0)) :
    Calls Tryd.prog 25 #[.int .i64 width, .int .i64 4, .slice (some ⟨og, 0, none⟩) 1 oc] w fun e w' => ∃ F, e = .returned F ∧ IsPick1 w' B width F ∧ Below w.heap.size w w' := by
  obtain ⟨W, hW, c1, c2, c3, hb, _, _⟩ := boxes3 w (.int .i64 width) (.int .i64 4) (.slice (some ⟨og, 0, none⟩) 1 oc) 3 3 50 (.cells #[.int .i64 0, .int .i64 1, .int .i64 2] 3)
  have ho : W.cell? ⟨og, 0, none⟩ = some (.int .i64 0) := by rw [hb.cell (block_lt_of_cell h), h]
  have HW : Hid _ := hW
  clear hW
  go_enter Tryd.func25, Tryd.ntmps25
  go_wp2_with (first | (go_at_call 29; refine (eq3_no _ _ _ _ _).mono ?_; rintro e wx ⟨rfl, rfl⟩))
  rw [← HW.out]
  go_ret
  exact ⟨_, rfl, ⟨w.heap.size, w.heap.size + 1, w.heap.size + 1 + 1, og, oc, rfl, by omega, by omega, by omega, hog, c1, c2, c3, ho⟩, hb⟩

/-! ### rowFill -/
theorem IsPick3.mono {w : World} {B C : Nat} {width : Int} {F : Value} (h : IsPick3 w B width F) (hC : C ≤ B) : IsPick3 w C width F := by
  obtain ⟨Wb, h1, h2, h3⟩ := h
  exact ⟨Wb, h1, by omega, h3⟩
theorem IsPacker.mono {w : World} {B C d b per : Nat} {width : Int} {F : Value} (h : IsPacker w B d b per width F) (hC : C ≤ B) : IsPacker w C d b per width F := by
  obtain ⟨Wb, Zb, Db, Tb, Pb, h0, h1, h2, h3, h4, h5, h6⟩ := h
  exact ⟨Wb, Zb, Db, Tb, Pb, h0, by omega, by omega, by omega, by omega, by omega, h6⟩
theorem below_box {w wx : World} {o : Obj} (h : Below (w.alloc o).heap.size (w.alloc o) wx) : Below w.heap.size w wx := ((Below.refl _ _).alloc (Nat.le_refl _) o).trans (h.mono (by simp))

theorem rowFill3 (width height : Int) (og oc : Nat) (w : World) (h : ∀ i, i < 3 → w.cell? ⟨og, i, none⟩ = some (.int .i64 i)) :
    Calls Tryd.prog 22 #[.agg #[.int .i64 width, .int .i64 height, .int .u8 8, .int .u8 2], .int .i64 4, .slice (some ⟨og, 0, none⟩) 3 oc] w fun e w' => ∃ F, e = .returned F ∧ IsPick3 w' w.heap.size width F ∧ Below w.heap.size w w' := by
  have h1 : ∀ i, i < 3 → (w.alloc (.cells #[.int .i64 width, .int .i64 height, .int .u8 8, .int .u8 2] 44)).cell? ⟨og, i, none⟩ = some (.int .i64 i) := fun i hi => Go.Lib.cell?_alloc_some _ (h i hi)
  go_enter Tryd.func22, Tryd.ntmps22
  go_wp2_with (first | (go_at_call 25; refine (picker3 _ _ _ _ h1).mono ?_; rintro e wx ⟨F, rfl, hF, hbF⟩))
  go_ret
  exact ⟨F, rfl, hF.mono (by simp), below_box hbF⟩
theorem rowFill1 (width height : Int) (og oc B : Nat) (w : World) (hB : B ≤ w.heap.size) (hog : B ≤ og) (h : w.cell? ⟨og, 0, none⟩ = some (.int .i64 0)) :
    Calls Tryd.prog 22 #[.agg #[.int .i64 width, .int .i64 height, .int .u8 8, .int .u8 0], .int .i64 4, .slice (some ⟨og, 0, none⟩) 1 oc] w fun e w' => ∃ F, e = .returned F ∧ IsPick1 w' B width F ∧ Below w.heap.size w w' := by
  have h1 : (w.alloc (.cells #[.int .i64 width, .int .i64 height, .int .u8 8, .int .u8 0] 44)).cell? ⟨og, 0, none⟩ = some (.int .i64 0) := Go.Lib.cell?_alloc_some _ h
  go_enter Tryd.func22, Tryd.ntmps22
  go_wp2_with (first | (go_at_call 25; refine (picker1 _ _ _ B _ (by simp; omega) hog h1).mono ?_; rintro e wx ⟨F, rfl, hF, hbF⟩))
  go_ret
  exact ⟨F, rfl, hF, below_box hbF⟩
theorem rowFillP1 (width height : Int) (ao : Option Addr) (l c : Nat) (w : World) :
    Calls Tryd.prog 22 #[.agg #[.int .i64 width, .int .i64 height, .int .u8 1, .int .u8 0], .int .i64 4, .slice ao l c] w fun e w' => ∃ F, e = .returned F ∧ IsPacker w' w.heap.size 1 2 8 width F ∧ Below w.heap.size w w' := by
  go_enter Tryd.func22, Tryd.ntmps22
  go_wp2_with (first | (go_at_call 26; refine (grayStep1 _).mono ?_; rintro e wx ⟨rfl, rfl⟩) | (go_at_call 27; refine (packer1 _ _).mono ?_; rintro e wx ⟨F, rfl, hF, hbF⟩))
  go_ret
  exact ⟨F, rfl, hF.mono (by simp), below_box hbF⟩
theorem rowFillP2 (width height : Int) (ao : Option Addr) (l c : Nat) (w : World) :
    Calls Tryd.prog 22 #[.agg #[.int .i64 width, .int .i64 height, .int .u8 2, .int .u8 0], .int .i64 4, .slice ao l c] w fun e w' => ∃ F, e = .returned F ∧ IsPacker w' w.heap.size 2 4 4 width F ∧ Below w.heap.size w w' := by
  go_enter Tryd.func22, Tryd.ntmps22
  go_wp2_with (first | (go_at_call 26; refine (grayStep2 _).mono ?_; rintro e wx ⟨rfl, rfl⟩) | (go_at_call 27; refine (packer2 _ _).mono ?_; rintro e wx ⟨F, rfl, hF, hbF⟩))
  go_ret
  exact ⟨F, rfl, hF.mono (by simp), below_box hbF⟩
theorem rowFillP4 (width height : Int) (ao : Option Addr) (l c : Nat) (w : World) :
    Calls Tryd.prog 22 #[.agg #[.int .i64 width, .int .i64 height, .int .u8 4, .int .u8 0], .int .i64 4, .slice ao l c] w fun e w' => ∃ F, e = .returned F ∧ IsPacker w' w.heap.size 4 16 2 width F ∧ Below w.heap.size w w' := by
  go_enter Tryd.func22, Tryd.ntmps22
  go_wp2_with (first | (go_at_call 26; refine (grayStep4 _).mono ?_; rintro e wx ⟨rfl, rfl⟩) | (go_at_call 27; refine (packer4 _ _).mono ?_; rintro e wx ⟨F, rfl, hF, hbF⟩))
  go_ret
  exact ⟨F, rfl, hF.mono (by simp), below_box hbF⟩

/-! ### sampleOffsets -/
theorem info3 : (Tryd.prog.info? 3).map (fun i => (i.zero, i.size, i.bytes)) = some (some (.int .i64 0), 1, 8) := by kernel_rfl

/-- One byte a sample: the offsets are the samples. -/
theorem offs_one (sb so L c : Nat) (zs : Nat → Int) (w : World) (hL : L ≤ 4) (hz : ∀ i, i < L → 0 ≤ zs i ∧ zs i ≤ 3) (hc : ∀ i, i < L → w.cell? ⟨sb, so + i, none⟩ = some (.int .i64 (zs i))) :
    Calls Tryd.prog 20 #[.slice (some ⟨sb, so, none⟩) L c, .int .i64 1] w fun e w' => ∃ v, e = .returned v ∧ w'.ownsRow w.heap.size 3 1 v L ((List.range L).map fun i => .int .i64 (zs i)) ∧ Below w.heap.size w w' := by
  obtain ⟨i3, hi, hz0, hz1, hz2⟩ := info_parts info3
  go_enter Tryd.func20, Tryd.ntmps20
  go_wp2
  go_loopw [5, 11] (fun v a wr => ∃ k : Nat, k ≤ L ∧ a = .int .i64 k ∧ wr.ownsRow w.heap.size 3 1 v k ((List.range k).map fun i => .int .i64 (zs i)) ∧ Below w.heap.size w wr) (fun _ a _ => L - (intOf a).toNat)
  case atStart => exact ⟨0, by omega, rfl, World.ownsRow_nil _ _ _ _, Below.refl _ _⟩
  case round =>
    obtain ⟨k, hk, rfl, hown, hbl⟩ := hrel
    by_cases hlt : k < L
    · have sc : wr.cell? ⟨sb, so + k, none⟩ = some (.int .i64 (zs k)) := by
        have h := hc k hlt
        rw [hbl.cell (block_lt_of_cell h), h]
      obtain ⟨z, hzk⟩ : ∃ z, z = zs k := ⟨_, rfl⟩
      rw [← hzk] at sc
      have bz := hz k hlt
      rw [← hzk] at bz
      have HZ : Hid (z = zs k) := hzk
      obtain ⟨bz0, bz1⟩ := bz
      have hsz := hbl.size
      clear hzk
      go_wp2_with fail
      refine wp_loop_rounds 2 ?_
      rw [rounds_succ]
      go_wp2_with (first | (rw [rounds_succ]) | (at_builtin; refine wpList_append_own _ rfl _ _ 50 rfl w.heap.size 3 i3 (.int .i64 0) 1 8 Tryd.underlying50 hi hz0 hz1 hz2 rfl (by decide) _ k _ rfl (hown.alloc _) ⟨wr.heap.size, 0, none⟩ 1 1 [.int .i64 z] rfl rfl (cell_one_new _ _ _) (by simp [Value.oneCell']) (by unfold maxLen; omega) (by omega) (by simp; omega) ?_))
      intro v' w1 ho1 hg1 _
      have R1 : w1.ownsRow w.heap.size 3 1 v' (k + 1) ((List.range (k + 1)).map fun i => .int .i64 (zs i)) := by
        rw [List.range_succ, List.map_append]
        rw [HZ.out] at ho1
        exact ho1
      have R2 : Below w.heap.size w w1 := (hbl.alloc hsz _).grown hg1 (by simp; omega) (fun k hk => (hown.lt k hk).1)
      clear ho1 hg1 hown hbl sc
      go_wp2_with (rw [rounds_succ])
      go_roundw
      case rel => exact ⟨k + 1, by omega, by go_num, R1, R2⟩
      case measure => simp [intOf]; omega
    · have ek : k = L := by omega
      subst ek
      go_wp2
      go_ret
      exact ⟨_, rfl, hown, hbl⟩

theorem offs_zero (ao : Option Addr) (c : Nat) (n : Int) (w : World) :
    Calls Tryd.prog 20 #[.slice ao 0 c, .int .i64 n] w fun e w' => e = .returned (.slice none 0 0) ∧ w = w' := by
  go_enter Tryd.func20, Tryd.ntmps20
  go_wp2
  refine wp_loop_rounds 1 ?_
  rw [rounds_succ]
  go_wp2
  go_ret
  exact ⟨rfl, rfl⟩

/-- Whatever the size of a sample: some slice. -/
theorem offs_any (sb so L c : Nat) (zs : Nat → Int) (n : Nat) (w : World) (hn : n ≤ 32) (hL : L ≤ 4) (hz : ∀ i, i < L → 0 ≤ zs i ∧ zs i ≤ 3) (hc : ∀ i, i < L → w.cell? ⟨sb, so + i, none⟩ = some (.int .i64 (zs i))) :
    Calls Tryd.prog 20 #[.slice (some ⟨sb, so, none⟩) L c, .int .i64 n] w fun e w' => ∃ ao l cp, e = .returned (.slice ao l cp) ∧ Below w.heap.size w w' := by
  obtain ⟨i3, hi, hz0, hz1, hz2⟩ := info_parts info3
  go_enter Tryd.func20, Tryd.ntmps20
  go_wp2
  go_loopw [5, 11] (fun v a wr => ∃ (k cn : Nat) (xs : List Value), k ≤ L ∧ cn ≤ 32 * k ∧ a = .int .i64 k ∧ wr.ownsRow w.heap.size 3 1 v cn xs ∧ Below w.heap.size w wr) (fun _ a _ => L - (intOf a).toNat)
  case atStart => exact ⟨0, 0, [], by omega, by omega, rfl, World.ownsRow_nil _ _ _ _, Below.refl _ _⟩
  case round =>
    obtain ⟨k, cn, xs, hk, hcn, rfl, hown, hbl⟩ := hrel
    by_cases hlt : k < L
    · have sc : wr.cell? ⟨sb, so + k, none⟩ = some (.int .i64 (zs k)) := by
        have h := hc k hlt
        rw [hbl.cell (block_lt_of_cell h), h]
      go_wp2_with fail
      go_loopw [5, 16] (fun v b wr => ∃ (j cn : Nat) (xs : List Value), j ≤ n ∧ cn ≤ 32 * k + j ∧ b = .int .i64 j ∧ wr.ownsRow w.heap.size 3 1 v cn xs ∧ Below w.heap.size w wr) (fun _ b _ => n - (intOf b).toNat)
      case atStart => exact ⟨0, cn, xs, by omega, by omega, rfl, hown, hbl⟩
      case round =>
        clear hown hbl sc
        obtain ⟨j, cn, xs, hj, hcn, rfl, hown, hbl⟩ := hrel
        by_cases hjn : j < n
        · have hsz := hbl.size
          go_wp2_with (first | (at_builtin; refine wpList_append_own _ rfl _ _ 50 rfl w.heap.size 3 i3 (.int .i64 0) 1 8 Tryd.underlying50 hi hz0 hz1 hz2 rfl (by decide) _ cn _ rfl (hown.alloc _) ⟨wr.heap.size, 0, none⟩ 1 1 [.int .i64 (wrap64 (wrap64 (zs k * (n : Int)) + (j : Int)))] rfl rfl (cell_one_new _ _ _) (by simp [Value.oneCell']) (by unfold maxLen; omega) (by omega) (by simp; omega) ?_))
          intro v' w1 ho1 hg1 _
          have R2 : Below w.heap.size w w1 := (hbl.alloc hsz _).grown hg1 (by simp; omega) (fun k hk => (hown.lt k hk).1)
          clear hg1 hown hbl
          go_wp2
          go_roundw
          case rel => exact ⟨j + 1, cn + 1, _, by omega, by omega, by go_num, ho1, R2⟩
          case measure => simp [intOf]; omega
        · go_wp2_with fail
          go_roundw
          case rel => exact ⟨k + 1, cn, xs, by omega, by omega, by go_num, hown, hbl⟩
          case measure => simp [intOf]; omega
    · go_wp2
      go_ret
      rcases hown.2 with ⟨rfl, _⟩ | ⟨g, cap, cur, rfl, _⟩
      · exact ⟨_, _, _, rfl, hbl⟩
      · exact ⟨_, _, _, rfl, hbl⟩

/-! ### slices.Contains -/
/-- Does 3 stand among the samples? -/
theorem has3_no (sb so L c : Nat) (zs : Nat → Int) (w : World) (hL : L ≤ 4) (hz : ∀ i, i < L → ((3 : Int) == zs i) = false) (hc : ∀ i, i < L → w.cell? ⟨sb, so + i, none⟩ = some (.int .i64 (zs i))) :
    Calls Tryd.prog 24 #[.slice (some ⟨sb, so, none⟩) L c, .int .i64 3] w fun e w' => e = .returned (.int .i64 (-1)) ∧ w = w' := by
  go_enter Tryd.func24, Tryd.ntmps24
  go_wp2
  go_loop [8] (fun i => ∃ k : Nat, k ≤ L ∧ i = .int .i64 k) (fun i => L - (intOf i).toNat)
  case atStart => exact ⟨0, by omega, rfl⟩
  case round =>
    obtain ⟨k, hk, rfl⟩ := hrel
    by_cases hlt : k < L
    · have c1 := hc k hlt
      have z1 := hz k hlt
      go_wp2
      go_round
      case rel => exact ⟨k + 1, by omega, by go_num⟩
      case measure => simp [intOf]; omega
    · go_wp2
      go_ret
      exact ⟨rfl, rfl⟩
theorem has3_zero (ao : Option Addr) (c : Nat) (w : World) :
    Calls Tryd.prog 24 #[.slice ao 0 c, .int .i64 3] w fun e w' => e = .returned (.int .i64 (-1)) ∧ w = w' := by
  go_enter Tryd.func24, Tryd.ntmps24
  go_wp2
  refine wp_loop_rounds 1 ?_
  rw [rounds_succ]
  go_wp2
  go_ret
  exact ⟨rfl, rfl⟩
/-- 3 is the last of the samples. -/
theorem has3_yes (sb so L c : Nat) (zs : Nat → Int) (w : World) (hL : L < 4) (hz : ∀ i, i < L → ((3 : Int) == zs i) = false) (h3 : zs L = 3) (hc : ∀ i, i < L + 1 → w.cell? ⟨sb, so + i, none⟩ = some (.int .i64 (zs i))) :
    Calls Tryd.prog 24 #[.slice (some ⟨sb, so, none⟩) (L + 1) c, .int .i64 3] w fun e w' => e = .returned (.int .i64 L) ∧ w = w' := by
  go_enter Tryd.func24, Tryd.ntmps24
  go_wp2
  go_loop [8] (fun i => ∃ k : Nat, k ≤ L ∧ i = .int .i64 k) (fun i => L - (intOf i).toNat)
  case atStart => exact ⟨0, by omega, rfl⟩
  case round =>
    obtain ⟨k, hk, rfl⟩ := hrel
    by_cases hlt : k < L
    · have c1 := hc k (by omega)
      have z1 := hz k hlt
      clear h3
      go_wp2
      go_round
      case rel => exact ⟨k + 1, by omega, by go_num⟩
      case measure => simp [intOf]; omega
    · have ek : k = L := by omega
      subst ek
      have c1 := hc k (by omega)
      rw [h3] at c1
      clear h3 hz hc
      go_wp2
      go_ret
      exact ⟨rfl, rfl⟩
theorem cont_no (ao : Option Addr) (l c : Nat) (w : World) (h : Calls Tryd.prog 24 #[.slice ao l c, .int .i64 3] w fun e w' => e = .returned (.int .i64 (-1)) ∧ w = w') :
    Calls Tryd.prog 21 #[.slice ao l c, .int .i64 3] w fun e w' => e = .returned (.bool false) ∧ w = w' := by
  have H : Hid (Calls Tryd.prog 24 #[.slice ao l c, .int .i64 3] w fun e w' => e = .returned (.int .i64 (-1)) ∧ w = w') := h
  clear h
  go_enter Tryd.func21, Tryd.ntmps21
  go_wp2_with (first | (go_at_call 24; refine (H.out).mono ?_; rintro e wx ⟨rfl, rfl⟩))
  go_ret
  exact ⟨rfl, rfl⟩
theorem cont_yes (ao : Option Addr) (l c L : Nat) (w : World) (h : Calls Tryd.prog 24 #[.slice ao l c, .int .i64 3] w fun e w' => e = .returned (.int .i64 L) ∧ w = w') :
    Calls Tryd.prog 21 #[.slice ao l c, .int .i64 3] w fun e w' => e = .returned (.bool true) ∧ w = w' := by
  have H : Hid (Calls Tryd.prog 24 #[.slice ao l c, .int .i64 3] w fun e w' => e = .returned (.int .i64 L) ∧ w = w') := h
  clear h
  go_enter Tryd.func21, Tryd.ntmps21
  go_wp2_with (first | (go_at_call 24; refine (H.out).mono ?_; rintro e wx ⟨rfl, rfl⟩))
  go_ret
  exact ⟨rfl, rfl⟩
end Go.Proofs.Qxb6613510aDoor
