import Derived.Test.Qxb6613427aDigWalks
import Derived.Deep.OwnRows
namespace Go.Proofs.Qxb6613427a
open Go.RowKit Go.Deep

theorem info5 : (Try.prog.info? 5).map (fun i => (i.zero, i.size, i.bytes)) = some (some (.int .u8 0), 1, 1) := by kernel_rfl

/-! ### Plain: the number shrinks by a digit a round -/
def Sm (x : Int) (k : Nat) : Prop := x < 10 ^ k
theorem Sm_start (x : Int) (h : x ≤ 18446744073709551615) : Sm x 20 := by unfold Sm; omega
theorem Sm_step (x : Int) (k : Nat) (h : Sm x k) (h1 : 1 ≤ k) : Sm (x / 10) (k - 1) := by
  unfold Sm at *
  obtain ⟨j, rfl⟩ : ∃ j, k = j + 1 := ⟨k - 1, by omega⟩
  rw [Int.pow_succ] at h
  simp only [Nat.add_sub_cancel]
  omega
theorem Sm_pos (x : Int) (k : Nat) (h : Sm x k) (h1 : 1 ≤ x) : 1 ≤ k := by
  rcases k with _ | k
  · simp [Sm] at h; omega
  · omega

/-! ### Plain: cells that hold digits -/
def digs (f : Nat → Value) (k : Nat) : Prop := ∀ j, k ≤ j → j < 20 → ∃ z : Int, f j = .int .u8 z ∧ 48 ≤ z ∧ z ≤ 57
theorem digs_set (f : Nat → Value) (k : Nat) (z : Int) (hk : 1 ≤ k) (h : digs f k) (h1 : 48 ≤ z) (h2 : z ≤ 57) : digs (fun j => if j = k - 1 then .int .u8 z else f j) (k - 1) := by
  intro j hj hl
  by_cases e : j = k - 1
  · exact ⟨z, by simp [e], h1, h2⟩
  · obtain ⟨y, hy, hb⟩ := h j (by omega) hl
    exact ⟨y, by simp [e, hy], hb⟩

/-- The bytes of the text: its sign first where there is one, then digits. -/
def Txt (neg : Bool) (xs : List Value) : Prop := ∀ j v, xs[j]? = some v → ∃ z : Int, v = .int .u8 z ∧ ((neg = true ∧ j = 0 ∧ z = 45) ∨ (¬ (neg = true ∧ j = 0) ∧ 48 ≤ z ∧ z ≤ 57))
theorem Txt_nil (neg : Bool) : Txt neg [] := fun j v h => by simp at h
theorem Txt_sign : Txt true [.int .u8 45] := fun j v h => by
  rcases j with _ | j
  · simp at h; exact ⟨45, h.symm, .inl ⟨rfl, rfl, rfl⟩⟩
  · simp at h
theorem Txt_snoc (neg : Bool) (xs : List Value) (z : Int) (h : Txt neg xs) (hne : neg = true → xs ≠ []) (h1 : 48 ≤ z) (h2 : z ≤ 57) : Txt neg (xs ++ [.int .u8 z]) := by
  intro j v hv
  rw [List.getElem?_append] at hv
  split at hv
  · exact h j v hv
  · rename_i hj
    have hj0 : j - xs.length = 0 := by
      rcases hq : j - xs.length with _ | q
      · rfl
      · rw [hq] at hv; simp at hv
    rw [hj0] at hv
    simp at hv
    refine ⟨z, hv.symm, .inr ⟨?_, h1, h2⟩⟩
    rintro ⟨hn, rfl⟩
    have := hne hn
    rcases xs with _ | ⟨a, b⟩
    · exact this rfl
    · simp at hj

theorem wrap_u64_bd (x : Int) : 0 ≤ IntKind.u64.wrap x ∧ IntKind.u64.wrap x ≤ 18446744073709551615 := by
  have := IntKind.wrap_u64 x
  rw [this]; omega

theorem zeros20 (i : Nat) (h : i < 20) : (#[Value.int .u8 0, .int .u8 0, .int .u8 0, .int .u8 0, .int .u8 0, .int .u8 0, .int .u8 0, .int .u8 0, .int .u8 0, .int .u8 0, .int .u8 0, .int .u8 0, .int .u8 0, .int .u8 0, .int .u8 0, .int .u8 0, .int .u8 0, .int .u8 0, .int .u8 0, .int .u8 0] : Array Value)[i]? = some (.int .u8 0) := by
  have key : ∀ i : Fin 20, (#[Value.int .u8 0, .int .u8 0, .int .u8 0, .int .u8 0, .int .u8 0, .int .u8 0, .int .u8 0, .int .u8 0, .int .u8 0, .int .u8 0, .int .u8 0, .int .u8 0, .int .u8 0, .int .u8 0, .int .u8 0, .int .u8 0, .int .u8 0, .int .u8 0, .int .u8 0, .int .u8 0] : Array Value) = Array.replicate 20 (.int .u8 0) := fun _ => rfl
  rw [key ⟨i, h⟩]
  simp [h]

/-- What 'zzDecimalText' leaves: a slice of its own whose bytes are the text. -/
def TextOf (neg : Bool) (w : World) (e : Ending) (w' : World) : Prop :=
  ∃ (g len cap : Nat) (xs : List Value), e = .returned (.slice (some ⟨g, 0, none⟩) len cap) ∧ len ≤ 21 ∧ w'.ownsRow w.heap.size 5 1 (.slice (some ⟨g, 0, none⟩) len cap) len xs ∧ Txt neg xs ∧ Below w.heap.size w w'

/-- What one round of the second loop does to the call's own memory. -/
theorem push_step {w wr w1 : World} {G : Nat} {f : Nat → Value} {o : Obj} (hG : w.heap.size < G) (hrow : wr.rowIs w.heap.size 39 20 f) (hbl : Below w.heap.size w wr)
    (hgrow : (wr.alloc o).grownBy w1 (some G)) : w1.rowIs w.heap.size 39 20 f ∧ Below w.heap.size w w1 := by
  have hlt := hrow.lt
  refine ⟨(hrow.alloc o).of_block (hgrow.block _ (by simp; omega) (by simp; omega)), ?_⟩
  exact (hbl.alloc (by omega) o).grown hgrow (by simp; omega) (by rintro k ⟨⟩; omega)

/-- What the make behind the first loop leaves of the call's own memory. -/
theorem make_step {w wr w1 : World} {k : Nat} {x : Int} {f : Nat → Value} (hk1 : 1 ≤ k) (hrow : wr.rowIs w.heap.size 39 20 f) (hdg : digs f k) (hbl : Below w.heap.size w wr) (h1 : 48 ≤ x) (h2 : x ≤ 57)
    (hgrow : (wr.setCell ⟨w.heap.size, k - 1, none⟩ (.int .u8 x)).grownBy w1 .none) : ∃ f2, w1.rowIs w.heap.size 39 20 f2 ∧ digs f2 (k - 1) ∧ Below w.heap.size w w1 := by
  have hr := hrow.set (k - 1) (.int .u8 x)
  have hlt := hr.lt
  refine ⟨_, hr.of_block (hgrow.block _ hlt (by simp)), digs_set f k x hk1 hdg h1 h2, ?_⟩
  exact (hbl.setCell (p := ⟨w.heap.size, k - 1, none⟩) (Nat.le_refl _) _).grown hgrow (by omega) (by simp)

theorem owns_mono {w : World} {base base' : Nat} {e : TypeId} {size : Nat} {v : Value} {n : Nat} {xs : List Value} (h : w.ownsRow base e size v n xs) (hb : base' ≤ base) : w.ownsRow base' e size v n xs := by
  refine ⟨h.1, ?_⟩
  rcases h.2 with h2 | ⟨g, cap, cur, hv, hg, h3⟩
  · exact .inl h2
  · exact .inr ⟨g, cap, cur, hv, by omega, h3⟩

set_option maxRecDepth 4000 in
theorem text_neg (n : Int) (w : World) (hn : n < 0) :
    Calls Try.prog 8 #[.int .i64 n] w fun e w' => TextOf true w e w' := by
  obtain ⟨i0, hi, hz0, hz1, hz2⟩ := info_parts info5
  go_enter Try.func8, Try.ntmps8
  go_wp2
  go_loopw [3, 5] (fun u i wr => ∃ (k : Nat) (x : Int) (f : Nat → Value), 1 ≤ k ∧ k ≤ 20 ∧ i = .int .i64 k ∧ u = .int .u64 x ∧ 0 ≤ x ∧ x ≤ 18446744073709551615 ∧ Sm x k ∧ wr.rowIs w.heap.size 39 20 f ∧ digs f k ∧ Below w.heap.size w wr ∧ wr.heap.size = w.heap.size + 1)
    (fun _ i _ => (intOf i).toNat)
  case atStart =>
    refine ⟨20, _, fun _ => .int .u8 0, by omega, by omega, rfl, rfl, (wrap_u64_bd _).1, (wrap_u64_bd _).2, Sm_start _ (wrap_u64_bd _).2, ?_, ?_, ?_, by simp⟩
    · exact World.rowIs_alloc w _ 39 _ (fun i h => zeros20 i h)
    · intro j h1 h2; omega
    · exact (Below.refl _ _).alloc (Nat.le_refl _) _
  case round =>
    obtain ⟨k, x, f, hk1, hk2, rfl, rfl, hx0, hx1, hsm, hrow, hdg, hbl, hsz⟩ := hrel
    have hcell := hrow.cell (i := k - 1) (by omega)
    have hfz := hrow.frozen (k - 1)
    by_cases hq : x / 10 = 0
    · have hq' : (x / 10 == 0) = true := by simp [hq]
      clear hq
      go_wp2_with (first | (at_make; refine wpList_make_own _ rfl _ _ 23 rfl (w.heap.size + 1) 5 i0 (.int .u8 0) 1 Try.underlying23 hi hz0 hz1 _ _ _ 21 rfl rfl rfl (by rw [hz2]; omega) (by decide) (by simp; omega) ?_))
      intro w1 hown hgrow
      obtain ⟨f2, hrow2, hdg2, hbl2⟩ := make_step hk1 hrow hdg hbl (by omega) (by omega) hgrow
      clear hgrow hbl hrow hdg hcell hfz hsm hq' hsz
      go_wp2_with (first | (at_builtin; refine wpList_append_fits _ rfl _ _ 23 rfl (w.heap.size + 1) 5 i0 1 Try.underlying23 hi hz1 (w.heap.size + 1) 0 21 [] rfl (hown.alloc _) ⟨w1.heap.size, 0, none⟩ 1 1 [.int .u8 45] rfl rfl (cell_one_new _ _ _) (by simp [Value.oneCell']) (by omega) ?_))
      intro w2 hown2 hgrow2
      have R := push_step (by omega) hrow2 hbl2 hgrow2
      clear hrow2 hbl2 hgrow2 hown
      obtain ⟨hrow2, hbl2⟩ := R
      have hown := hown2
      clear hown2
      go_wp2
      go_loopw [6, 7] (fun ov jv wr => ∃ (m len : Nat) (xs : List Value), k - 1 ≤ m ∧ m ≤ 20 ∧ jv = .int .i64 m ∧ ov = .slice (some ⟨w.heap.size + 1, 0, none⟩) len 21 ∧ len + (k - 1) ≤ 1 + m ∧ wr.ownsRow (w.heap.size + 1) 5 1 (.slice (some ⟨w.heap.size + 1, 0, none⟩) len 21) len xs ∧ Txt true xs ∧ (true = true → xs ≠ []) ∧ wr.rowIs w.heap.size 39 20 f2 ∧ Below w.heap.size w wr)
        (fun _ j _ => 20 - (intOf j).toNat)
      case atStart => exact ⟨k - 1, 1, [.int .u8 45], by omega, by omega, by go_num, rfl, by omega, hown, Txt_sign, by simp, hrow2, hbl2⟩
      case round =>
        clear hown hrow2 hbl2
        obtain ⟨m, len, xs, hm1, hm2, rfl, rfl, hlen, hown, htx, hne, hrow, hbl⟩ := hrel
        by_cases hm : m < 20
        · obtain ⟨z, hz, hza, hzb⟩ := hdg2 m hm1 hm
          have hcell := hrow.cell hm
          rw [hz] at hcell
          clear hz
          go_wp2_with (first | (at_builtin; refine wpList_append_fits _ rfl _ _ 23 rfl (w.heap.size + 1) 5 i0 1 Try.underlying23 hi hz1 (w.heap.size + 1) len 21 xs rfl (hown.alloc _) ⟨wr.heap.size, 0, none⟩ 1 1 [.int .u8 z] rfl rfl (cell_one_new _ _ _) (by simp [Value.oneCell']) (by omega) ?_))
          intro w2 hown2 hgrow2
          have R := push_step (by omega) hrow hbl hgrow2
          have T := Txt_snoc true xs z htx (fun h => hne (by simp at h ⊢)) hza hzb
          clear hrow hbl hgrow2 hown htx hne hcell
          go_wp2
          go_roundw
          case rel => exact ⟨m + 1, len + 1, _, by omega, by omega, by go_num, rfl, by omega, hown2, T, by simp, R.1, R.2⟩
          case measure => simp [intOf]; omega
        · go_wp2
          go_ret
          exact ⟨w.heap.size + 1, len, 21, xs, rfl, by omega, owns_mono hown (by omega), htx, hbl⟩
    · have hq' : (x / 10 == 0) = false := by simp [hq]
      have R1 := hrow.set (k - 1) (.int .u8 (48 + x % 10))
      have R2 := digs_set f k (48 + x % 10) hk1 hdg (by omega) (by omega)
      have R3 := Sm_step x k hsm hk1
      have R4 := Sm_pos _ _ R3 (by omega)
      have R5 := hbl.setCell (p := ⟨w.heap.size, k - 1, none⟩) (Nat.le_refl _) (.int .u8 (48 + x % 10))
      have R := And.intro R1 (And.intro R2 (And.intro R3 (And.intro R4 R5)))
      have HR : Hid _ := R
      clear R R1 R2 R3 R4 R5 hq
      go_wp2
      go_roundw
      case rel =>
        obtain ⟨R1, R2, R3, R4, R5⟩ := HR.out
        exact ⟨k - 1, x / 10, _, R4, by omega, by go_num, rfl, by omega, by omega, R3, R1, R2, R5, by simp; exact hsz⟩
      case measure => simp [intOf]; omega

set_option maxRecDepth 4000 in
theorem text_pos (n : Int) (w : World) (hn : 0 ≤ n) (h1 : n ≤ 9223372036854775807) :
    Calls Try.prog 8 #[.int .i64 n] w fun e w' => TextOf false w e w' := by
  obtain ⟨i0, hi, hz0, hz1, hz2⟩ := info_parts info5
  have hnd : decide (n < 0) = false := by simp; omega
  go_enter Try.func8, Try.ntmps8
  go_wp2
  go_loopw [3, 5] (fun u i wr => ∃ (k : Nat) (x : Int) (f : Nat → Value), 1 ≤ k ∧ k ≤ 20 ∧ i = .int .i64 k ∧ u = .int .u64 x ∧ 0 ≤ x ∧ x ≤ 18446744073709551615 ∧ Sm x k ∧ wr.rowIs w.heap.size 39 20 f ∧ digs f k ∧ Below w.heap.size w wr ∧ wr.heap.size = w.heap.size + 1)
    (fun _ i _ => (intOf i).toNat)
  case atStart =>
    refine ⟨20, _, fun _ => .int .u8 0, by omega, by omega, rfl, rfl, hn, by omega, Sm_start _ (by omega), ?_, ?_, ?_, by simp⟩
    · exact World.rowIs_alloc w _ 39 _ (fun i h => zeros20 i h)
    · intro j h1 h2; omega
    · exact (Below.refl _ _).alloc (Nat.le_refl _) _
  case round =>
    obtain ⟨k, x, f, hk1, hk2, rfl, rfl, hx0, hx1, hsm, hrow, hdg, hbl, hsz⟩ := hrel
    have hcell := hrow.cell (i := k - 1) (by omega)
    have hfz := hrow.frozen (k - 1)
    by_cases hq : x / 10 = 0
    · have hq' : (x / 10 == 0) = true := by simp [hq]
      clear hq
      go_wp2_with (first | (at_make; refine wpList_make_own _ rfl _ _ 23 rfl (w.heap.size + 1) 5 i0 (.int .u8 0) 1 Try.underlying23 hi hz0 hz1 _ _ _ 21 rfl rfl rfl (by rw [hz2]; omega) (by decide) (by simp; omega) ?_))
      intro w1 hown hgrow
      obtain ⟨f2, hrow2, hdg2, hbl2⟩ := make_step hk1 hrow hdg hbl (by omega) (by omega) hgrow
      clear hgrow hbl hrow hdg hcell hfz hsm hq' hsz
      go_wp2
      go_loopw [6, 7] (fun ov jv wr => ∃ (m len : Nat) (xs : List Value), k - 1 ≤ m ∧ m ≤ 20 ∧ jv = .int .i64 m ∧ ov = .slice (some ⟨w.heap.size + 1, 0, none⟩) len 21 ∧ len + (k - 1) ≤ 1 + m ∧ wr.ownsRow (w.heap.size + 1) 5 1 (.slice (some ⟨w.heap.size + 1, 0, none⟩) len 21) len xs ∧ Txt false xs ∧ (false = true → xs ≠ []) ∧ wr.rowIs w.heap.size 39 20 f2 ∧ Below w.heap.size w wr)
        (fun _ j _ => 20 - (intOf j).toNat)
      case atStart => exact ⟨k - 1, 0, [], by omega, by omega, by go_num, rfl, by omega, hown, Txt_nil _, by simp, hrow2, hbl2⟩
      case round =>
        clear hown hrow2 hbl2
        obtain ⟨m, len, xs, hm1, hm2, rfl, rfl, hlen, hown, htx, hne, hrow, hbl⟩ := hrel
        by_cases hm : m < 20
        · obtain ⟨z, hz, hza, hzb⟩ := hdg2 m hm1 hm
          have hcell := hrow.cell hm
          rw [hz] at hcell
          clear hz
          go_wp2_with (first | (at_builtin; refine wpList_append_fits _ rfl _ _ 23 rfl (w.heap.size + 1) 5 i0 1 Try.underlying23 hi hz1 (w.heap.size + 1) len 21 xs rfl (hown.alloc _) ⟨wr.heap.size, 0, none⟩ 1 1 [.int .u8 z] rfl rfl (cell_one_new _ _ _) (by simp [Value.oneCell']) (by omega) ?_))
          intro w2 hown2 hgrow2
          have R := push_step (by omega) hrow hbl hgrow2
          have T := Txt_snoc false xs z htx (fun h => hne (by simp at h ⊢)) hza hzb
          clear hrow hbl hgrow2 hown htx hne hcell
          go_wp2
          go_roundw
          case rel => exact ⟨m + 1, len + 1, _, by omega, by omega, by go_num, rfl, by omega, hown2, T, by simp, R.1, R.2⟩
          case measure => simp [intOf]; omega
        · go_wp2
          go_ret
          exact ⟨w.heap.size + 1, len, 21, xs, rfl, by omega, owns_mono hown (by omega), htx, hbl⟩
    · have hq' : (x / 10 == 0) = false := by simp [hq]
      have R1 := hrow.set (k - 1) (.int .u8 (48 + x % 10))
      have R2 := digs_set f k (48 + x % 10) hk1 hdg (by omega) (by omega)
      have R3 := Sm_step x k hsm hk1
      have R4 := Sm_pos _ _ R3 (by omega)
      have R5 := hbl.setCell (p := ⟨w.heap.size, k - 1, none⟩) (Nat.le_refl _) (.int .u8 (48 + x % 10))
      have R := And.intro R1 (And.intro R2 (And.intro R3 (And.intro R4 R5)))
      have HR : Hid _ := R
      clear R R1 R2 R3 R4 R5 hq
      go_wp2
      go_roundw
      case rel =>
        obtain ⟨R1, R2, R3, R4, R5⟩ := HR.out
        exact ⟨k - 1, x / 10, _, R4, by omega, by go_num, rfl, by omega, by omega, R3, R1, R2, R5, by simp; exact hsz⟩
      case measure => simp [intOf]; omega

theorem text_cell {w w' : World} {g len cap : Nat} {xs : List Value} {neg : Bool} (hown : w'.ownsRow w.heap.size 5 1 (.slice (some ⟨g, 0, none⟩) len cap) len xs) (ht : Txt neg xs) (j : Nat) (hj : j < len) :
    ∃ z : Int, w'.cell? ⟨g, j, none⟩ = some (.int .u8 z) ∧ ((neg = true ∧ j = 0 ∧ z = 45) ∨ (¬ (neg = true ∧ j = 0) ∧ 48 ≤ z ∧ z ≤ 57)) := by
  have h := hown.cellAt j (by omega)
  have hl : j < xs.length := by have := hown.1; omega
  rw [List.getElem?_eq_getElem hl] at h
  obtain ⟨z, hz, hc⟩ := ht j _ (List.getElem?_eq_getElem hl)
  exact ⟨z, by rw [h, hz], hc⟩

theorem sign_neg (n : Int) (w : World) (hn : n < 0) :
    Calls Try.prog 4 #[.int .i64 n] w fun e w' => e = .returned (.bool true) ∧ Below w.heap.size w w' := by
  go_enter Try.func4, Try.ntmps4
  go_wp2_with (first | (go_at_call 8; refine (text_neg _ _ hn).mono ?_))
  rintro e w' ⟨g, len, cap, xs, rfl, hlen, hown, htx, hbl⟩
  go_wp2
  go_loop [4] (fun i => ∃ k : Nat, k ≤ len ∧ i = .int .i64 k) (fun i => len - (intOf i).toNat)
  case atStart => exact ⟨0, by omega, rfl⟩
  case round =>
    obtain ⟨k, hk, rfl⟩ := hrel
    by_cases hkl : k < len
    · obtain ⟨z, hc, hz⟩ := text_cell hown htx k hkl
      rcases hz with ⟨_, hk0, hz⟩ | ⟨hk0, hza, hzb⟩
      · subst hz hk0
        go_wp2_with (first | (go_at_call 7; refine (zzisDigit_no _ _ (by omega)).mono ?_; rintro e w' ⟨rfl, rfl⟩))
        go_round
        case rel => exact ⟨1, by omega, by go_num⟩
        case measure => simp [intOf]; omega
      · have hk1 : ((k : Int) == 0) = false := by simp at hk0 ⊢; omega
        clear hk0
        go_wp2_with (first | (go_at_call 7; refine (zzisDigit_yes _ _ (by omega) (by omega)).mono ?_; rintro e w' ⟨rfl, rfl⟩))
        go_round
        case rel => exact ⟨k + 1, by omega, by go_num⟩
        case measure => simp [intOf]; omega
    · go_wp2
      go_ret
      exact ⟨rfl, hbl⟩

theorem sign_pos (n : Int) (w : World) (hn : 0 ≤ n) (h1 : n ≤ 9223372036854775807) :
    Calls Try.prog 4 #[.int .i64 n] w fun e w' => e = .returned (.bool true) ∧ Below w.heap.size w w' := by
  have hnd : decide (n < 0) = false := by simp; omega
  go_enter Try.func4, Try.ntmps4
  go_wp2_with (first | (go_at_call 8; refine (text_pos _ _ hn h1).mono ?_))
  rintro e w' ⟨g, len, cap, xs, rfl, hlen, hown, htx, hbl⟩
  go_wp2
  go_loop [4] (fun i => ∃ k : Nat, k ≤ len ∧ i = .int .i64 k) (fun i => len - (intOf i).toNat)
  case atStart => exact ⟨0, by omega, rfl⟩
  case round =>
    obtain ⟨k, hk, rfl⟩ := hrel
    by_cases hkl : k < len
    · obtain ⟨z, hc, hz⟩ := text_cell hown htx k hkl
      rcases hz with ⟨hf, _⟩ | ⟨_, hza, hzb⟩
      · exact absurd hf (by simp)
      · go_wp2_with (first | (go_at_call 7; refine (zzisDigit_yes _ _ (by omega) (by omega)).mono ?_; rintro e w' ⟨rfl, rfl⟩))
        go_round
        case rel => exact ⟨k + 1, by omega, by go_num⟩
        case measure => simp [intOf]; omega
    · go_wp2
      go_ret
      exact ⟨rfl, hbl⟩

end Go.Proofs.Qxb6613427a
