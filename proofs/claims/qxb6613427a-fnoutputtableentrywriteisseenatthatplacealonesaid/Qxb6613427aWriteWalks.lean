import Derived.Test.Qxb6613427aTabWalks
import Derived.OpenShut
import Derived.WalkSmall
import Derived.LaidEqlPtr
namespace Go.Proofs.Qxb6613427a
open Go.RowKit

theorem bytes15_yes (a : Option Addr) (len cap : Nat) (p q v : Int) (w : World) (h : len ≤ 1048576) :
    Calls Try.prog 15 #[.slice a len cap, .int .i32 p, .int .i32 q, .int .i64 v] w fun e w' => e = .returned (.bool true) ∧ w = w' := by
  go_enter Try.func15, Try.ntmps15
  go_wp2
  go_ret
  exact ⟨rfl, rfl⟩
theorem bytes15_no (a : Option Addr) (len cap : Nat) (p q v : Int) (w : World) (h : 1048576 < len) :
    Calls Try.prog 15 #[.slice a len cap, .int .i32 p, .int .i32 q, .int .i64 v] w fun e w' => e = .returned (.bool false) ∧ w = w' := by
  go_enter Try.func15, Try.ntmps15
  go_wp2
  go_ret
  exact ⟨rfl, rfl⟩

/-- The ways on which the law says nothing: the slice too long, a place outside it. -/
theorem write_out (a : Option Addr) (len cap : Nat) (p q v : Int) (w : World) (hlen : len ≤ 9223372036854775807) (h0 : -2147483648 ≤ p) (h1 : p ≤ 2147483647) (h2 : -2147483648 ≤ q) (h3 : q ≤ 2147483647)
    (h : 131072 < len ∨ p < 1 ∨ (len : Int) < p ∨ q < 1 ∨ (len : Int) < q) :
    Calls Try.prog 6 #[.slice a len cap, .int .i32 p, .int .i32 q, .int .i64 v] w fun e w' => e = .returned (.bool true) ∧ w = w' := by
  by_cases hb : 1048576 < len
  · go_enter Try.func6, Try.ntmps6
    go_wp2_with (first | (go_at_call 15; refine (bytes15_no _ _ _ _ _ _ _ (by omega)).mono ?_; rintro e w' ⟨rfl, rfl⟩))
    go_ret
    exact ⟨rfl, rfl⟩
  · by_cases hl : 131072 < len
    · go_enter Try.func6, Try.ntmps6
      go_wp2_with (first | (go_at_call 15; refine (bytes15_yes _ _ _ _ _ _ _ (by omega)).mono ?_; rintro e w' ⟨rfl, rfl⟩))
      go_ret
      exact ⟨rfl, rfl⟩
    · by_cases hp : p < 1
      · go_enter Try.func6, Try.ntmps6
        go_wp2_with (first | (go_at_call 15; refine (bytes15_yes _ _ _ _ _ _ _ (by omega)).mono ?_; rintro e w' ⟨rfl, rfl⟩))
        go_ret
        exact ⟨rfl, rfl⟩
      · have hd : decide (p < 1) = false := by simp; omega
        by_cases hp2 : (len : Int) < p
        · clear h
          go_enter Try.func6, Try.ntmps6
          go_wp2_with (first | (go_at_call 15; refine (bytes15_yes _ _ _ _ _ _ _ (by omega)).mono ?_; rintro e w' ⟨rfl, rfl⟩))
          go_ret
          exact ⟨rfl, rfl⟩
        · have hd2 : decide ((len : Int) < p) = false := by simp; omega
          by_cases hq : q < 1
          · clear h
            go_enter Try.func6, Try.ntmps6
            go_wp2_with (first | (go_at_call 15; refine (bytes15_yes _ _ _ _ _ _ _ (by omega)).mono ?_; rintro e w' ⟨rfl, rfl⟩))
            go_ret
            exact ⟨rfl, rfl⟩
          · have hd3 : decide (q < 1) = false := by simp; omega
            have hq2 : (len : Int) < q := by omega
            clear h
            go_enter Try.func6, Try.ntmps6
            go_wp2_with (first | (go_at_call 15; refine (bytes15_yes _ _ _ _ _ _ _ (by omega)).mono ?_; rintro e w' ⟨rfl, rfl⟩))
            go_ret
            exact ⟨rfl, rfl⟩

/-- The table behind a write through entry P. -/
theorem tab_set {w : World} {zs : List Int} {len B T G nc cap : Nat} {g : Nat → Nat} (h : TabAt w zs len B T G nc cap g) (hl : len ≤ zs.length) (P : Nat) (hP : P < len) (v : Int) :
    TabAt (w.setCell ⟨g (P / 4096), P % 4096 * 35 + 33, none⟩ (.int .i64 v)) (zs.set P v) len B T G nc cap g := by
  have ne : ∀ Q, Q < len → Q ≠ P → ∀ (d : Nat), d < 35 → (⟨g (Q / 4096), Q % 4096 * 35 + d, none⟩ : Addr) ≠ ⟨g (P / 4096), P % 4096 * 35 + 33, none⟩ := by
    intro Q hQ hne d hd e
    simp only [Addr.mk.injEq, and_true] at e
    have := h.inj Q P hQ hP e.1
    omega
  have keep : ∀ x : Addr, x ≠ ⟨g (P / 4096), P % 4096 * 35 + 33, none⟩ → (w.setCell ⟨g (P / 4096), P % 4096 * 35 + 33, none⟩ (.int .i64 v)).cell? x = w.cell? x := by
    intro x hx
    exact World.cell?_setCell_other _ _ _ _ (Ne.symm hx)
  have ap := h.apart P hP
  refine ⟨?_, h.inn, ?_, ?_, ?_, ?_, h.inj, h.apart⟩
  · rw [keep _ (by intro e; simp only [Addr.mk.injEq, and_true] at e; omega)]; exact h.tab
  · intro Q hQ
    rw [keep _ (by intro e; simp only [Addr.mk.injEq, and_true] at e; omega)]; exact h.head Q hQ
  · intro Q hQ
    rw [keep _ (by intro e; simp only [Addr.mk.injEq, and_true] at e; omega)]; exact h.idx Q hQ
  · intro Q hQ
    by_cases e : Q = P
    · subst e
      rw [World.cell?_setCell_same _ _ _ (h.num Q hQ)]
      simp [List.getD, show Q < zs.length by omega]
    · rw [keep _ (ne Q hQ e 33 (by omega)), h.num Q hQ]
      simp [List.getD, Ne.symm e]
  · intro Q hQ
    rw [World.frozen?_setCell]
    exact h.free Q hQ

/-- A block of cells stays one behind a store. -/
theorem blk_setCell {w : World} {b : Nat} {t : TypeId} (a : Addr) (v : Value) (h : ∃ cur : Array Value, w.heap[b]? = some (.cells cur t (0, 0))) : ∃ cur : Array Value, (w.setCell a v).heap[b]? = some (.cells cur t (0, 0)) := by
  obtain ⟨cur, h⟩ := h
  by_cases e : b = a.block
  · simp only [World.setCell, Array.getElem?_modify]
    rw [if_pos e.symm, h]
    exact ⟨_, rfl⟩
  · rw [heap_setCell_other _ _ _ _ e]
    exact ⟨cur, h⟩

theorem write_in (b off len cap P Q : Nat) (v : Int) (zs : List Int) (w : World) (hl : len ≤ zs.length) (hlen : len ≤ 131072) (hP : P < len) (hQ : Q < len) (hc : ∀ j, j < zs.length → w.cell? ⟨b, off + j, none⟩ = some (.int .i64 (zs.getD j 0))) :
    Calls Try.prog 6 #[.slice (some ⟨b, off, none⟩) len cap, .int .i32 ((P : Int) + 1), .int .i32 ((Q : Int) + 1), .int .i64 v] w fun e w' => e = .returned (.bool true) ∧ Below w.heap.size w w' := by
  have hcQ := hc Q (by omega)
  have hd1 : decide ((P : Int) + 1 < 1) = false := by simp; omega
  have hd2 : decide ((len : Int) < (P : Int) + 1) = false := by simp; omega
  have hd3 : decide ((Q : Int) + 1 < 1) = false := by simp; omega
  have hd4 : decide ((len : Int) < (Q : Int) + 1) = false := by simp; omega
  go_enter Try.func6, Try.ntmps6
  go_wp2_with (first | (go_at_call 15; refine (bytes15_yes _ _ _ _ _ _ _ (by omega)).mono ?_; rintro e wx ⟨rfl, rfl⟩))
  refine (chunks_any b off len cap zs w hl hlen hc).mono ?_
  rintro e w1 ⟨cv, nc, g, rfl, hnc, _, hown, hch, hb1⟩
  obtain ⟨G, capc, rfl, htab⟩ := tab_at hown hch hnc (by omega)
  have hk1 : ∀ R, R < len → ∃ cur : Array Value, w1.heap[g (R / 4096)]? = some (.cells cur 52 (0, 0)) := fun R hR => by
    obtain ⟨_, cur, h, _⟩ := hch.1 (R / 4096) (by omega)
    exact ⟨cur, h⟩
  clear hown hch hc
  go_wp2_with fail
  refine (table_any _ _ _ _ _).mono ?_
  rintro e w2 ⟨rfl, ht2, hb2⟩
  have tab := htab w2 hb2 ht2
  clear htab
  have hb := hb1.trans (hb2.mono hb1.size)
  have hk2 : ∀ R, R < len → ∃ cur : Array Value, w2.heap[g (R / 4096)]? = some (.cells cur 52 (0, 0)) := fun R hR => by
    obtain ⟨cur, h⟩ := hk1 R hR
    exact ⟨cur, (hb2.block _ (Array.getElem?_eq_some_iff.1 h).1).trans h⟩
  clear hb1 hb2 hk1
  obtain ⟨hin1, hin2⟩ := tab.inn P hP
  obtain ⟨hin3, hin4⟩ := tab.inn Q hQ
  go_wp2_with fail
  refine (entryAt_any _ _ _ _ _ _ P _ (by omega) tab.tab (tab.head P hP) hin1 hin2).mono ?_
  rintro e wx ⟨rfl, hw⟩; have hw := hw.symm; subst hw
  go_wp2_with fail
  refine (setN_any _ _ _ v _ (tab.num P hP) (tab.free P hP)).mono ?_
  rintro e w3 ⟨rfl, hw3⟩
  have hb3 : Below w.heap.size w w3 := by rw [hw3]; exact hb.setCell (tab.apart P hP).1 _
  have tab3 := tab_set tab hl P hP v
  have hk3 : ∀ R, R < len → ∃ cur : Array Value, w3.heap[g (R / 4096)]? = some (.cells cur 52 (0, 0)) := fun R hR => by
    rw [hw3]
    exact blk_setCell _ _ (hk2 R hR)
  clear hk2
  rw [← hw3] at tab3
  clear hw3 tab hb ht2
  have hx := hb3.cell (block_lt_of_cell hcQ)
  rw [hcQ] at hx
  clear hcQ
  have k1 := tab3.idx Q hQ
  have k2 := tab3.num Q hQ
  go_wp2_with fail
  refine (entryAt_any _ _ _ _ _ _ Q _ (by omega) tab3.tab (tab3.head Q hQ) hin3 hin4).mono ?_
  rintro e wx ⟨rfl, hw⟩; have hw := hw.symm; subst hw
  go_wp2_with fail
  refine (entryAt_any _ _ _ _ _ _ P _ (by omega) tab3.tab (tab3.head P hP) hin1 hin2).mono ?_
  rintro e wx ⟨rfl, hw⟩; have hw := hw.symm; subst hw
  obtain ⟨i52, hi52, hz52⟩ : ∃ j, Try.prog.info? 52 = some j ∧ j.size ≠ 0 := by
    obtain ⟨i, hi, _, hz, _⟩ := info_parts info52
    exact ⟨i, hi, by omega⟩
  have eP := run_eql_ptr_same (P := Try.prog) w3 (tp := 32) (te := 52) ⟨g (P / 4096), P % 4096 * 35, none⟩ Try.underlying32 hi52
  obtain ⟨cP, hcP⟩ := hk3 P hP
  obtain ⟨cQ, hcQ⟩ := hk3 Q hQ
  clear hk3
  by_cases hPQ : Q = P
  · subst hPQ
    have e2 : (zs.set Q v).getD Q 0 = v := by simp [List.getD, show Q < zs.length by omega]
    rw [e2] at k2
    clear e2 tab3
    go_wp2_with (first | (go_at_call 13; refine (index_any _ _ _ _ k1).mono ?_; rintro e wx ⟨rfl, hw⟩; have hw := hw.symm; subst hw) | (go_at_call 14; refine (recN_any _ _ _ _ k2).mono ?_; rintro e wx ⟨rfl, hw⟩; have hw := hw.symm; subst hw))
    go_ret
    exact ⟨rfl, hb3⟩
  · have e2 : (zs.set P v).getD Q 0 = zs.getD Q 0 := by simp [List.getD, Ne.symm hPQ]
    rw [e2] at k2
    have ha : (⟨g (Q / 4096), Q % 4096 * 35, none⟩ : Addr) ≠ ⟨g (P / 4096), P % 4096 * 35, none⟩ := by
      intro e
      simp only [Addr.mk.injEq, and_true] at e
      have := tab3.inj Q P hQ hP e.1
      omega
    have hq1 : ((Q : Int) + 1 == (P : Int) + 1) = false := by simp; omega
    have eQ := run_eql_ptr_other (P := Try.prog) w3 (tp := 32) (te := 52) Try.underlying32 hi52 hz52 ha hcQ hcP
    clear e2 tab3 ha hcQ hcP
    go_wp2_with (first | (go_at_call 13; refine (index_any _ _ _ _ k1).mono ?_; rintro e wx ⟨rfl, hw⟩; have hw := hw.symm; subst hw) | (go_at_call 14; refine (recN_any _ _ _ _ k2).mono ?_; rintro e wx ⟨rfl, hw⟩; have hw := hw.symm; subst hw))
    go_ret
    exact ⟨rfl, hb3⟩
end Go.Proofs.Qxb6613427a
