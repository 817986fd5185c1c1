import Derived.Test.Qxb6613510aDoorTop
namespace Go.Proofs.Qxb6613510aDoor
open Go.RowKit
set_option linter.unusedVariables false

set_option maxRecDepth 100000 in
set_option maxHeartbeats 2000000 in
theorem top_other (hf : Bool) (xo ao yo : Option Addr) (np xc n c m yc : Nat) (fx f fs G : Nat → Int) (stride width height depth ct : Int) (w : World) (hlen : np + n + m ≤ 1048576) (hx : xo = none → np = 0 ∧ xc = 0) (h0 : ao = none → n = 0) (hy : yo = none → m = 0 ∧ yc = 0) (hX : Src w xo np fx) (hs : Src w ao n f) (hY : Src w yo m fs)
    (k0 : (ct == 0) = false) (k2 : (ct == 2) = false) (h11 : Want w hf width depth ct ao n c m fs G) (h12 : Reads 12 w hf stride width height depth ct np n m f fs G) :
    Calls Tryd.prog 4 #[.slice xo np xc, .int .i64 stride, .int .i64 width, .int .i64 height, .int .u8 depth, .int .u8 ct, .slice ao n c, .slice yo m yc] w fun e w' => e = .returned (.bool true) ∧ Below w.heap.size w w' := by
  have H11 : Hid _ := h11
  have H12 : Hid _ := h12
  have H0 : Hid _ := h0
  clear h11 h12 h0
  have HL : Hid _ := hlen
  have c1 : ¬ ((1048576 : Int) < (np : Int)) := by omega
  have c2 : ¬ ((1048576 : Int) < (np : Int) + n) := by omega
  have c3 : ¬ ((1048576 : Int) < (np : Int) + n + m) := by omega
  have Hn : Hid (n ≤ 1048576) := (by omega : n ≤ 1048576)
  have Hp : Hid (np ≤ 1048576) := (by omega : np ≤ 1048576)
  have Hm : Hid (m ≤ 1048576) := (by omega : m ≤ 1048576)
  have hq1 := fun ww => Go.run_neq_slice_nil_any (P := Tryd.prog) ww 22 5 xo np xc 0 0 Tryd.underlying22
  have hq2 := fun ww => Go.run_neq_slice_nil_any (P := Tryd.prog) ww 22 5 yo m yc 0 0 Tryd.underlying22
  obtain ⟨i5, hi, hz0, hz1, hz2⟩ := info_parts info5
  clear hlen
  rcases xo with _ | x
  · obtain ⟨rfl, rfl⟩ := hx rfl
    rcases yo with _ | y
    · obtain ⟨rfl, rfl⟩ := hy rfl
      go_enter Tryd.func4, Tryd.ntmps4
      have hBW : Below w.heap.size w w := Below.refl _ _
      have hPo : Own w w.heap.size none 0 fx := .inl ⟨rfl, rfl⟩
      have hSo : Own w w.heap.size none 0 fs := .inl ⟨rfl, rfl⟩
      go_wp2_with (first | (go_at_call 10; refine (zzBytes_yes _ _ _ _ _ _ _ _ _ _ _ _ _ _ _ HL.out).mono ?_; rintro e wx ⟨rfl, rfl⟩))
      refine (H11.out w none hBW hSo).mono ?_
      rintro e w5 ⟨wo, rfl, hWo, hb5⟩
      have hB5 := hBW.trans (hb5.mono hBW.size)
      have hS5 := own_grown hSo (grown_of_below hb5 none)
      have hP5 := own_grown hPo (grown_of_below hb5 none)
      go_wp2_with fail
      refine (clone_any ao n c f w5 Hn.out H0.out (hs.below hB5)).mono ?_
      rintro e w6 ⟨oo, rfl, hOo, hb6⟩
      have hB6 := hB5.trans (hb6.mono hB5.size)
      have hS6 := own_grown hS5 (grown_of_below hb6 none)
      have hP6 := own_grown hP5 (grown_of_below hb6 none)
      have hW6 := own_grown hWo (grown_of_below hb6 none)
      have nS := own_ne hS5 hOo
      have nW := own_ne hWo hOo
      have nP := own_ne hP5 hOo
      have hOm := own_mono hOo hB5.size
      go_wp2_with fail
      refine (H12.out w6 none none oo hB6 hS6 hOm nS).mono ?_
      rintro e w7 ⟨rfl, hO7, hg7⟩
      have hW7 := own_apart (C := w.heap.size) hW6 hg7 nW (Nat.le_refl _)
      have hP7 := own_apart (C := w.heap.size) hP6 hg7 nP (Nat.le_refl _)
      have hB7 := own_below_grown hOm hB6 hg7
      go_wp2_with fail
      refine (answer_any hf w.heap.size oo wo none n 0 G fx stride w7 Hn.out hP7 (own_src hO7) (own_src hW7)).mono ?_
      rintro e w8 ⟨rfl, q, rfl⟩
      go_wp2_with fail
      go_ret
      exact ⟨rfl, below_drewN hB7 _⟩
    · go_enter Tryd.func4, Tryd.ntmps4
      go_wp2_with (first | (go_at_call 10; refine (zzBytes_yes _ _ _ _ _ _ _ _ _ _ _ _ _ _ _ HL.out).mono ?_; rintro e wx ⟨rfl, rfl⟩) | (at_make; refine wpList_make_full _ rfl _ _ 22 rfl w.heap.size 5 i5 (.int .u8 0) 1 Tryd.underlying22 hi hz0 hz1 _ _ _ _ m rfl rfl rfl rfl (by rw [hz2]; have := Hm.out; omega) (by have := Hm.out; unfold maxLen; omega) (Nat.le_refl _) ?_))
      intro v1 ho1 hg1
      obtain ⟨cur, hcur, hlen1⟩ := made_cells ho1
      have hb1 : Below w.heap.size w v1 := (Below.refl _ _).grown hg1 (Nat.le_refl _) (by simp)
      have hs1 := hY.below hb1
      clear ho1 hg1
      go_wp2_with (first | (refine wpList_copy_splice rfl _ _ 22 22 rfl 5 Tryd.underlying22 size5 _ _ _ _ _ _ rfl rfl w.heap.size 0 cur 5 hcur (carried m fs) (by rw [carried_len]; exact (Nat.min_self m).symm) (fun hp => ⟨rfl, src_cells hs1 (by rw [carried_len] at hp; exact hp)⟩) (by rw [carried_len]; omega) (carried_one m fs) w.heap.size w hb1 (Nat.le_refl _) ?_))
      intro v2 hr2 vb
      have hr := hr2.out
      rw [splice_all hlen1] at hr
      have vR := row_of_carried hr
      clear hr hr2 hcur hs1 hb1 hlen1
      have hBW : Below w.heap.size w v2 := vb
      have hPo : Own v2 w.heap.size none 0 fx := .inl ⟨rfl, rfl⟩
      have hSo : Own v2 w.heap.size (some ⟨w.heap.size, 0, none⟩) m fs := .inr ⟨_, rfl, Nat.le_refl _, vR⟩
      go_wp2_with (first | (go_at_call 10; refine (zzBytes_yes _ _ _ _ _ _ _ _ _ _ _ _ _ _ _ HL.out).mono ?_; rintro e wx ⟨rfl, rfl⟩))
      refine (H11.out v2 (some ⟨w.heap.size, 0, none⟩) hBW hSo).mono ?_
      rintro e w5 ⟨wo, rfl, hWo, hb5⟩
      have hB5 := hBW.trans (hb5.mono hBW.size)
      have hS5 := own_grown hSo (grown_of_below hb5 none)
      have hP5 := own_grown hPo (grown_of_below hb5 none)
      go_wp2_with fail
      refine (clone_any ao n c f w5 Hn.out H0.out (hs.below hB5)).mono ?_
      rintro e w6 ⟨oo, rfl, hOo, hb6⟩
      have hB6 := hB5.trans (hb6.mono hB5.size)
      have hS6 := own_grown hS5 (grown_of_below hb6 none)
      have hP6 := own_grown hP5 (grown_of_below hb6 none)
      have hW6 := own_grown hWo (grown_of_below hb6 none)
      have nS := own_ne hS5 hOo
      have nW := own_ne hWo hOo
      have nP := own_ne hP5 hOo
      have hOm := own_mono hOo hB5.size
      go_wp2_with fail
      refine (H12.out w6 none (some ⟨w.heap.size, 0, none⟩) oo hB6 hS6 hOm nS).mono ?_
      rintro e w7 ⟨rfl, hO7, hg7⟩
      have hW7 := own_apart (C := v2.heap.size) hW6 hg7 nW (Nat.le_refl _)
      have hP7 := own_apart (C := w.heap.size) hP6 hg7 nP (Nat.le_refl _)
      have hB7 := own_below_grown hOm hB6 hg7
      go_wp2_with fail
      refine (answer_any hf w.heap.size oo wo none n 0 G fx stride w7 Hn.out hP7 (own_src hO7) (own_src hW7)).mono ?_
      rintro e w8 ⟨rfl, q, rfl⟩
      go_wp2_with fail
      go_ret
      exact ⟨rfl, below_drewN hB7 _⟩
  · rcases yo with _ | y
    · obtain ⟨rfl, rfl⟩ := hy rfl
      go_enter Tryd.func4, Tryd.ntmps4
      go_wp2_with (first | (go_at_call 10; refine (zzBytes_yes _ _ _ _ _ _ _ _ _ _ _ _ _ _ _ HL.out).mono ?_; rintro e wx ⟨rfl, rfl⟩) | (at_make; refine wpList_make_full _ rfl _ _ 22 rfl w.heap.size 5 i5 (.int .u8 0) 1 Tryd.underlying22 hi hz0 hz1 _ _ _ _ np rfl rfl rfl rfl (by rw [hz2]; have := Hp.out; omega) (by have := Hp.out; unfold maxLen; omega) (Nat.le_refl _) ?_))
      intro u1 ho1 hg1
      obtain ⟨cur, hcur, hlen1⟩ := made_cells ho1
      have hb1 : Below w.heap.size w u1 := (Below.refl _ _).grown hg1 (Nat.le_refl _) (by simp)
      have hs1 := hX.below hb1
      clear ho1 hg1
      go_wp2_with (first | (refine wpList_copy_splice rfl _ _ 22 22 rfl 5 Tryd.underlying22 size5 _ _ _ _ _ _ rfl rfl w.heap.size 0 cur 5 hcur (carried np fx) (by rw [carried_len]; exact (Nat.min_self np).symm) (fun hp => ⟨rfl, src_cells hs1 (by rw [carried_len] at hp; exact hp)⟩) (by rw [carried_len]; omega) (carried_one np fx) w.heap.size w hb1 (Nat.le_refl _) ?_))
      intro u2 hr2 ub
      have hr := hr2.out
      rw [splice_all hlen1] at hr
      have uR := row_of_carried hr
      clear hr hr2 hcur hs1 hb1 hlen1
      have hBW : Below w.heap.size w u2 := ub
      have hPo : Own u2 w.heap.size (some ⟨w.heap.size, 0, none⟩) np fx := .inr ⟨_, rfl, Nat.le_refl _, uR⟩
      have hSo : Own u2 w.heap.size none 0 fs := .inl ⟨rfl, rfl⟩
      go_wp2_with (first | (go_at_call 10; refine (zzBytes_yes _ _ _ _ _ _ _ _ _ _ _ _ _ _ _ HL.out).mono ?_; rintro e wx ⟨rfl, rfl⟩))
      refine (H11.out u2 none hBW hSo).mono ?_
      rintro e w5 ⟨wo, rfl, hWo, hb5⟩
      have hB5 := hBW.trans (hb5.mono hBW.size)
      have hS5 := own_grown hSo (grown_of_below hb5 none)
      have hP5 := own_grown hPo (grown_of_below hb5 none)
      go_wp2_with fail
      refine (clone_any ao n c f w5 Hn.out H0.out (hs.below hB5)).mono ?_
      rintro e w6 ⟨oo, rfl, hOo, hb6⟩
      have hB6 := hB5.trans (hb6.mono hB5.size)
      have hS6 := own_grown hS5 (grown_of_below hb6 none)
      have hP6 := own_grown hP5 (grown_of_below hb6 none)
      have hW6 := own_grown hWo (grown_of_below hb6 none)
      have nS := own_ne hS5 hOo
      have nW := own_ne hWo hOo
      have nP := own_ne hP5 hOo
      have hOm := own_mono hOo hB5.size
      go_wp2_with fail
      refine (H12.out w6 (some ⟨w.heap.size, 0, none⟩) none oo hB6 hS6 hOm nS).mono ?_
      rintro e w7 ⟨rfl, hO7, hg7⟩
      have hW7 := own_apart (C := u2.heap.size) hW6 hg7 nW (Nat.le_refl _)
      have hP7 := own_apart (C := w.heap.size) hP6 hg7 nP (Nat.le_refl _)
      have hB7 := own_below_grown hOm hB6 hg7
      go_wp2_with fail
      refine (answer_any hf w.heap.size oo wo (some ⟨w.heap.size, 0, none⟩) n np G fx stride w7 Hn.out hP7 (own_src hO7) (own_src hW7)).mono ?_
      rintro e w8 ⟨rfl, q, rfl⟩
      go_wp2_with fail
      go_ret
      exact ⟨rfl, below_drewN hB7 _⟩
    · go_enter Tryd.func4, Tryd.ntmps4
      go_wp2_with (first | (go_at_call 10; refine (zzBytes_yes _ _ _ _ _ _ _ _ _ _ _ _ _ _ _ HL.out).mono ?_; rintro e wx ⟨rfl, rfl⟩) | (at_make; refine wpList_make_full _ rfl _ _ 22 rfl w.heap.size 5 i5 (.int .u8 0) 1 Tryd.underlying22 hi hz0 hz1 _ _ _ _ np rfl rfl rfl rfl (by rw [hz2]; have := Hp.out; omega) (by have := Hp.out; unfold maxLen; omega) (Nat.le_refl _) ?_))
      intro u1 ho1 hg1
      obtain ⟨cur, hcur, hlen1⟩ := made_cells ho1
      have hb1 : Below w.heap.size w u1 := (Below.refl _ _).grown hg1 (Nat.le_refl _) (by simp)
      have hs1 := hX.below hb1
      clear ho1 hg1
      go_wp2_with (first | (refine wpList_copy_splice rfl _ _ 22 22 rfl 5 Tryd.underlying22 size5 _ _ _ _ _ _ rfl rfl w.heap.size 0 cur 5 hcur (carried np fx) (by rw [carried_len]; exact (Nat.min_self np).symm) (fun hp => ⟨rfl, src_cells hs1 (by rw [carried_len] at hp; exact hp)⟩) (by rw [carried_len]; omega) (carried_one np fx) w.heap.size w hb1 (Nat.le_refl _) ?_))
      intro u2 hr2 ub
      have hr := hr2.out
      rw [splice_all hlen1] at hr
      have uR := row_of_carried hr
      clear hr hr2 hcur hs1 hb1 hlen1
      have hY2 := hY.below ub
      go_wp2_with (first | (go_at_call 10; refine (zzBytes_yes _ _ _ _ _ _ _ _ _ _ _ _ _ _ _ HL.out).mono ?_; rintro e wx ⟨rfl, rfl⟩) | (at_make; refine wpList_make_full _ rfl _ _ 22 rfl u2.heap.size 5 i5 (.int .u8 0) 1 Tryd.underlying22 hi hz0 hz1 _ _ _ _ m rfl rfl rfl rfl (by rw [hz2]; have := Hm.out; omega) (by have := Hm.out; unfold maxLen; omega) (Nat.le_refl _) ?_))
      intro v1 ho1 hg1
      obtain ⟨cur, hcur, hlen1⟩ := made_cells ho1
      have hb1 : Below u2.heap.size u2 v1 := (Below.refl _ _).grown hg1 (Nat.le_refl _) (by simp)
      have hs1 := hY2.below hb1
      clear ho1 hg1
      go_wp2_with (first | (refine wpList_copy_splice rfl _ _ 22 22 rfl 5 Tryd.underlying22 size5 _ _ _ _ _ _ rfl rfl u2.heap.size 0 cur 5 hcur (carried m fs) (by rw [carried_len]; exact (Nat.min_self m).symm) (fun hp => ⟨rfl, src_cells hs1 (by rw [carried_len] at hp; exact hp)⟩) (by rw [carried_len]; omega) (carried_one m fs) u2.heap.size u2 hb1 (Nat.le_refl _) ?_))
      intro v2 hr2 vb
      have hr := hr2.out
      rw [splice_all hlen1] at hr
      have vR := row_of_carried hr
      clear hr hr2 hcur hs1 hb1 hlen1
      have hBW : Below w.heap.size w v2 := (ub.trans (vb.mono ub.size))
      have hPo : Own v2 w.heap.size (some ⟨w.heap.size, 0, none⟩) np fx := own_grown (.inr ⟨_, rfl, Nat.le_refl _, uR⟩) (grown_of_below vb none)
      have hSo : Own v2 w.heap.size (some ⟨u2.heap.size, 0, none⟩) m fs := .inr ⟨_, rfl, ub.size, vR⟩
      go_wp2_with (first | (go_at_call 10; refine (zzBytes_yes _ _ _ _ _ _ _ _ _ _ _ _ _ _ _ HL.out).mono ?_; rintro e wx ⟨rfl, rfl⟩))
      refine (H11.out v2 (some ⟨u2.heap.size, 0, none⟩) hBW hSo).mono ?_
      rintro e w5 ⟨wo, rfl, hWo, hb5⟩
      have hB5 := hBW.trans (hb5.mono hBW.size)
      have hS5 := own_grown hSo (grown_of_below hb5 none)
      have hP5 := own_grown hPo (grown_of_below hb5 none)
      go_wp2_with fail
      refine (clone_any ao n c f w5 Hn.out H0.out (hs.below hB5)).mono ?_
      rintro e w6 ⟨oo, rfl, hOo, hb6⟩
      have hB6 := hB5.trans (hb6.mono hB5.size)
      have hS6 := own_grown hS5 (grown_of_below hb6 none)
      have hP6 := own_grown hP5 (grown_of_below hb6 none)
      have hW6 := own_grown hWo (grown_of_below hb6 none)
      have nS := own_ne hS5 hOo
      have nW := own_ne hWo hOo
      have nP := own_ne hP5 hOo
      have hOm := own_mono hOo hB5.size
      go_wp2_with fail
      refine (H12.out w6 (some ⟨w.heap.size, 0, none⟩) (some ⟨u2.heap.size, 0, none⟩) oo hB6 hS6 hOm nS).mono ?_
      rintro e w7 ⟨rfl, hO7, hg7⟩
      have hW7 := own_apart (C := v2.heap.size) hW6 hg7 nW (Nat.le_refl _)
      have hP7 := own_apart (C := w.heap.size) hP6 hg7 nP (Nat.le_refl _)
      have hB7 := own_below_grown hOm hB6 hg7
      go_wp2_with fail
      refine (answer_any hf w.heap.size oo wo (some ⟨w.heap.size, 0, none⟩) n np G fx stride w7 Hn.out hP7 (own_src hO7) (own_src hW7)).mono ?_
      rintro e w8 ⟨rfl, q, rfl⟩
      go_wp2_with fail
      go_ret
      exact ⟨rfl, below_drewN hB7 _⟩

end Go.Proofs.Qxb6613510aDoor
