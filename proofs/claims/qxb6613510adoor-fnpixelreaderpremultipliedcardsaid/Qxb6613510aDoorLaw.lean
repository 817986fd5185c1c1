import Derived.Test.Qxb6613510aDoorTopBad
import Derived.Test.Qxb6613510aDoorTopOther
import Derived.Test.Qxb6613510aDoorTopZero
import Derived.Test.Qxb6613510aDoorTopTwo
import Derived.Test.Qxb6613510aDoorWantUn
namespace Go.Proofs.Qxb6613510aDoor
open Go.RowKit
set_option linter.unusedVariables false

theorem reads_no {F : Nat} {w : World} {stride width height depth ct : Int} {np n m : Nat} {f fs : Nat → Int}
    (h : ∀ w1 po so oo, Below w.heap.size w w1 → Calls Tryd.prog F #[.slice po np np, .int .i64 stride, .int .i64 width, .int .i64 height, .int .u8 depth, .int .u8 ct, .slice oo n n, .slice so m m] w1 fun e w' => e = .returned (.tuple #[.slice none 0 0, .int .i64 0, .bool false]) ∧ Below w1.heap.size w1 w') :
    Reads F w false stride width height depth ct np n m f fs f := fun w1 po so oo hb _ ho _ => (h w1 po so oo hb).mono fun e w' ⟨he, hb'⟩ => ⟨he, own_grown ho (grown_of_below hb' _), grown_of_below hb' _⟩

theorem reads12 {w : World} {bm : Nat} (hM : Sampled w bm) {stride width height depth ct : Int} {np n m : Nat} {f fs G : Nat → Int} {L : Nat} {zs : Nat → Int} (hS : Samples w bm ct L zs) (h0 : 0 < L) (h4 : L ≤ 4) (hz : ∀ i, i < L → 0 ≤ zs i ∧ zs i ≤ 2) (hd0 : 1 ≤ depth) (hd8 : depth ≤ 8) (h6 : (ct == 6) = false)
    (hP : ∀ w1 so oo, Below w.heap.size w w1 → Own w1 w.heap.size so m fs → Own w1 w.heap.size oo n f → (blk so = none ∨ blk so ≠ blk oo) → Plan w1 width height depth ct L zs oo so n m w.heap.size G) :
    Reads 12 w true stride width height depth ct np n m f fs G := fun w1 po so oo hb hs ho hne => rgbaGo po so oo np m n w.heap.size bm stride width height depth ct w1 L zs G (hM.up hb).here (hS.up hb) h0 h4 hz hd0 hd8 h6 (hP w1 so oo hb hs ho hne)
theorem reads8 {w : World} {bm : Nat} (hM : Sampled w bm) {stride width height depth ct : Int} {np n m : Nat} {f fs G : Nat → Int} {L : Nat} {zs : Nat → Int} (hS : Samples w bm ct L zs) (h0 : 0 < L) (h4 : L ≤ 4) (hz : ∀ i, i < L → 0 ≤ zs i ∧ zs i ≤ 2) (hd0 : 1 ≤ depth) (hd8 : depth ≤ 8) (h6 : (ct == 6) = false)
    (hP : ∀ w1 so oo, Below w.heap.size w w1 → Own w1 w.heap.size so m fs → Own w1 w.heap.size oo n f → (blk so = none ∨ blk so ≠ blk oo) → Plan w1 width height depth ct L zs oo so n m w.heap.size G) :
    Reads 8 w true stride width height depth ct np n m f fs G := fun w1 po so oo hb hs ho hne => nrgbaGo po so oo np m n w.heap.size bm stride width height depth ct w1 L zs G (hM.up hb).here (hS.up hb) h0 h4 hz hd0 hd8 h6 (hP w1 so oo hb hs ho hne)

theorem law (xo ao yo : Option Addr) (np xc n c m yc : Nat) (fx f fs : Nat → Int) (stride width height depth ct : Int) (w : World) (bm : Nat) (hx : xo = none → np = 0 ∧ xc = 0) (h0 : ao = none → n = 0) (hy : yo = none → m = 0 ∧ yc = 0) (hX : Src w xo np fx) (hs : Src w ao n f) (hY : Src w yo m fs) (hby : Byts m fs) (hM : Sampled w bm) (hd0 : 0 ≤ depth) (hd1 : depth ≤ 255) (hc0 : 0 ≤ ct) (hc1 : ct ≤ 255) :
    Calls Tryd.prog 4 #[.slice xo np xc, .int .i64 stride, .int .i64 width, .int .i64 height, .int .u8 depth, .int .u8 ct, .slice ao n c, .slice yo m yc] w fun e w' => e = .returned (.bool true) ∧ Below w.heap.size w w' := by
  by_cases hlen : np + n + m ≤ 1048576
  rotate_left
  · exact top_long xo ao yo np n m xc c yc stride width height depth ct w (by omega)
  have hn : n ≤ 1048576 := by omega
  have hmm : m ≤ 1048576 := by omega
  by_cases hd : depth = 0 ∨ 8 < depth
  · have hW : Want w false width depth ct ao n c m fs f := fun w1 so hb ho => want_no1 width depth ct ao so n c m m f w1 hn h0 (hs.below hb) hd
    have h12 : Reads 12 w false stride width height depth ct np n m f fs f := reads_no fun w1 po so oo hb => rgbaNoN po so oo np m n bm stride width height depth ct w1 (hM.up hb) hc0 hc1 hd0 hd1 hd
    have h8 : Reads 8 w false stride width height depth ct np n m f fs f := reads_no fun w1 po so oo hb => nrgbaNoN po so oo np m n bm stride width height depth ct w1 (hM.up hb) hc0 hc1 hd0 hd1 hd
    by_cases e0 : ct = 0
    · subst e0; exact top_zero false xo ao yo np xc n c m yc fx f fs f stride width height depth w hlen hx h0 hy hX hs hY hW h12 h8
    by_cases e2 : ct = 2
    · subst e2; exact top_two false xo ao yo np xc n c m yc fx f fs f stride width height depth w hlen hx h0 hy hX hs hY hW h12 h8
    exact top_other false xo ao yo np xc n c m yc fx f fs f stride width height depth ct w hlen hx h0 hy hX hs hY (by rw [beq_eq_false_iff_ne]; exact e0) (by rw [beq_eq_false_iff_ne]; exact e2) hW h12
  have hd1' : 1 ≤ depth := by omega
  have hd8 : depth ≤ 8 := by omega
  have bad : WantBad w width depth ct ao n c m fs → Calls Tryd.prog 4 #[.slice xo np xc, .int .i64 stride, .int .i64 width, .int .i64 height, .int .u8 depth, .int .u8 ct, .slice ao n c, .slice yo m yc] w fun e w' => e = .returned (.bool true) ∧ Below w.heap.size w w' := fun h => top_bad xo ao yo np xc n c m yc fx f fs f stride width height depth ct w hlen hx h0 hy hX hs hY h
  by_cases e8 : (ct = 2 ∨ ct = 4 ∨ ct = 6) ∧ depth ≠ 8
  · exact bad fun w1 so hb ho => want_bad8 width depth ct e8.1 ao so n c m m f w1 hn h0 (hs.below hb) hd1' hd8 (by rw [beq_eq_false_iff_ne]; exact e8.2)
  by_cases e0 : ct = 0
  · subst e0
    by_cases ed : depth = 1 ∨ depth = 2 ∨ depth = 4 ∨ depth = 8
    rotate_left
    · exact bad fun w1 so hb ho => want_bad0 width depth ao so n c m m f w1 hn h0 (hs.below hb) hd1' hd8 (by rw [beq_eq_false_iff_ne]; omega) (by rw [beq_eq_false_iff_ne]; omega) (by rw [beq_eq_false_iff_ne]; omega) (by rw [beq_eq_false_iff_ne]; omega)
    by_cases hw : width < 0 ∨ (m : Int) / 4 < width
    · exact bad fun w1 so hb ho => want_pickBad width depth 0 ao so n c m m f w1 hn hmm h0 (hs.below hb) (.inr ⟨rfl, ed⟩) hw
    obtain ⟨wd, rfl⟩ : ∃ wd : Nat, width = (wd : Int) := ⟨width.toNat, by omega⟩
    have h1 : wd * 4 ≤ m := by omega
    rcases ed with rfl | rfl | rfl | rfl
    · by_cases h2 : n < (wd * 1 + 7) / 8
      · exact bad fun w1 so hb ho => want_badd1 w.heap.size wd ao so n c m f w1 hn hmm h0 (hs.below hb) h1 h2
      · exact top_zero true xo ao yo np xc n c m yc fx f fs (packRow 2 8 ((wd * 1 + 7) / 8) f fs wd) stride wd height 1 w hlen hx h0 hy hX hs hY
          (fun w1 so hb ho => want_okd1 w.heap.size wd ao so n c m f fs w1 hn hmm h0 (hs.below hb) ho h1 (by omega) hby)
          (reads12 hM hM.s0 (by omega) (by omega) (fun i hi => by unfold z0; omega) (by omega) (by omega) rfl fun w1 so oo hb hso ho hne => planP1 w.heap.size w.heap.size wd height oo so n m f fs w1 hn hmm h1 (by omega) hso ho hne hby)
          (reads8 hM hM.s0 (by omega) (by omega) (fun i hi => by unfold z0; omega) (by omega) (by omega) rfl fun w1 so oo hb hso ho hne => planP1 w.heap.size w.heap.size wd height oo so n m f fs w1 hn hmm h1 (by omega) hso ho hne hby)
    · by_cases h2 : n < (wd * 2 + 7) / 8
      · exact bad fun w1 so hb ho => want_badd2 w.heap.size wd ao so n c m f w1 hn hmm h0 (hs.below hb) h1 h2
      · exact top_zero true xo ao yo np xc n c m yc fx f fs (packRow 4 4 ((wd * 2 + 7) / 8) f fs wd) stride wd height 2 w hlen hx h0 hy hX hs hY
          (fun w1 so hb ho => want_okd2 w.heap.size wd ao so n c m f fs w1 hn hmm h0 (hs.below hb) ho h1 (by omega) hby)
          (reads12 hM hM.s0 (by omega) (by omega) (fun i hi => by unfold z0; omega) (by omega) (by omega) rfl fun w1 so oo hb hso ho hne => planP2 w.heap.size w.heap.size wd height oo so n m f fs w1 hn hmm h1 (by omega) hso ho hne hby)
          (reads8 hM hM.s0 (by omega) (by omega) (fun i hi => by unfold z0; omega) (by omega) (by omega) rfl fun w1 so oo hb hso ho hne => planP2 w.heap.size w.heap.size wd height oo so n m f fs w1 hn hmm h1 (by omega) hso ho hne hby)
    · by_cases h2 : n < (wd * 4 + 7) / 8
      · exact bad fun w1 so hb ho => want_badd4 w.heap.size wd ao so n c m f w1 hn hmm h0 (hs.below hb) h1 h2
      · exact top_zero true xo ao yo np xc n c m yc fx f fs (packRow 16 2 ((wd * 4 + 7) / 8) f fs wd) stride wd height 4 w hlen hx h0 hy hX hs hY
          (fun w1 so hb ho => want_okd4 w.heap.size wd ao so n c m f fs w1 hn hmm h0 (hs.below hb) ho h1 (by omega) hby)
          (reads12 hM hM.s0 (by omega) (by omega) (fun i hi => by unfold z0; omega) (by omega) (by omega) rfl fun w1 so oo hb hso ho hne => planP4 w.heap.size w.heap.size wd height oo so n m f fs w1 hn hmm h1 (by omega) hso ho hne hby)
          (reads8 hM hM.s0 (by omega) (by omega) (fun i hi => by unfold z0; omega) (by omega) (by omega) rfl fun w1 so oo hb hso ho hne => planP4 w.heap.size w.heap.size wd height oo so n m f fs w1 hn hmm h1 (by omega) hso ho hne hby)
    · by_cases h2 : n < wd * 1
      · exact bad fun w1 so hb ho => want_bad8_1 w.heap.size wd ao so n c m f w1 hn hmm h0 (hs.below hb) h1 h2
      · exact top_zero true xo ao yo np xc n c m yc fx f fs (specPick 1 wd f fs) stride wd height 8 w hlen hx h0 hy hX hs hY
          (fun w1 so hb ho => want_ok8_1 w.heap.size wd ao so n c m f fs w1 hn hmm h0 (hs.below hb) ho h1 (by omega))
          (reads12 hM hM.s0 (by omega) (by omega) (fun i hi => by unfold z0; omega) (by omega) (by omega) rfl fun w1 so oo hb hso ho hne => plan1 w.heap.size w.heap.size wd height oo so n m f fs w1 hn hmm h1 (by omega) hso ho hne hby)
          (reads8 hM hM.s0 (by omega) (by omega) (fun i hi => by unfold z0; omega) (by omega) (by omega) rfl fun w1 so oo hb hso ho hne => plan1 w.heap.size w.heap.size wd height oo so n m f fs w1 hn hmm h1 (by omega) hso ho hne hby)
  by_cases e2 : ct = 2
  · subst e2
    obtain rfl : depth = 8 := by omega
    by_cases hw : width < 0 ∨ (m : Int) / 4 < width
    · exact bad fun w1 so hb ho => want_pickBad width 8 2 ao so n c m m f w1 hn hmm h0 (hs.below hb) (.inl ⟨rfl, rfl⟩) hw
    obtain ⟨wd, rfl⟩ : ∃ wd : Nat, width = (wd : Int) := ⟨width.toNat, by omega⟩
    have h1 : wd * 4 ≤ m := by omega
    by_cases h2 : n < wd * 3
    · exact bad fun w1 so hb ho => want_bad8_3 w.heap.size wd ao so n c m f w1 hn hmm h0 (hs.below hb) h1 h2
    · exact top_two true xo ao yo np xc n c m yc fx f fs (specPick 3 wd f fs) stride wd height 8 w hlen hx h0 hy hX hs hY
          (fun w1 so hb ho => want_ok8_3 w.heap.size wd ao so n c m f fs w1 hn hmm h0 (hs.below hb) ho h1 (by omega))
          (reads12 hM hM.s2 (by omega) (by omega) (fun i hi => by unfold id3; omega) (by omega) (by omega) rfl fun w1 so oo hb hso ho hne => plan3 w.heap.size w.heap.size wd height oo so n m f fs w1 hn hmm h1 (by omega) hso ho hne hby)
          (reads8 hM hM.s2 (by omega) (by omega) (fun i hi => by unfold id3; omega) (by omega) (by omega) rfl fun w1 so oo hb hso ho hne => plan3 w.heap.size w.heap.size wd height oo so n m f fs w1 hn hmm h1 (by omega) hso ho hne hby)
  have k0 : (ct == 0) = false := by rw [beq_eq_false_iff_ne]; exact e0
  have k2 : (ct == 2) = false := by rw [beq_eq_false_iff_ne]; exact e2
  by_cases e4 : ct = 4
  · subst e4
    obtain rfl : depth = 8 := by omega
    exact top_other false xo ao yo np xc n c m yc fx f fs f stride width height 8 4 w hlen hx h0 hy hX hs hY k0 k2
      (fun w1 so hb ho => want_no3 width ao so n c m m f w1 hn h0 (hs.below hb))
      (reads_no fun w1 po so oo hb => rgbaNoAlpha po so oo np m n bm stride width height w1 (hM.up hb))
  by_cases e6 : ct = 6
  · subst e6
    obtain rfl : depth = 8 := by omega
    by_cases hm : m < n / 4 * 4
    · exact bad fun w1 so hb ho => want_unBad width ao so n c m m f w1 hn hmm h0 (hs.below hb) hm
    · exact top_other true xo ao yo np xc n c m yc fx f fs (specUn n f fs) stride width height 8 6 w hlen hx h0 hy hX hs hY k0 k2
        (fun w1 so hb ho => want_un w.heap.size width ao so n c m f fs w1 hn hmm h0 (hs.below hb) ho (by omega) hby)
        (fun w1 po so oo hb hso ho hne => rgbaUn w.heap.size w.heap.size po so oo np m n bm f fs stride width height w1 (hM.up hb) hn hmm (by omega) hso ho hne hby)
  · exact top_other false xo ao yo np xc n c m yc fx f fs f stride width height depth ct w hlen hx h0 hy hX hs hY k0 k2
      (fun w1 so hb ho => want_no2 width depth ct ao so n c m m f w1 hn h0 (hs.below hb) hd1' hd8 (by simpa using e0) (by simpa using e2) (by simpa using e4) (by simpa using e6))
      (reads_no fun w1 po so oo hb => rgbaNoKept po so oo np m n bm stride width height depth ct w1 (hM.up hb) hc0 hc1 hd1' hd8 e0 e2 e4 e6)
end Go.Proofs.Qxb6613510aDoor
