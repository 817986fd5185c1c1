import Derived.Test.Qxb6613510aDoorFit
import Derived.Test.Qxb6613510aDoorReadR
import Derived.Test.Qxb6613510aDoorReadN
import Derived.Test.Qxb6613510aDoorReadNo
import Derived.Test.Qxb6613510aDoorReadNoN
import Derived.Test.Qxb6613510aDoorZz
namespace Go.Proofs.Qxb6613510aDoor
open Go.RowKit
set_option linter.unusedVariables false

def z4 : Nat → Int := fun i => if i = 0 then 0 else 3
/-- The package-level map, as it is laid. -/
structure Sampled (w : World) (bm : Nat) : Prop where
  here : w.cell? ⟨0, 0, none⟩ = some (.map (some bm))
  s0 : Samples w bm 0 1 z0
  s2 : Samples w bm 2 3 id3
  s4 : Samples w bm 4 2 z4
  s6 : Samples w bm 6 4 id3
  other : ∀ ct : Int, 0 ≤ ct → ct ≤ 255 → ct ≠ 0 → ct ≠ 2 → ct ≠ 4 → ct ≠ 6 → Look w bm ct (.slice none 0 0)

theorem Look.up {w w' : World} {bm : Nat} {ct : Int} {v : Value} (h : Look w bm ct v) (hb : Below w.heap.size w w') : Look w' bm ct v :=
  fun w2 h2 => h w2 (hb.trans (h2.mono hb.size))
theorem Samples.up {w w' : World} {bm : Nat} {ct : Int} {L : Nat} {zs : Nat → Int} (h : Samples w bm ct L zs) (hb : Below w.heap.size w w') : Samples w' bm ct L zs := by
  obtain ⟨sb, so, c, hl, hc⟩ := h
  exact ⟨sb, so, c, hl.up hb, fun i hi => cell_up hb (hc i hi)⟩
theorem Sampled.up {w w' : World} {bm : Nat} (h : Sampled w bm) (hb : Below w.heap.size w w') : Sampled w' bm :=
  ⟨cell_up hb h.here, h.s0.up hb, h.s2.up hb, h.s4.up hb, h.s6.up hb, fun ct a b c d e f => (h.other ct a b c d e f).up hb⟩

theorem rgbaGo (pao so oo : Option Addr) (np m n B bm : Nat) (stride width height depth ct : Int) (w : World) (L : Nat) (zs : Nat → Int) (G : Nat → Int)
    (hm : w.cell? ⟨0, 0, none⟩ = some (.map (some bm))) (hS : Samples w bm ct L zs) (h0 : 0 < L) (h4 : L ≤ 4) (hz : ∀ i, i < L → 0 ≤ zs i ∧ zs i ≤ 2) (hd0 : 1 ≤ depth) (hd8 : depth ≤ 8) (h6 : (ct == 6) = false)
    (hP : Plan w width height depth ct L zs oo so n m B G) :
    Calls Tryd.prog 12 #[.slice pao np np, .int .i64 stride, .int .i64 width, .int .i64 height, .int .u8 depth, .int .u8 ct, .slice oo n n, .slice so m m] w fun e w' => e = .returned (.tuple #[.slice pao np np, .int .i64 stride, .bool true]) ∧ Own w' B oo n G ∧ w.grownBy w' (blk oo) := by
  obtain ⟨Q, h22, hQ⟩ := hP
  refine (zzRgba pao so oo np m n stride width height depth ct w Q (fun w1 w' => Own w' B oo n G ∧ w1.grownBy w' (blk oo)) ?_ (fun w1 F hb hF => hQ w1 F hb hF)).mono ?_
  · intro w1 I hb hp hs
    obtain ⟨sb, sf, c, hl, hc⟩ := hS.up hb
    refine readRgbaFill I pao np stride width height depth ct bm w1 (.slice (some ⟨sb, sf, none⟩) L c) L (fun wx g => ∀ i, i < L → wx.cell? ⟨g, i, none⟩ = some (.int .i64 (zs i))) Q hp hs (cell_up hb hm) (fun a b g hab hk i hi => cell_up hab (hk i hi)) hd0 hd8 h6 hl ?_ ?_ ?_
    · intro w2 hb2
      exact offs_keep sb sf L c zs w2 h0 h4 (fun i hi => by have := hz i hi; omega) (fun i hi => cell_up hb2 (hc i hi))
    · intro w2 hb2
      exact cont_no _ _ _ _ (has3_no sb sf L c zs w2 h4 (fun i hi => by rw [beq_eq_false_iff_ne]; have := hz i hi; omega) (fun i hi => cell_up hb2 (hc i hi)))
    · intro w2 g cp hb2 hg hk
      exact h22 w2 g cp (hb.trans (hb2.mono hb.size)) (Nat.le_trans hb.size hg) hk
  · rintro e w' ⟨he, w1, hb, ho, hg⟩
    exact ⟨he, ho, grown_after hb hg⟩

theorem nrgbaGo (pao so oo : Option Addr) (np m n B bm : Nat) (stride width height depth ct : Int) (w : World) (L : Nat) (zs : Nat → Int) (G : Nat → Int)
    (hm : w.cell? ⟨0, 0, none⟩ = some (.map (some bm))) (hS : Samples w bm ct L zs) (h0 : 0 < L) (h4 : L ≤ 4) (hz : ∀ i, i < L → 0 ≤ zs i ∧ zs i ≤ 2) (hd0 : 1 ≤ depth) (hd8 : depth ≤ 8) (h6 : (ct == 6) = false)
    (hP : Plan w width height depth ct L zs oo so n m B G) :
    Calls Tryd.prog 8 #[.slice pao np np, .int .i64 stride, .int .i64 width, .int .i64 height, .int .u8 depth, .int .u8 ct, .slice oo n n, .slice so m m] w fun e w' => e = .returned (.tuple #[.slice pao np np, .int .i64 stride, .bool true]) ∧ Own w' B oo n G ∧ w.grownBy w' (blk oo) := by
  obtain ⟨Q, h22, hQ⟩ := hP
  refine (zzNrgba pao so oo np m n stride width height depth ct w Q (fun w1 w' => Own w' B oo n G ∧ w1.grownBy w' (blk oo)) ?_ (fun w1 F hb hF => hQ w1 F hb hF)).mono ?_
  · intro w1 I hb hp hs
    obtain ⟨sb, sf, c, hl, hc⟩ := hS.up hb
    refine readNrgbaFill I pao np stride width height depth ct bm w1 (.slice (some ⟨sb, sf, none⟩) L c) L (fun wx g => ∀ i, i < L → wx.cell? ⟨g, i, none⟩ = some (.int .i64 (zs i))) Q hp hs (cell_up hb hm) (fun a b g hab hk i hi => cell_up hab (hk i hi)) hd0 hd8 h6 hl ?_ ?_ ?_
    · intro w2 hb2
      exact offs_keep sb sf L c zs w2 h0 h4 (fun i hi => by have := hz i hi; omega) (fun i hi => cell_up hb2 (hc i hi))
    · intro w2 hb2
      exact cont_no _ _ _ _ (has3_no sb sf L c zs w2 h4 (fun i hi => by rw [beq_eq_false_iff_ne]; have := hz i hi; omega) (fun i hi => cell_up hb2 (hc i hi)))
    · intro w2 g cp hb2 hg hk
      exact h22 w2 g cp (hb.trans (hb2.mono hb.size)) (Nat.le_trans hb.size hg) hk
  · rintro e w' ⟨he, w1, hb, ho, hg⟩
    exact ⟨he, ho, grown_after hb hg⟩

/-- Whatever the colour type: what the map holds, and what the two walks over it do. -/
theorem anyCt {w : World} {bm : Nat} (hM : Sampled w bm) (ct : Int) (hc0 : 0 ≤ ct) (hc1 : ct ≤ 255) : ∃ lv, Look w bm ct lv ∧
    (∀ (w1 : World) (N : Nat), N ≤ 32 → Below w.heap.size w w1 → Calls Tryd.prog 20 #[lv, .int .i64 N] w1 fun e w' => ∃ ao l cp, e = .returned (.slice ao l cp) ∧ Below w1.heap.size w1 w') ∧
    (∀ w1, Below w.heap.size w w1 → Calls Tryd.prog 21 #[lv, .int .i64 3] w1 fun e w' => ∃ b, e = .returned (.bool b) ∧ w1 = w') := by
  have key : ∀ L zs, Samples w bm ct L zs → L ≤ 4 → (∀ i, i < L → 0 ≤ zs i ∧ zs i ≤ 3) → ((∀ i, i < L → zs i ≠ 3) ∨ ∃ k, L = k + 1 ∧ zs k = 3 ∧ ∀ i, i < k → zs i ≠ 3) → ∃ lv, Look w bm ct lv ∧
    (∀ (w1 : World) (N : Nat), N ≤ 32 → Below w.heap.size w w1 → Calls Tryd.prog 20 #[lv, .int .i64 N] w1 fun e w' => ∃ ao l cp, e = .returned (.slice ao l cp) ∧ Below w1.heap.size w1 w') ∧
    (∀ w1, Below w.heap.size w w1 → Calls Tryd.prog 21 #[lv, .int .i64 3] w1 fun e w' => ∃ b, e = .returned (.bool b) ∧ w1 = w') := by
    rintro L zs ⟨sb, so, c, hl, hc⟩ hL hz h3
    refine ⟨_, hl, fun w1 N hN hb => offs_any sb so L c zs N w1 hN hL hz (fun i hi => cell_up hb (hc i hi)), fun w1 hb => ?_⟩
    rcases h3 with h3 | ⟨k, rfl, hk, h3⟩
    · exact (cont_no _ _ _ _ (has3_no sb so L c zs w1 hL (fun i hi => by rw [beq_eq_false_iff_ne]; exact fun e => h3 i hi e.symm) (fun i hi => cell_up hb (hc i hi)))).mono fun e w' ⟨he, hw⟩ => ⟨false, he, hw⟩
    · exact (cont_yes _ _ _ k _ (has3_yes sb so k c zs w1 (by omega) (fun i hi => by rw [beq_eq_false_iff_ne]; exact fun e => h3 i hi e.symm) hk (fun i hi => cell_up hb (hc i hi)))).mono fun e w' ⟨he, hw⟩ => ⟨true, he, hw⟩
  by_cases e0 : ct = 0
  · subst e0; exact key 1 z0 hM.s0 (by omega) (fun i hi => by unfold z0; omega) (.inl fun i hi => by unfold z0; omega)
  by_cases e2 : ct = 2
  · subst e2; exact key 3 id3 hM.s2 (by omega) (fun i hi => by unfold id3; omega) (.inl fun i hi => by unfold id3; omega)
  by_cases e4 : ct = 4
  · subst e4; exact key 2 z4 hM.s4 (by omega) (fun i hi => by unfold z4; split <;> omega) (.inr ⟨1, rfl, rfl, fun i hi => by unfold z4; split <;> omega⟩)
  by_cases e6 : ct = 6
  · subst e6; exact key 4 id3 hM.s6 (by omega) (fun i hi => by unfold id3; omega) (.inr ⟨3, rfl, rfl, fun i hi => by unfold id3; omega⟩)
  · exact ⟨_, hM.other ct hc0 hc1 e0 e2 e4 e6, fun w1 N _ hb => (offs_zero none 0 N w1).mono fun e w' ⟨he, hw⟩ => ⟨none, 0, 0, he, by rw [← hw]; exact Below.refl _ _⟩, fun w1 hb => (cont_no _ _ _ _ (has3_zero none 0 w1)).mono fun e w' ⟨he, hw⟩ => ⟨false, he, hw⟩⟩

theorem rgbaNoN (pao so oo : Option Addr) (np m n bm : Nat) (stride width height depth ct : Int) (w : World) (hM : Sampled w bm) (hc0 : 0 ≤ ct) (hc1 : ct ≤ 255) (hd0 : 0 ≤ depth) (hd1 : depth ≤ 255) (hd : depth = 0 ∨ 8 < depth) :
    Calls Tryd.prog 12 #[.slice pao np np, .int .i64 stride, .int .i64 width, .int .i64 height, .int .u8 depth, .int .u8 ct, .slice oo n n, .slice so m m] w fun e w' => e = .returned (.tuple #[.slice none 0 0, .int .i64 0, .bool false]) ∧ Below w.heap.size w w' := by
  refine zzRgbaNo pao so oo np m n stride width height depth ct w fun w1 I hb => ?_
  obtain ⟨lv, hl, h20, h21⟩ := anyCt (hM.up hb) ct hc0 hc1
  exact readRgbaNoN I width height depth ct bm w1 lv (cell_up hb hM.here) hd0 hd1 hd hl h20 h21

theorem nrgbaNoN (pao so oo : Option Addr) (np m n bm : Nat) (stride width height depth ct : Int) (w : World) (hM : Sampled w bm) (hc0 : 0 ≤ ct) (hc1 : ct ≤ 255) (hd0 : 0 ≤ depth) (hd1 : depth ≤ 255) (hd : depth = 0 ∨ 8 < depth) :
    Calls Tryd.prog 8 #[.slice pao np np, .int .i64 stride, .int .i64 width, .int .i64 height, .int .u8 depth, .int .u8 ct, .slice oo n n, .slice so m m] w fun e w' => e = .returned (.tuple #[.slice none 0 0, .int .i64 0, .bool false]) ∧ Below w.heap.size w w' := by
  refine zzNrgbaNo pao so oo np m n stride width height depth ct w fun w1 I hb => ?_
  obtain ⟨lv, hl, h20, h21⟩ := anyCt (hM.up hb) ct hc0 hc1
  exact readNrgbaNoN I width height depth ct bm w1 lv (cell_up hb hM.here) hd0 hd1 hd hl h20 h21

theorem rgbaNoKept (pao so oo : Option Addr) (np m n bm : Nat) (stride width height depth ct : Int) (w : World) (hM : Sampled w bm) (hc0 : 0 ≤ ct) (hc1 : ct ≤ 255) (hd0 : 1 ≤ depth) (hd8 : depth ≤ 8) (c0 : ct ≠ 0) (c2 : ct ≠ 2) (c4 : ct ≠ 4) (c6 : ct ≠ 6) :
    Calls Tryd.prog 12 #[.slice pao np np, .int .i64 stride, .int .i64 width, .int .i64 height, .int .u8 depth, .int .u8 ct, .slice oo n n, .slice so m m] w fun e w' => e = .returned (.tuple #[.slice none 0 0, .int .i64 0, .bool false]) ∧ Below w.heap.size w w' := by
  refine zzRgbaNo pao so oo np m n stride width height depth ct w fun w1 I hb => ?_
  exact readRgbaNoKept I width height depth ct bm w1 (cell_up hb hM.here) hd0 hd8 (by rw [beq_eq_false_iff_ne]; exact c6) ((hM.up hb).other ct hc0 hc1 c0 c2 c4 c6)

theorem rgbaNoAlpha (pao so oo : Option Addr) (np m n bm : Nat) (stride width height : Int) (w : World) (hM : Sampled w bm) :
    Calls Tryd.prog 12 #[.slice pao np np, .int .i64 stride, .int .i64 width, .int .i64 height, .int .u8 8, .int .u8 4, .slice oo n n, .slice so m m] w fun e w' => e = .returned (.tuple #[.slice none 0 0, .int .i64 0, .bool false]) ∧ Below w.heap.size w w' := by
  refine zzRgbaNo pao so oo np m n stride width height 8 4 w fun w1 I hb => ?_
  obtain ⟨sb, sf, c, hl, hc⟩ := (hM.up hb).s4
  refine readRgbaNoAlpha I width height bm w1 _ (cell_up hb hM.here) hl (fun w2 N hN hb2 => offs_any sb sf 2 c z4 N w2 hN (by omega) (fun i hi => by unfold z4; split <;> omega) (fun i hi => cell_up hb2 (hc i hi))) (fun w2 hb2 => ?_)
  exact cont_yes _ _ _ 1 _ (has3_yes sb sf 1 c z4 w2 (by omega) (fun i hi => by rw [beq_eq_false_iff_ne]; unfold z4; split <;> omega) rfl (fun i hi => cell_up hb2 (hc i hi)))

theorem rgbaUn (B B2 : Nat) (pao so oo : Option Addr) (np m n bm : Nat) (fd fs : Nat → Int) (stride width height : Int) (w : World) (hM : Sampled w bm) (hn : n ≤ 1048576) (hmm : m ≤ 1048576) (hm : n / 4 * 4 ≤ m) (hs : Own w B so m fs) (ho : Own w B2 oo n fd) (hne : blk so = none ∨ blk so ≠ blk oo) (hby : Byts m fs) :
    Calls Tryd.prog 12 #[.slice pao np np, .int .i64 stride, .int .i64 width, .int .i64 height, .int .u8 8, .int .u8 6, .slice oo n n, .slice so m m] w fun e w' => e = .returned (.tuple #[.slice pao np np, .int .i64 stride, .bool true]) ∧ Own w' B2 oo n (specUn n fd fs) ∧ w.grownBy w' (blk oo) := by
  refine (zzRgba pao so oo np m n stride width height 8 6 w (fun _ F => F = .func (.func 23) #[] #[]) (fun w1 w' => Own w' B2 oo n (specUn n fd fs) ∧ w1.grownBy w' (blk oo)) ?_ ?_).mono ?_
  · intro w1 I hb hp hs
    obtain ⟨lv, hl, h20, h21⟩ := anyCt (hM.up hb) 6 (by omega) (by omega)
    exact (readRgbaUn I pao np stride width height bm w1 lv (cell_up hb hM.here) hp hs hl h20 h21).mono fun e w' ⟨he, hb'⟩ => ⟨_, he, rfl, hb'⟩
  · rintro w1 F hb rfl
    exact fitUn B B2 oo so n m fd fs w w1 hn hmm hm hs ho hne hby hb
  · rintro e w' ⟨he, w1, hb, ho', hg⟩
    exact ⟨he, ho', grown_after hb hg⟩
end Go.Proofs.Qxb6613510aDoor
