import Derived.Test.Qxb6613510aDoorLook
import Derived.Deep.RegionWith
namespace Go.Proofs.Qxb6613510aDoor
open Go.RowKit
set_option linter.unusedVariables false

set_option maxRecDepth 100000 in
set_option maxHeartbeats 1000000 in
/-- The reader of an NRGBA image, where it fills. -/
theorem readNrgbaFill (I : Nat) (pao : Option Addr) (np : Nat) (stride width height depth ct : Int) (bm : Nat) (w : World) (lv : Value) (L : Nat) (K : World → Nat → Prop) (Q : World → Value → Prop)
    (hp : w.cell? ⟨I, 0, none⟩ = some (.slice pao np np)) (hs : w.cell? ⟨I, 1, none⟩ = some (.int .i64 stride)) (hm : w.cell? ⟨0, 0, none⟩ = some (.map (some bm)))
    (hK : ∀ w1 w2 g, Below w1.heap.size w1 w2 → K w1 g → K w2 g) (hd0 : 1 ≤ depth) (hd8 : depth ≤ 8) (h6 : (ct == 6) = false) (hl : Look w bm ct lv)
    (h20 : ∀ w1, Below w.heap.size w w1 → Calls Tryd.prog 20 #[lv, .int .i64 1] w1 fun e w' => ∃ g cp, e = .returned (.slice (some ⟨g, 0, none⟩) L cp) ∧ w1.heap.size ≤ g ∧ K w' g ∧ Below w1.heap.size w1 w')
    (h21 : ∀ w1, Below w.heap.size w w1 → Calls Tryd.prog 21 #[lv, .int .i64 3] w1 fun e w' => e = .returned (.bool false) ∧ w1 = w')
    (h22 : ∀ w1 g cp, Below w.heap.size w w1 → w.heap.size ≤ g → K w1 g → Calls Tryd.prog 22 #[.agg #[.int .i64 width, .int .i64 height, .int .u8 depth, .int .u8 ct], .int .i64 4, .slice (some ⟨g, 0, none⟩) L cp] w1 fun e w' => ∃ F, e = .returned F ∧ Q w' F ∧ Below w1.heap.size w1 w') :
    Calls Tryd.prog 17 #[.iface 36 (.pointer (some ⟨I, 0, none⟩)), .agg #[.int .i64 width, .int .i64 height, .int .u8 depth, .int .u8 ct]] w fun e w' => ∃ F, e = .returned (.tuple #[.slice pao np np, .int .i64 stride, F]) ∧ Q w' F ∧ Below w.heap.size w w' := by
  obtain ⟨W, hW, g0, g1, g2, g3, go, hb, hsz⟩ := boxes2 w (.int .i64 width) (.int .i64 height) (.int .u8 depth) (.int .u8 ct)
  have HW : Hid (W = _) := hW
  have H20 : Hid _ := h20
  have H21 : Hid _ := h21
  have H22 : Hid _ := h22
  have H19 : Hid ((depth + 7) / 8 = 1) := (by omega : (depth + 7) / 8 = 1)
  have HD0 : Hid (0 ≤ depth) := (by omega : 0 ≤ depth)
  have HD1 : Hid (depth ≤ 255) := (by omega : depth ≤ 255)
  clear hW h20 h21 h22 hd0 hd8
  go_enter Tryd.func17, Tryd.ntmps17
  go_wp2_with (first | (go_at_call 19; refine (sampleBytes_any _ _ HD0.out HD1.out).mono ?_; rintro e wx ⟨rfl, rfl⟩; rw [H19.out]))
  rw [← HW.out]
  refine (one_any _ 1 _ (by omega) go).mono ?_
  rintro e w1 ⟨ao, al, ac, rfl, hb1⟩
  have hbw1 := hb.trans (hb1.mono hsz)
  have m1 := cell_up hbw1 hm
  have t1 := cell_up hb1 g3
  have l1 := hl w1 hbw1
  go_wp2_with fail
  refine (H20.out w1 hbw1).mono ?_
  rintro e w2 ⟨kg, kc, rfl, hkg, hk, hb2⟩
  have hs1 := hb1.size
  have hB2 := hb1.trans (hb2.mono hs1)
  have hbw2 := hb.trans (hB2.mono hsz)
  clear m1 t1 l1
  have m1 := cell_up hbw2 hm
  have t1 := cell_up hB2 g3
  have l1 := hl w2 hbw2
  go_wp2_with fail
  refine (H21.out w2 hbw2).mono ?_
  rintro e wx ⟨rfl, rfl⟩
  clear m1 l1
  have a1 := ta36_58 ⟨I, 0, none⟩
  have a2 := ta36_61 ⟨I, 0, none⟩
  have a3 := ta36_63 ⟨I, 0, none⟩
  have a4 := ta36_36 ⟨I, 0, none⟩
  have a7 := Go.run_neq_slice_nil_any (P := Tryd.prog) w2 50 3 (some ⟨kg, 0, none⟩) L kc 0 0 Tryd.underlying50
  go_wp2_with fail
  have p2 := cell_up hbw2 hp
  have s2 := cell_up hbw2 hs
  have k0 := cell_up hB2 g0
  have k1 := cell_up hB2 g1
  have k2 := cell_up hB2 g2
  clear hp hs hm g0 g1 g2 g3 go a1 a2 a3 a4 a7
  have hkg' : w.heap.size ≤ kg := by omega
  have HB2 : Hid (Below w.heap.size w w2.drew) := hbw2.drew
  have HK : Hid (K w2.drew kg) := hK _ _ _ ((Below.refl w2.heap.size w2).drew) hk
  have P2 : Hid (w2.drew.cell? ⟨I, 0, none⟩ = _) := p2
  have S2 : Hid (w2.drew.cell? ⟨I, 1, none⟩ = _) := s2
  have HBx : Hid _ := hbw2
  clear hk hK
  clear hbw2 hB2 hb2 hbw1 hb1 hb
  go_region_with (go_at_call 22; refine (H22.out w2.drew kg kc HB2.out hkg' HK.out).mono ?_; rintro e w3 ⟨F, rfl, hQ, hb3⟩; have p3 := cell_up hb3 P2.out; have s3 := cell_up hb3 S2.out; have HQ : Hid (Q w3 F) := hQ; have HB3 : Hid _ := hb3; clear hQ hb3)
  all_goals go_wp2_with fail
  all_goals go_ret3
  all_goals exact ⟨F, rfl, HQ.out, HB2.out.trans (HB3.out.mono HB2.out.size)⟩
end Go.Proofs.Qxb6613510aDoor
