import Derived.Test.Qxb6613510aDoorLaid
import Derived.Test.Qxb6613510aDoorLaw
import Derived.ChangeOld
import Derived.Below
namespace Go.Proofs.Qxb6613510aDoor
open Go.ChangeShapes Go.WideShapes Go.ChangeAt Go.RowKit Go.WideElems Go.Maps
set_option linter.unusedVariables false

theorem own : ownKnob Tryd.prog.godebug = none := by kernel_rfl
theorem laidOut : laidOutB Tryd.prog = true := by kernel_rfl

/-- The heap that the program's own text leaves meets the condition. -/
theorem door_met (os : Os) (args : Array Value) : laidMetH Tryd.prog Rows.fnPixelReaderPremultipliedRow.laid ((World.doorLaid Tryd.prog 400 os).forCall (fun _ _ => 0) ⟨#[], args, []⟩).memory :=
  laidMetH_of_parts3 (fuel := 8) (laidMet_of_run' 8 (by kernel_rfl) (by kernel_rfl)) (by kernel_rfl) (by kernel_rfl)

theorem var_below {B g : Nat} {W W' : World} {n : String} {cs : Array Value} (h : Below B W W') (hg : Tryd.prog.globalNamed n = some g) (hgB : g < B) (hv : W.var? Tryd.prog n = some cs) : W'.var? Tryd.prog n = some cs := by
  unfold World.var? at hv ⊢
  simp only [hg, Option.bind_some] at hv ⊢
  rw [h.block g hgB]
  exact hv

/-- A slice of bytes that came in. -/
theorem bytesIn {H : Type} {enc : TypeId × Value → H} {W : World} {ao : Option Addr} {n c : Nat} {d : DataW H} {p : List MemPlace} (h : DataW.Trod enc Tryd.prog W 0 (fun _ => true) true 22 (.slice ao n c) d p) :
    ∃ f, (ao = none → n = 0 ∧ c = 0) ∧ Src W ao n f ∧ Byts n f := by
  obtain ⟨fuel, hf⟩ := h
  rcases open_ints Tryd.underlying22 Tryd.underlying5 (by kernel_rfl) hf with ⟨hcs, _⟩ | ⟨x, l, cp, zs, hcs, _, hl, hm, hz, _, hcell, hwz⟩
  · simp [Value.cells] at hcs
    obtain ⟨rfl, rfl, rfl⟩ := hcs
    exact ⟨fun _ => 0, fun _ => ⟨rfl, rfl⟩, .inl rfl, fun i hi => by omega⟩
  · simp [Value.cells] at hcs
    obtain ⟨rfl, rfl, rfl⟩ := hcs
    have hz' : zs.length = c := by simpa using hz
    refine ⟨fun i => zs.getD i 0, (fun e => by cases e), ?_, ?_⟩
    · rcases Nat.eq_zero_or_pos n with h0 | h0
      · exact .inl h0
      · obtain ⟨b, off, rfl, hc⟩ := ints_at hcell (by omega)
        exact .inr ⟨b, off, rfl, fun i hi => hc i (by omega)⟩
    · intro i hi
      have hi' : i < zs.length := by omega
      have hw := hwz (zs.getD i 0) (by rw [List.getD_eq_getElem?_getD, List.getElem?_eq_getElem hi']; exact List.getElem_mem hi')
      exact bounds_u8 hw

set_option maxHeartbeats 1600000 in
set_option maxRecDepth 100000 in
theorem lifted (os : Os) (started : os.Started) (H : Type) (enc : TypeId × Value → H) :
    ReturnsInHanded {} Tryd.checked os 4 .any (fun w args => (Rows.fnPixelReaderPremultipliedSpec.pre enc Tryd.prog Tryd.f4 [] false w args ∧ laidMetH Tryd.prog Rows.fnPixelReaderPremultipliedRow.laid w) ∧ sizedMet enc Tryd.prog Tryd.f4 (OpenSpec.ofChange Rows.fnPixelReaderPremultipliedSpec) false w args)
      (Rows.fnPixelReaderPremultipliedSpec.post enc Tryd.prog Tryd.f4 false true false false) := by
  refine returnsInHanded_of_change_and (C := Tryd.checked) (X := fun w _ => laidMetH Tryd.prog Rows.fnPixelReaderPremultipliedRow.laid w) (fun _ _ _ hh h => h.of_heap hh) own started (by kernel_rfl) Tryd.func4
    (ChangeSpec.witness_shaped (enc := enc) (C := Tryd.checked) (os := os) (X := fun w _ => laidMetH Tryd.prog Rows.fnPixelReaderPremultipliedRow.laid w) false (World.doorLaid Tryd.prog 400 os) #[.slice none 0 0, .int .i64 0, .int .i64 0, .int .i64 0, .int .u8 0, .int .u8 0, .slice none 0 0, .slice none 0 0] 8 rfl (World.shaped_of_RefB (by kernel_rfl) (by kernel_rfl)) (by kernel_rfl) (by kernel_rfl) (by kernel_rfl) (door_met os _)) ?_
  intro W base args ds gs before hval0 hW _ _ hL _
  have hval : ∀ (j : Nat) t v, Tryd.f4.params[j]? = some t → args[j]? = some v → Value.okWide Tryd.prog W .any base t v := hval0
  have hW' := hW
  obtain ⟨p, q, hA0, hV0, rfl, hfz, hnd⟩ := hW
  have hA : DataW.TrodAll enc Tryd.prog W 0 (fun _ => true) true Tryd.f4.params.toList args.toList ds p := hA0
  have hV : DataW.TrodVars enc Tryd.prog W (fun _ => true) [theVar] gs q := hV0
  rw [Tryd.params4] at hA hval
  obtain ⟨v0, vs0, d0, ds0, p0, q0, hargs, rfl, rfl, h0, r0⟩ := trodAll_cons hA
  obtain ⟨v1, vs1, d1, ds1, p1, q1, rfl, rfl, rfl, h1, r1⟩ := trodAll_cons r0
  obtain ⟨v2, vs2, d2, ds2, p2, q2, rfl, rfl, rfl, h2, r2⟩ := trodAll_cons r1
  obtain ⟨v3, vs3, d3, ds3, p3, q3, rfl, rfl, rfl, h3, r3⟩ := trodAll_cons r2
  obtain ⟨v4, vs4, d4, ds4, p4, q4, rfl, rfl, rfl, h4, r4⟩ := trodAll_cons r3
  obtain ⟨v5, vs5, d5, ds5, p5, q5, rfl, rfl, rfl, h5, r5⟩ := trodAll_cons r4
  obtain ⟨v6, vs6, d6, ds6, p6, q6, rfl, rfl, rfl, h6, r6⟩ := trodAll_cons r5
  obtain ⟨v7, vs7, d7, ds7, p7, q7, rfl, rfl, rfl, h7, r7⟩ := trodAll_cons r6
  obtain ⟨rfl, rfl, rfl⟩ := trodAll_nil r7
  obtain rfl : args = #[v0, v1, v2, v3, v4, v5, v6, v7] := by cases args; simp_all
  obtain ⟨g, t, cs, fuel, d, p', rfl, hg, ht, hvar, hd, rfl⟩ := trodVars_one hV
  obtain rfl := Option.some.inj (gS.symm.trans hg)
  obtain rfl := Option.some.inj (tS.symm.trans ht)
  obtain ⟨a0, len0, cap0, rfl⟩ := okWide_slice Tryd.underlying22 (hval 0 22 v0 rfl rfl)
  obtain ⟨a6, len6, cap6, rfl⟩ := okWide_slice Tryd.underlying22 (hval 6 22 v6 rfl rfl)
  obtain ⟨a7, len7, cap7, rfl⟩ := okWide_slice Tryd.underlying22 (hval 7 22 v7 rfl rfl)
  obtain ⟨f0, n0, s0, b0⟩ := bytesIn h0
  obtain ⟨f6, n6, s6, b6⟩ := bytesIn h6
  obtain ⟨f7, n7, s7, b7⟩ := bytesIn h7
  have lt0 : ∀ x ∈ p0, x.block < W.heap.size := by obtain ⟨m, hm⟩ := h0; exact DataW.trod_lt m _ _ _ hm
  have lt6 : ∀ x ∈ p6, x.block < W.heap.size := by obtain ⟨m, hm⟩ := h6; exact DataW.trod_lt m _ _ _ hm
  have lt7 : ∀ x ∈ p7, x.block < W.heap.size := by obtain ⟨m, hm⟩ := h7; exact DataW.trod_lt m _ _ _ hm
  obtain ⟨a1, rfl, rfl, rfl, w1⟩ := open_int Tryd.underlying3 (hval 1 3 v1 rfl rfl) h1
  obtain ⟨a2, rfl, rfl, rfl, w2⟩ := open_int Tryd.underlying3 (hval 2 3 v2 rfl rfl) h2
  obtain ⟨a3, rfl, rfl, rfl, w3⟩ := open_int Tryd.underlying3 (hval 3 3 v3 rfl rfl) h3
  obtain ⟨a4, rfl, rfl, rfl, w4⟩ := open_int Tryd.underlying5 (hval 4 5 v4 rfl rfl) h4
  obtain ⟨a5, rfl, rfl, rfl, w5⟩ := open_int Tryd.underlying5 (hval 5 5 v5 rfl rfl) h5
  obtain ⟨bm, hM⟩ := sampled_of hL
  have h0lt : 0 < W.heap.size := block_lt_of_cell hM.here
  have hltv : ∀ x ∈ p', x.block < W.heap.size := DataW.trod_lt _ _ _ _ hd
  have k4 : 0 ≤ a4 ∧ a4 ≤ 255 := bounds_u8 w4
  have k5 : 0 ≤ a5 ∧ a5 ≤ 255 := bounds_u8 w5
  obtain ⟨r, hcs⟩ : ∃ r, cs.toList = [.map r] := by
    rcases open_map Tryd.underlying56 hd with ⟨hcs, _⟩ | ⟨b, es, clock, m, _, hcs, _⟩
    · exact ⟨_, hcs⟩
    · exact ⟨_, hcs⟩
  have hcs' : cs = #[.map r] := by
    cases cs
    simp_all
  subst hcs'
  clear hA0 hV0 hval0
  refine (law a0 a6 a7 len0 cap0 len6 cap6 len7 cap7 f0 f6 f7 a1 a2 a3 a4 a5 W bm n0 (fun e => (n6 e).1) n7 s0 s6 s7 b7 hM k4.1 k4.2 k5.1 k5.2).mono fun e W' ⟨he, bel⟩ => ?_
  subst he
  obtain ⟨fuel', hd'⟩ := Below.trod laidOut (by kernel_rfl) (of_decide_eq_true (by kernel_rfl)) (v := .map r) (⟨fuel, by simpa [Value.cells] using hd⟩ : DataW.Trod enc Tryd.prog W 0 (fun _ => true) true 56 (.map r) d p') bel hltv
  have hv' := trodVars_mk1 (enc := enc) (spare := fun b => decide (b < W.heap.size)) hg ht (var_below bel hg h0lt hvar) (by simpa [Value.cells] using hd')
  exact ⟨_, rfl, _, _, _, [], _, (MemPlace.row ⟨0, 0, none⟩ (#[.map r] : Array Value).size ++ p'), hW', trodAll_mk1 (shut_bool Tryd.underlying4 _),
    (trodAll_cons_mk (Below.trod laidOut (by kernel_rfl) (of_decide_eq_true (by kernel_rfl)) h0 bel lt0) (trodAll_cons_mk (shut_int Tryd.underlying3 w1) (trodAll_cons_mk (shut_int Tryd.underlying3 w2) (trodAll_cons_mk (shut_int Tryd.underlying3 w3) (trodAll_cons_mk (shut_int Tryd.underlying5 w4) (trodAll_cons_mk (shut_int Tryd.underlying5 w5) (trodAll_cons_mk (Below.trod laidOut (by kernel_rfl) (of_decide_eq_true (by kernel_rfl)) h6 bel lt6) (trodAll_cons_mk (Below.trod laidOut (by kernel_rfl) (of_decide_eq_true (by kernel_rfl)) h7 bel lt7) trodAll_mk0)))))))),
    hv', bel.frame _, fun h => by cases h⟩

theorem row_holds : Rows.FnPixelReaderPremultipliedSaid :=
  OpenClaim.holds_of_wide 4 Tryd.f4 rfl rfl rfl rfl rfl rfl rfl ⟨rfl, rfl, rfl, rfl, rfl⟩ rfl rfl rfl rfl rfl (by kernel_rfl) Tryd.func4 (by kernel_rfl)
    (of_decide_eq_true (by kernel_rfl)) (by unfold Func.isWrapper; first | (rw [if_pos (by decide +kernel)]; kernel_rfl) | (rw [if_neg (by decide +kernel)]; exact ⟨rfl, rfl⟩))
    (fun os started H enc _ => lifted os started H enc)
end Go.Proofs.Qxb6613510aDoor
