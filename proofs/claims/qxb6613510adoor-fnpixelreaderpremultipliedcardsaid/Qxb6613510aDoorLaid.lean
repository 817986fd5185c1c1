import Derived.Test.Qxb6613510aDoorRows
import Derived.Test.Qxb6613510aDoorDone
import Derived.ProofKit
import Derived.LaidMore
import Derived.OpenShut
import Derived.ChangeBears2
import Derived.Maps.OwnSet
import Derived.Stop.Joined
namespace Go.Proofs.Qxb6613510aDoor
open Go.ChangeShapes Go.WideShapes Go.ChangeAt Go.RowKit Go.WideElems Go.Maps
set_option linter.unusedVariables false

def theVar : String := Rows.fnPixelReaderPremultipliedSpec.vars.headD ""
theorem gS : Tryd.prog.globalNamed theVar = some 0 := by kernel_rfl
theorem tS : (Tryd.prog.globals[0]?).map (·.type) = some 56 := by kernel_rfl
theorem law5 : Keyed Tryd.prog 5 := int_keyed Tryd.underlying5
theorem zero50 (w : World) : (zeroValue 50).run Tryd.prog w = .ok (.slice none 0 0) w := by kernel_rfl

/-- A list of numbers, as the map holds it. -/
theorem elemInts {H : Type} {enc : TypeId × Value → H} {W : World} {base : Nat} {sp : Nat → Bool} {held : Bool} {n : Nat} {v : Value} {z : DataW H × List MemPlace} (h : elemAt enc Tryd.prog W base sp held n 50 v = some z) :
    (v = .slice none 0 0 ∧ z.1 = .nil) ∨ ∃ (a : Addr) (len cap : Nat) (zs : List Int), v = .slice (some a) len cap ∧ len ≤ zs.length ∧ z.1 = .slice (lits .i64 (zs.take len)) (lits .i64 (zs.drop len)) ∧ ∀ i, i < zs.length → W.cell? (a.add i) = some (.int .i64 (zs.getD i 0)) := by
  unfold elemAt at h
  split at h
  · rename_i hf
    rcases open_ints Tryd.underlying50 Tryd.underlying3 (by kernel_rfl) h with ⟨hc, hz⟩ | ⟨a, len, cap, zs, hc, _, hl, _, hlen, hz, hcell, _⟩
    · left
      refine ⟨?_, by rw [hz]⟩
      cases v <;> simp [Value.formed, Tryd.underlying50, Value.cells] at hf hc
      obtain ⟨rfl, rfl, rfl⟩ := hc
      rfl
    · right
      refine ⟨a, len, cap, zs, ?_, ?_, by rw [hz], hcell⟩
      · cases v <;> simp [Value.formed, Tryd.underlying50, Value.cells] at hf hc
        obtain ⟨rfl, rfl, rfl⟩ := hc
        rfl
      · rw [hlen]
        split <;> omega
  · cases h

theorem one_of_keys : ∀ (l : List MapEntry) (x y : MapEntry), (l.map (·.key)).Nodup → x ∈ l → y ∈ l → x.key = y.key → x = y := by
  intro l
  induction l with
  | nil => intro x y _ hx; cases hx
  | cons a r ih =>
    intro x y hn hx hy e
    rw [List.map_cons, List.nodup_cons] at hn
    rcases List.mem_cons.1 hx with rfl | hx'
    · rcases List.mem_cons.1 hy with rfl | hy'
      · rfl
      · exact absurd (List.mem_map.2 ⟨y, hy', e.symm⟩) hn.1
    · rcases List.mem_cons.1 hy with rfl | hy'
      · exact absurd (List.mem_map.2 ⟨x, hx', e⟩) hn.1
      · exact ih x y hn.2 hx' hy' e

theorem lits_inj {H : Type} : ∀ (a b : List Int), lits (H := H) .i64 a = lits .i64 b → a = b := by
  intro a
  induction a with
  | nil => intro b h; cases b with | nil => rfl | cons _ _ => simp [lits] at h
  | cons x r ih =>
    intro b h
    cases b with
    | nil => simp [lits] at h
    | cons y s =>
      simp only [lits, List.map_cons, List.cons.injEq, DataW.lit.injEq, Lit.int.injEq, true_and] at h
      rw [h.1, ih s h.2]

theorem sampled_of {W : World} (h : laidMetH Tryd.prog Rows.fnPixelReaderPremultipliedRow.laid W) : ∃ bm, Sampled W bm := by
  rw [MakeChecks.laidMetH_plain _ _ _ (by kernel_rfl)] at h
  obtain ⟨ps, ⟨g0, t0, cs0, f0, p0, q0, hg0, ht0, hv0, hd0, _, _⟩, _, _⟩ := h
  obtain rfl := Option.some.inj (gS.symm.trans hg0)
  obtain rfl := Option.some.inj (tS.symm.trans ht0)
  rcases open_map Tryd.underlying56 hd0 with ⟨_, hx⟩ | ⟨bm, es, clock, m, rfl, hcs, hb, _, F, hx⟩
  · simp [Rows.laid_example_com_predict_then_pack_predict_then_pack_rgbaSamples] at hx
  simp only [Prod.mk.injEq] at hx
  have hcell : W.cell? ⟨0, 0, none⟩ = some (.map (some bm)) := by
    have := World.var?_cell hg0 hv0 0
    rw [Array.eq_one_of_toList hcs] at this
    simpa using this
  have hbm : bm < W.heap.size := lt_of_block hb
  have key : ∀ (ct : Int) (xs : List Int), 0 ≤ ct → ct ≤ 255 → 0 < xs.length → (Rows.laid_example_com_predict_then_pack_predict_then_pack_rgbaSamples (H := Unit)).atKey (.int .u8 ct) .nil = .slice (lits .i64 xs) [] → Samples W bm ct xs.length (fun i => xs.getD i 0) := by
    intro ct xs h0 h1 hpos hk
    have hkey := keyOf_int_mk Tryd.underlying5 (WalkArith.wf_u8 (n := ct) ⟨h0, h1⟩)
    rcases Maps.fit_look false law5 Tryd.underlying56 (zero50 W) hb F hkey with ⟨_, _, hat⟩ | ⟨e0, y, hm0, hk0, hrun, hR, hat, _⟩
    · have := hat .nil
      rw [← hx.1, hk] at this
      cases this
    · have := hat .nil
      rw [← hx.1, hk] at this
      rcases elemInts hR with ⟨_, hz⟩ | ⟨a, len, cap, zs, hv, hl, hz, hc⟩
      · rw [hz] at this; cases this
      · rw [hz] at this
        simp only [DataW.slice.injEq] at this
        have t1 := lits_inj _ _ this.1
        have t2 : len = xs.length := by rw [t1, List.length_take]; omega
        obtain ⟨b, off, rfl, hc'⟩ := ints_at hc (by omega)
        refine ⟨b, off, cap, ?_, ?_⟩
        · intro w' hB
          have hb' : w'.heap[bm]? = some (.map es clock) := by rw [hB.block bm hbm]; exact hb
          rcases Maps.fit_look false law5 Tryd.underlying56 (zero50 w') hb' F hkey with ⟨_, hno, _⟩ | ⟨e1, y1, hm1, hk1, hrun1, _⟩
          · exact absurd hk0 (hno e0 hm0)
          · have ee := one_of_keys es.toList e1 e0 F.stamped.2.2 hm1 hm0 (hk1.trans hk0.symm)
            rw [hrun1, ee, hv, t2]
            rfl
        · intro i hi
          rw [hc' i (by omega)]
          have e3 : zs.getD i 0 = xs.getD i 0 := by
            rw [t1, List.getD_eq_getElem?_getD, List.getD_eq_getElem?_getD, List.getElem?_take_of_lt (by omega)]
          rw [e3]
  refine ⟨bm, hcell, ?_, ?_, ?_, ?_, ?_⟩
  · obtain ⟨sb, so, c, hl, hc⟩ := key 0 [0] (by omega) (by omega) (by simp) rfl
    exact ⟨sb, so, c, hl, fun i hi => by rw [hc i hi]; match i, hi with | 0, _ => rfl⟩
  · obtain ⟨sb, so, c, hl, hc⟩ := key 2 [0, 1, 2] (by omega) (by omega) (by simp) rfl
    exact ⟨sb, so, c, hl, fun i hi => by rw [hc i hi]; match i, hi with | 0, _ => rfl | 1, _ => rfl | 2, _ => rfl⟩
  · obtain ⟨sb, so, c, hl, hc⟩ := key 4 [0, 3] (by omega) (by omega) (by simp) rfl
    exact ⟨sb, so, c, hl, fun i hi => by rw [hc i hi]; match i, hi with | 0, _ => rfl | 1, _ => rfl⟩
  · obtain ⟨sb, so, c, hl, hc⟩ := key 6 [0, 1, 2, 3] (by omega) (by omega) (by simp) rfl
    exact ⟨sb, so, c, hl, fun i hi => by rw [hc i hi]; match i, hi with | 0, _ => rfl | 1, _ => rfl | 2, _ => rfl | 3, _ => rfl⟩
  · intro ct h0 h1 n0 n2 n4 n6 w' hB
    have hb' : w'.heap[bm]? = some (.map es clock) := by rw [hB.block bm hbm]; exact hb
    have hkey := keyOf_int_mk Tryd.underlying5 (WalkArith.wf_u8 (n := ct) ⟨h0, h1⟩)
    rcases Maps.fit_look false law5 Tryd.underlying56 (zero50 w') hb' F hkey with ⟨hrun, _, _⟩ | ⟨e1, y1, hm1, hk1, hrun1, hR, hat, _⟩
    · exact hrun
    · have h3 : (Rows.laid_example_com_predict_then_pack_predict_then_pack_rgbaSamples (H := Unit)).atKey (.int .u8 ct) .nil = .nil := by
        simp [Rows.laid_example_com_predict_then_pack_predict_then_pack_rgbaSamples, DataW.atKey, Lit.sameKey, List.find?, n0.symm, n2.symm, n4.symm, n6.symm]
      have := hat .nil
      rw [← hx.1, h3] at this
      rcases elemInts hR with ⟨hv, _⟩ | ⟨a, len, cap, zs, hv, hl, hz, hc⟩
      · rw [hrun1, hv]; rfl
      · rw [hz] at this; cases this
end Go.Proofs.Qxb6613510aDoor
