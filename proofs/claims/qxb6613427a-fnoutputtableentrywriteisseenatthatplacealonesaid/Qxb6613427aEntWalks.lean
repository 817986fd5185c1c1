import Derived.Test.Qxb6613427aDigWalks
import Derived.Deep.OwnRows
import Derived.Deep.MidRow
namespace Go.Proofs.Qxb6613427a
open Go.RowKit

/-! ### An operation by its run's equation, so that the walk does not open it -/
section
variable {P : Program} {w : World} {ops : Array Oper} {rest : List Oper} {o : Oper} {a : Act} {Q : Exit → Act → World → Prop}
theorem wpList_alloc_by (hg : o.guard = none) (t : TypeId) (ho : o.op = .alloc t) (v : Value) (w' : World) (hr : (Instr.alloc t true (.tuple #[])).run P w = .ok v w')
    (h : wpList P ops Q rest (a.put o.dst v) w') : wpList P ops Q (o :: rest) a w :=
  wpList_plain hg fun K hK => by
    unfold Oper.wp execOp
    simp only [ho, Sem.run_bind, hr, Result.andThen_ok, Sem.run_pure, Oper.upon_value]
    exact hK _ _ h
theorem wpList_build_by (hg : o.guard = none) (t : TypeId) (parts : Array (Nat × Operand)) (ho : o.op = .build t parts) (vals : Array (Nat × Value)) (hv : (parts.map fun (i, x) => (i, a.eval x)) = vals) (v : Value) (hr : (Instr.build t vals).run P w = .ok v w)
    (h : wpList P ops Q rest (a.put o.dst v) w) : wpList P ops Q (o :: rest) a w :=
  wpList_plain hg fun K hK => by
    unfold Oper.wp execOp
    simp only [ho, hv, Sem.run_bind, hr, Result.andThen_ok, Sem.run_pure, Oper.upon_value]
    exact hK _ _ h
theorem wpList_buildSlice_by (hg : o.guard = none) (t : TypeId) (n : Nat) (parts : Array (Nat × Operand)) (ho : o.op = .buildSlice t n parts) (vals : Array (Nat × Value)) (hv : (parts.map fun (i, x) => (i, a.eval x)) = vals) (v : Value) (w' : World) (hr : (Instr.buildSlice t n vals).run P w = .ok v w')
    (h : wpList P ops Q rest (a.put o.dst v) w') : wpList P ops Q (o :: rest) a w :=
  wpList_plain hg fun K hK => by
    unfold Oper.wp execOp
    simp only [ho, hv, Sem.run_bind, hr, Result.andThen_ok, Sem.run_pure, Oper.upon_value]
    exact hK _ _ h
end

/-- The cells of an entry: 32 bytes of a transaction's id, its index, the record's number, its fields. -/
def ent (a b : Int) : Array Value := #[.int .u8 0, .int .u8 0, .int .u8 0, .int .u8 0, .int .u8 0, .int .u8 0, .int .u8 0, .int .u8 0, .int .u8 0, .int .u8 0, .int .u8 0, .int .u8 0, .int .u8 0, .int .u8 0, .int .u8 0, .int .u8 0,
  .int .u8 0, .int .u8 0, .int .u8 0, .int .u8 0, .int .u8 0, .int .u8 0, .int .u8 0, .int .u8 0, .int .u8 0, .int .u8 0, .int .u8 0, .int .u8 0, .int .u8 0, .int .u8 0, .int .u8 0, .int .u8 0, .int .u64 a, .int .i64 b, .int .u64 0]
def keyOf (a : Int) : Array Value := #[.int .u8 0, .int .u8 0, .int .u8 0, .int .u8 0, .int .u8 0, .int .u8 0, .int .u8 0, .int .u8 0, .int .u8 0, .int .u8 0, .int .u8 0, .int .u8 0, .int .u8 0, .int .u8 0, .int .u8 0, .int .u8 0,
  .int .u8 0, .int .u8 0, .int .u8 0, .int .u8 0, .int .u8 0, .int .u8 0, .int .u8 0, .int .u8 0, .int .u8 0, .int .u8 0, .int .u8 0, .int .u8 0, .int .u8 0, .int .u8 0, .int .u8 0, .int .u8 0, .int .u64 a]

theorem run_alloc52 (old : Value) (w : World) : (Instr.alloc 52 true old).run Try.prog w = .ok (.pointer (some ⟨w.heap.size, 0, none⟩)) (w.alloc (.cells (ent 0 0) 52)) := by kernel_rfl
theorem run_build48 (a : Int) (w : World) : (Instr.build 48 #[(1, .int .u64 a)]).run Try.prog w = .ok (.agg (keyOf a)) w := by kernel_rfl
theorem run_build52 (a b : Int) (w : World) : (Instr.build 52 #[(0, .agg (keyOf a)), (1, .agg #[.int .i64 b, .int .u64 0])]).run Try.prog w = .ok (.agg (ent a b)) w := by kernel_rfl
theorem run_bs45 (a b : Int) (w : World) : (Instr.buildSlice 45 1 #[(0, .agg (ent a b))]).run Try.prog w = .ok (.slice (some ⟨w.heap.size, 0, none⟩) 1 1) (w.alloc (.cells (ent a b) 52)) := by kernel_rfl

theorem ent_size (a b : Int) : (ent a b).size = 35 := rfl
theorem ent_one (a b : Int) : (ent a b).all (·.oneCell') = true := by simp [ent, Value.oneCell']
theorem size52 : (Try.prog.info? 52).map (·.size) = some 35 := by kernel_rfl

theorem ent_there (w : World) (a b : Int) : (w.alloc (.cells (ent a b) 52)).there w.heap.size 0 35 := by
  intro j hj
  have hb := heap_alloc_new w (.cells (ent a b) 52)
  refine ⟨?_, frozen_of_row _ _ _ _ _ hb⟩
  rw [cell_of_row _ _ _ _ _ _ hb]
  simp [ent_size]; omega

theorem below_setCells {B : Nat} {v : World} (b : Nat) (hb : B ≤ b) : ∀ (vs : List Value) (o : Nat) (w : World), Below B v w → Below B v (w.setCells b o vs)
  | [], _, _, h => h
  | x :: r, o, w, h => below_setCells b hb r (o + 1) (w.setCell ⟨b, o, none⟩ x) (h.setCell hb x)

theorem results_cell_mid {P : Program} {fn : Func} {p : Tmp} {ty : TypeId} (h : fn.results = #[.cell p ty]) (tmps : Array Value) (w : World) (b o : Nat) (cs : List Value) (d : TypeDesc)
    (hp : tmps.getD p undef = .pointer (some ⟨b, o, none⟩)) (hc : w.rangeAt b o cs)
    (hu : P.underlying ty = some d) (hd : d.isRow = true) (hi : (P.info? ty).map (·.size) = some cs.length) :
    (results fn tmps).run P w = .ok (.agg cs.toArray) w := by
  have hp' : tmps[p]?.getD undef = .pointer (some ⟨b, o, none⟩) := by simpa using hp
  simp [results, h, hp', asAddr, run_loadVar_mid w b o ty cs d hc hu hd hi]

theorem entry_any (a b : Int) (w : World) :
    Calls Try.prog 18 #[.int .u64 a, .int .i64 b] w fun e w' => e = .returned (.agg (ent a b)) ∧ Below w.heap.size w w' := by
  go_enter Try.func18, Try.ntmps18
  go_wp2_with (first
    | (refine wpList_alloc_by rfl 52 rfl _ _ (run_alloc52 _ _) ?_)
    | (refine wpList_build_by rfl 48 _ rfl _ (by simp [Act.eval, Act.put]; rfl) _ (run_build48 a _) ?_)
    | (refine wpList_build_by rfl 52 _ rfl _ (by simp [Act.eval, Act.put]; rfl) _ (run_build52 a b _) ?_)
    | (refine wpList_store_mid rfl 52 _ _ rfl w.heap.size 0 (ent a b) rfl rfl (ent_there w 0 0) size52 (ent_one a b) ?_))
  refine bodyPost_ret (v := .agg (ent a b)) ?_ rfl ⟨rfl, below_setCells _ (Nat.le_refl _) _ _ _ ((Below.refl _ _).alloc (Nat.le_refl _) _)⟩
  have hr := World.rangeAt_setCells_same _ _ _ (ent a b).toList (ent_there w 0 0)
  exact results_cell_mid Try.results18 _ _ w.heap.size 0 (ent a b).toList _ rfl hr Try.underlying52 rfl size52
end Go.Proofs.Qxb6613427a
