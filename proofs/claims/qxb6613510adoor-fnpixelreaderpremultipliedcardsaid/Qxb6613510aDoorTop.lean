import Derived.Test.Qxb6613510aDoorDone
import Derived.BigQuiet
namespace Go.Proofs.Qxb6613510aDoor
open Go.RowKit
set_option linter.unusedVariables false

set_option maxRecDepth 8000 in
theorem zzBytes_yes (a b c : Option Addr) (np n m ca cb cc : Nat) (stride width height depth ct : Int) (w : World) (h : np + n + m ≤ 1048576) :
    Calls Tryd.prog 10 #[.slice a np ca, .int .i64 stride, .int .i64 width, .int .i64 height, .int .u8 depth, .int .u8 ct, .slice b n cb, .slice c m cc] w fun e w' => e = .returned (.bool true) ∧ w = w' := by
  have h1 : ¬ ((1048576 : Int) < (np : Int)) := by omega
  have h2 : ¬ ((1048576 : Int) < (n : Int)) := by omega
  have h3 : ¬ ((1048576 : Int) < (m : Int)) := by omega
  have h4 : ¬ ((1048576 : Int) < (np : Int) + n) := by omega
  have h5 : ¬ ((1048576 : Int) < (np : Int) + n + m) := by omega
  go_enter Tryd.func10, Tryd.ntmps10
  go_wp2
  go_ret
  exact ⟨rfl, rfl⟩
set_option maxRecDepth 8000 in
theorem zzBytes_no (a b c : Option Addr) (np n m ca cb cc : Nat) (stride width height depth ct : Int) (w : World) (h : 1048576 < np + n + m) :
    Calls Tryd.prog 10 #[.slice a np ca, .int .i64 stride, .int .i64 width, .int .i64 height, .int .u8 depth, .int .u8 ct, .slice b n cb, .slice c m cc] w fun e w' => e = .returned (.bool false) ∧ w = w' := by
  by_cases h1 : 1048576 < np
  · clear h
    go_enter Tryd.func10, Tryd.ntmps10
    go_wp2
    go_ret
    exact ⟨rfl, rfl⟩
  by_cases h2 : 1048576 < n
  · clear h
    go_enter Tryd.func10, Tryd.ntmps10
    go_wp2
    go_ret
    exact ⟨rfl, rfl⟩
  by_cases h4 : 1048576 < np + n
  · clear h
    go_enter Tryd.func10, Tryd.ntmps10
    go_wp2
    go_ret
    exact ⟨rfl, rfl⟩
  by_cases h3 : 1048576 < m
  · clear h
    go_enter Tryd.func10, Tryd.ntmps10
    go_wp2
    go_ret
    exact ⟨rfl, rfl⟩
  · go_enter Tryd.func10, Tryd.ntmps10
    go_wp2
    go_ret
    exact ⟨rfl, rfl⟩
/-- Too long: true. -/
theorem top_long (a b c : Option Addr) (np n m ca cb cc : Nat) (stride width height depth ct : Int) (w : World) (h : 1048576 < np + n + m) :
    Calls Tryd.prog 4 #[.slice a np ca, .int .i64 stride, .int .i64 width, .int .i64 height, .int .u8 depth, .int .u8 ct, .slice b n cb, .slice c m cc] w fun e w' => e = .returned (.bool true) ∧ Below w.heap.size w w' := by
  have H : Hid _ := h
  clear h
  go_enter Tryd.func4, Tryd.ntmps4
  go_wp2_with (first | (go_at_call 10; refine (zzBytes_no _ _ _ _ _ _ _ _ _ _ _ _ _ _ _ H.out).mono ?_; rintro e wx ⟨rfl, rfl⟩))
  go_ret
  exact ⟨rfl, Below.refl _ _⟩

def selA (hf : Bool) (po : Option Addr) : Option Addr := if hf then po else none
def selN (hf : Bool) (np : Nat) : Nat := if hf then np else 0
def selI (hf : Bool) (s : Int) : Int := if hf then s else 0
theorem own_src {w : World} {B : Nat} {ao : Option Addr} {n : Nat} {f : Nat → Int} (h : Own w B ao n f) : Src w ao n f := by
  rcases h with ⟨_, h⟩ | ⟨G, h1, _, h2⟩
  · exact .inl h
  · exact .inr ⟨G, 0, h1, fun i hi => by rw [Nat.zero_add]; exact h2.cell hi⟩
theorem own_sel {w : World} {B : Nat} {ao : Option Addr} {n : Nat} {f : Nat → Int} (hf : Bool) (h : Own w B ao n f) : Own w B (selA hf ao) (selN hf n) f := by
  cases hf
  · exact .inl ⟨rfl, rfl⟩
  · exact h
theorem answer_any (hf : Bool) (B : Nat) (out want pix : Option Addr) (n np : Nat) (f fp : Nat → Int) (stride : Int) (w : World) (hn : n ≤ 1048576) (hp : Own w B pix np fp) (ho : Src w out n f) (hw : Src w want n f) :
    Calls Tryd.prog 9 #[.slice (selA hf pix) (selN hf np) (selN hf np), .int .i64 (selI hf stride), .bool hf, .slice out n n, .slice pix np np, .int .i64 stride, .bool hf, .slice want n n] w fun e w' => e = .returned (.bool true) ∧ ∃ q, w' = w.drewN q := by
  cases hf
  · exact answer_no out want pix n np f stride w hn ho hw
  · exact answer_yes B out want pix n np f fp stride w hn hp ho hw

/-- What the wanted row is, and whether there is a filler. -/
def Want (w : World) (hf : Bool) (width depth ct : Int) (ao : Option Addr) (n c m : Nat) (fs G : Nat → Int) : Prop :=
  ∀ w1 so, Below w.heap.size w w1 → Own w1 w.heap.size so m fs → Calls Tryd.prog 11 #[.int .i64 width, .int .u8 depth, .int .u8 ct, .slice ao n c, .slice so m m] w1 fun e w' => ∃ wo, e = .returned (.tuple #[.bool hf, .slice wo n n, .bool true]) ∧ Own w' w1.heap.size wo n G ∧ Below w1.heap.size w1 w'
/-- Out of the law's domain. -/
def WantBad (w : World) (width depth ct : Int) (ao : Option Addr) (n c m : Nat) (fs : Nat → Int) : Prop :=
  ∀ w1 so, Below w.heap.size w w1 → Own w1 w.heap.size so m fs → Calls Tryd.prog 11 #[.int .i64 width, .int .u8 depth, .int .u8 ct, .slice ao n c, .slice so m m] w1 fun e w' => e = .returned (.tuple #[.bool false, .slice none 0 0, .bool false]) ∧ Below w1.heap.size w1 w'
/-- What the reader does. -/
def Reads (F : Nat) (w : World) (hf : Bool) (stride width height depth ct : Int) (np n m : Nat) (f fs G : Nat → Int) : Prop :=
  ∀ w1 po so oo, Below w.heap.size w w1 → Own w1 w.heap.size so m fs → Own w1 w.heap.size oo n f → (blk so = none ∨ blk so ≠ blk oo) → Calls Tryd.prog F #[.slice po np np, .int .i64 stride, .int .i64 width, .int .i64 height, .int .u8 depth, .int .u8 ct, .slice oo n n, .slice so m m] w1 fun e w' => e = .returned (.tuple #[.slice (selA hf po) (selN hf np) (selN hf np), .int .i64 (selI hf stride), .bool hf]) ∧ Own w' w.heap.size oo n G ∧ w1.grownBy w' (blk oo)
end Go.Proofs.Qxb6613510aDoor
