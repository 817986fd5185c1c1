import Derived.Test.Qxb6613510aRows
import Derived.WalkKit
import Derived.WalkSpells
import Derived.WalkLawsBesides
import Derived.Laws.BitsAllLaws
import Derived.Laws.BytesArg
import Derived.Laws.IdiomStrings
import Derived.Deep.QuietTactic
import Derived.BigQuiet
import Derived.WalkSmall
namespace Go.Proofs.Qxb6613510a
open Go.RowKit

def critB (x : Int) : Bool := bits .and .u8 x 32 == 0

/-- A byte and its twin. -/
theorem twin_nat (x : Nat) (h : x < 256) : (x &&& 32 = 0 ∧ x ^^^ 32 = x + 32 ∧ (x ^^^ 32) &&& 32 = 32) ∨ (x &&& 32 = 32 ∧ (x ^^^ 32) + 32 = x ∧ (x ^^^ 32) &&& 32 = 0) := by
  have key : ∀ x : Fin 256, (x.val &&& 32 = 0 ∧ x.val ^^^ 32 = x.val + 32 ∧ (x.val ^^^ 32) &&& 32 = 32) ∨ (x.val &&& 32 = 32 ∧ (x.val ^^^ 32) + 32 = x.val ∧ (x.val ^^^ 32) &&& 32 = 0) := by decide +kernel
  exact key ⟨x, h⟩

theorem critB_nat (x : Nat) (h : x < 256) : critB (x : Int) = (x &&& 32 == 0) := by
  have := u8_and_nat x 32 h (by omega)
  unfold critB
  rw [show (32 : Int) = ((32 : Nat) : Int) from rfl, this, Bool.eq_iff_iff]
  simp only [beq_iff_eq]
  omega

theorem crit_yes (s : ByteArray) (h : 0 < s.size) (w : World) (hx : critB (s[0].toNat : Int) = true) :
    Calls Try.prog 8 #[.string s] w fun e w' => e = .returned (.bool true) ∧ w = w' := by
  unfold critB at hx
  go_enter Try.func8, Try.ntmps8
  go_wp2
  go_ret
  exact ⟨rfl, rfl⟩
theorem crit_no (s : ByteArray) (h : 0 < s.size) (w : World) (hx : critB (s[0].toNat : Int) = false) :
    Calls Try.prog 8 #[.string s] w fun e w' => e = .returned (.bool false) ∧ w = w' := by
  unfold critB at hx
  go_enter Try.func8, Try.ntmps8
  go_wp2
  go_ret
  exact ⟨rfl, rfl⟩

theorem bytes7_yes (s : ByteArray) (w : World) (h : s.size ≤ 1048576) :
    Calls Try.prog 7 #[.string s] w fun e w' => e = .returned (.bool true) ∧ w = w' := by
  go_enter Try.func7, Try.ntmps7
  go_wp2
  go_ret
  exact ⟨rfl, rfl⟩
theorem bytes7_no (s : ByteArray) (w : World) (h : 1048576 < s.size) :
    Calls Try.prog 7 #[.string s] w fun e w' => e = .returned (.bool false) ∧ w = w' := by
  go_enter Try.func7, Try.ntmps7
  go_wp2
  go_ret
  exact ⟨rfl, rfl⟩

theorem twins_out (s : ByteArray) (w : World) (hs : s.size ≤ 9223372036854775807) (h : s.size = 0 ∨ 1048576 < s.size) :
    Calls Try.prog 3 #[.string s] w fun e w' => e = .returned (.bool true) ∧ w = w' := by
  rcases h with h | h
  · have h1 : ((s.size : Int) == 0) = true := by simp [h]
    have h2 : s.size ≤ 1048576 := by omega
    clear h
    go_enter Try.func3, Try.ntmps3
    go_wp2_with (first | (go_at_call 7; refine (bytes7_yes _ _ (by omega)).mono ?_; rintro e wx ⟨rfl, rfl⟩))
    go_ret
    exact ⟨rfl, rfl⟩
  · go_enter Try.func3, Try.ntmps3
    go_wp2_with (first | (go_at_call 7; refine (bytes7_no _ _ (by omega)).mono ?_; rintro e wx ⟨rfl, rfl⟩))
    go_ret
    exact ⟨rfl, rfl⟩

section
variable {P : Program} {w : World} {ops : Array Oper} {rest : List Oper} {o : Oper} {a : Act} {Q : Exit → Act → World → Prop}
/-- '[]byte(s)': a row of its own, s's bytes in it. -/
theorem wpList_bytes_of (hg : o.guard = none) (src dst e : TypeId) (x : Operand) (ho : o.op = .convert src dst x) (s : ByteArray) (hx : a.eval x = .string s)
    (hs : P.underlying src = some .string) (hd : P.underlying dst = some (.slice e)) (he : P.underlying e = some (.int .u8))
    (h : ∀ cap w1, s.size ≤ cap → (∀ j (hj : j < s.size), w1.cell? ⟨w.heap.size, j, none⟩ = some (.int .u8 (s[j].toNat : Int))) → (∀ j, j < s.size → w1.frozen? ⟨w.heap.size, j, none⟩ = false) → Below w.heap.size w w1 →
      wpList P ops Q rest (a.put o.dst (.slice (some ⟨w.heap.size, 0, none⟩) s.size cap)) w1) : wpList P ops Q (o :: rest) a w :=
  wpList_plain hg fun K hK => by
    unfold Oper.wp execOp
    simp only [ho, hx, Sem.run_bind, run_bytes_of_string w src dst e s hs hd he, Result.andThen_ok, Sem.run_pure, Oper.upon_value]
    have hcap := grownCap_ge w s.size 0 e
    have hblk := heap_alloc_new w.drew (.cells (bytesRow s (grownCap w s.size 0 e)) e ((bytesRow s (grownCap w s.size 0 e)).size, (bytesRow s (grownCap w s.size 0 e)).size + 1))
    refine hK _ _ (h _ _ hcap ?_ ?_ ((Below.refl _ _).drew.alloc (Nat.le_refl _) _))
    · intro j hj
      have := cell_of_row _ _ j _ _ _ hblk
      rw [heap_drew] at this
      rw [this]
      unfold bytesRow
      rw [Array.getElem?_append_left (by rw [Array.size_map]; exact hj)]
      rw [Array.getElem?_map, Array.getElem?_eq_getElem hj]
      rfl
    · intro j hj
      unfold World.frozen?
      rw [show (⟨w.heap.size, j, none⟩ : Addr).block = w.drew.heap.size from rfl, hblk]
      have : s.size ≤ (bytesRow s (grownCap w s.size 0 e)).size := by unfold bytesRow; rw [Array.size_append, Array.size_map]; exact Nat.le_add_right _ _
      simp
      omega
/-- A conversion by its run's equation. -/
theorem wpList_convert_by (hg : o.guard = none) (src dst : TypeId) (x : Operand) (ho : o.op = .convert src dst x) (v0 : Value) (hx : a.eval x = v0) (v : Value) (hr : (convert src dst v0).run P w = .ok v w)
    (h : wpList P ops Q rest (a.put o.dst v) w) : wpList P ops Q (o :: rest) a w :=
  wpList_plain hg fun K hK => by
    unfold Oper.wp execOp
    simp only [ho, hx, Sem.run_bind, hr, Result.andThen_ok, Sem.run_pure, Oper.upon_value]
    exact hK _ _ h
end

/-- The bytes of s with the first one turned to y. -/
def turned (s : ByteArray) (y : Int) : List Int := (List.range s.size).map fun j => if j = 0 then y else ((s.data[j]?.getD 0).toNat : Int)

theorem turned_len (s : ByteArray) (y : Int) : (turned s y).length = s.size := by simp [turned]
theorem turned_get (s : ByteArray) (y : Int) (j : Nat) (h : j < s.size) : (turned s y).getD j 0 = if j = 0 then y else (s[j].toNat : Int) := by
  have e : s.data[j]?.getD 0 = s[j] := by rw [Array.getElem?_eq_getElem (by simpa using h)]; rfl
  rw [← e]
  simp [turned, List.getD, h]

theorem turned_str (s : ByteArray) (y : Int) (h : 0 < s.size) (h0 : 0 ≤ y) (h1 : y < 256) : ∃ t : ByteArray, t = strOfNums (turned s y) ∧ ∃ h : 0 < t.size, (t[0].toNat : Int) = y := by
  have hsz : 0 < (strOfNums (turned s y)).size := by rw [strOfNums_size, turned_len]; exact h
  refine ⟨_, rfl, hsz, ?_⟩
  have hl : 0 < (turned s y).length := by rw [turned_len]; exact h
  have e : (strOfNums (turned s y))[0] = UInt8.ofNat ((turned s y)[0]).toNat := by
    show (strOfNums (turned s y)).data[0] = _
    simp [strOfNums]
  rw [e]
  have e2 : (turned s y)[0] = y := by
    have := turned_get s y 0 h
    simpa [List.getD, List.getElem?_eq_getElem hl] using this
  rw [e2]
  simp
  omega

theorem twin_int (x : Nat) (h : x < 256) : ∃ y : Int, y = bits .xor .u8 (x : Int) 32 ∧ 0 ≤ y ∧ y < 256 ∧ ((critB x = true ∧ critB y = false ∧ (x : Int) < y) ∨ (critB x = false ∧ critB y = true ∧ y < (x : Int))) := by
  have e : bits .xor .u8 (x : Int) 32 = ((x ^^^ 32 : Nat) : Int) := u8_xor_nat x 32 h (by omega)
  have hx : x ^^^ 32 < 256 := Nat.xor_lt_two_pow (n := 8) h (by omega)
  refine ⟨_, rfl, by rw [e]; omega, by rw [e]; omega, ?_⟩
  rw [e, critB_nat x h, critB_nat _ hx]
  rcases twin_nat x h with ⟨h1, h2, h3⟩ | ⟨h1, h2, h3⟩
  · left; rw [h1, h3]; exact ⟨rfl, rfl, by omega⟩
  · right; rw [h1, h3]; exact ⟨rfl, rfl, by omega⟩

theorem twins_in (s : ByteArray) (w : World) (h0 : 0 < s.size) (h : s.size ≤ 1048576) :
    Calls Try.prog 3 #[.string s] w fun e w' => e = .returned (.bool true) ∧ Below w.heap.size w w' := by
  have hne : ((s.size : Int) == 0) = false := by rw [beq_eq_false_iff_ne]; omega
  obtain ⟨y, hy, hy0, hy1, hyc⟩ := twin_int s[0].toNat s[0].toNat_lt
  obtain ⟨t, ht, ht0, hty⟩ := turned_str s y h0 hy0 hy1
  go_enter Try.func3, Try.ntmps3
  go_wp2_with (first | (go_at_call 7; refine (bytes7_yes _ _ (by omega)).mono ?_; rintro e wx ⟨rfl, rfl⟩) | (refine wpList_bytes_of rfl 9 23 5 _ rfl s rfl Try.underlying9 Try.underlying23 Try.underlying5 ?_))
  intro cap w1 hcap hcell hfz hb1
  have hc0 := hcell 0 h0
  have hf0 := hfz 0 h0
  have hcv : (convert 23 9 (.slice (some ⟨w.heap.size, 0, none⟩) s.size cap)).run Try.prog (w1.setCell ⟨w.heap.size, 0, none⟩ (.int .u8 y)) = .ok (.string t) (w1.setCell ⟨w.heap.size, 0, none⟩ (.int .u8 y)) := by
    rw [ht]
    refine run_convert_bytes_arg _ 23 5 Try.underlying23 Try.underlying5 w.heap.size 0 s.size cap (turned s y) (turned_len s y) ?_ 9 Try.underlying9
    intro i hi
    rw [turned_get s y i hi, Nat.zero_add]
    by_cases e : i = 0
    · subst e
      rw [World.cell?_setCell_same _ _ _ hc0]
      simp
    · rw [World.cell?_setCell_other _ _ _ _ (by intro e2; simp only [Addr.mk.injEq, and_true] at e2; omega), hcell i hi, if_neg e]
  have hb2 : Below w.heap.size w (w1.setCell ⟨w.heap.size, 0, none⟩ (.int .u8 y)) := hb1.setCell (Nat.le_refl _) _
  rw [hy] at hcv hb2
  clear hcell hfz hb1 ht hcap
  have HY : Hid (y = bits .xor .u8 (s[0].toNat : Int) 32) := hy
  have HT : Hid ((t[0].toNat : Int) = y) := hty
  clear hy hty
  go_wp2_with (first | (refine wpList_convert_by rfl 23 9 _ rfl _ rfl _ hcv ?_))
  obtain ⟨w2, hw2⟩ : ∃ w2, w2 = w1.setCell ⟨w.heap.size, 0, none⟩ (.int .u8 (bits .xor .u8 (s[0].toNat : Int) 32)) := ⟨_, rfl⟩
  rw [← hw2] at hb2 ⊢
  clear hw2 hcv hc0 hf0 HY
  rcases hyc with ⟨c1, c2, c3⟩ | ⟨c1, c2, c3⟩
  · rw [← HT.out] at c2 c3
    have hd : decide (s[0].toNat < t[0].toNat) = true := by simp; omega
    clear c3
    refine (crit_yes s h0 _ c1).mono ?_
    rintro e wx ⟨rfl, rfl⟩
    go_wp2_with fail
    refine (crit_no t ht0 _ c2).mono ?_
    rintro e wx ⟨rfl, rfl⟩
    clear c1 c2
    go_wp2_with fail
    go_quiet (fail)
    go_wp2
    go_ret
    exact ⟨rfl, below_drewN hb2 _⟩
  · rw [← HT.out] at c2 c3
    have hd : decide (s[0].toNat < t[0].toNat) = false := by simp; omega
    clear c3
    refine (crit_no s h0 _ c1).mono ?_
    rintro e wx ⟨rfl, rfl⟩
    go_wp2_with fail
    refine (crit_yes t ht0 _ c2).mono ?_
    rintro e wx ⟨rfl, rfl⟩
    clear c1 c2
    go_wp2_with fail
    go_quiet (fail)
    go_wp2
    go_ret
    exact ⟨rfl, below_drewN hb2 _⟩
end Go.Proofs.Qxb6613510a
