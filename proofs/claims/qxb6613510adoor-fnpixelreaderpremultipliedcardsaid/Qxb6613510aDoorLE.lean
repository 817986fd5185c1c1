import Derived.Test.Qxb6613510aDoorWantUn
namespace Go.Proofs.Qxb6613510aDoor
open Go.RowKit
set_option linter.unusedVariables false

/-- Two numbers whose bits lie apart. -/
theorem or_apart (a b i : Nat) (hb : b < 2 ^ i) : b ||| (a * 2 ^ i) = b + a * 2 ^ i := by
  rw [Nat.or_comm, Nat.mul_comm, ← Nat.two_pow_add_eq_or_of_lt hb, Nat.add_comm]
theorem u32_or_apart (a b : Int) (i : Nat) (e : Int) (he : e = ((2 ^ i : Nat) : Int)) (h0 : 0 ≤ b) (h1 : b < e) (h2 : 0 ≤ a) (h3 : a * e + b < 4294967296) : bits .or .u32 b (a * e) = b + a * e := by
  obtain ⟨a, rfl⟩ : ∃ k : Nat, a = (k : Int) := ⟨a.toNat, by omega⟩
  obtain ⟨b, rfl⟩ : ∃ k : Nat, b = (k : Int) := ⟨b.toNat, by omega⟩
  subst he
  rw [← Int.natCast_mul] at h3 ⊢
  have hb : b < 2 ^ i := by exact_mod_cast h1
  rw [u32_or_nat b (a * 2 ^ i) (by omega) (by omega), or_apart a b i hb]
  simp
theorem le_sum (b0 b1 b2 b3 : Int) (hb0 : 0 ≤ b0 ∧ b0 ≤ 255) (hb1 : 0 ≤ b1 ∧ b1 ≤ 255) (hb2 : 0 ≤ b2 ∧ b2 ≤ 255) (hb3 : 0 ≤ b3 ∧ b3 ≤ 255) :
    bits .or .u32 (bits .or .u32 (bits .or .u32 b0 (b1 * 256)) (b2 * 65536)) (b3 * 16777216) = b0 + b1 * 256 + b2 * 65536 + b3 * 16777216 := by
  rw [u32_or_apart b1 b0 8 256 rfl (by omega) (by omega) (by omega) (by omega)]
  rw [u32_or_apart b2 _ 16 65536 rfl (by omega) (by omega) (by omega) (by omega)]
  rw [u32_or_apart b3 _ 24 16777216 rfl (by omega) (by omega) (by omega) (by omega)]

theorem le_get (S o l c : Nat) (b0 b1 b2 b3 : Int) (w : World) (hl : 4 ≤ l) (hb0 : 0 ≤ b0 ∧ b0 ≤ 255) (hb1 : 0 ≤ b1 ∧ b1 ≤ 255) (hb2 : 0 ≤ b2 ∧ b2 ≤ 255) (hb3 : 0 ≤ b3 ∧ b3 ≤ 255)
    (c0 : w.cell? ⟨S, o, none⟩ = some (.int .u8 b0)) (c1 : w.cell? ⟨S, o + 1, none⟩ = some (.int .u8 b1)) (c2 : w.cell? ⟨S, o + 2, none⟩ = some (.int .u8 b2)) (c3 : w.cell? ⟨S, o + 3, none⟩ = some (.int .u8 b3)) :
    Calls Tryd.prog 31 #[.agg #[], .slice (some ⟨S, o, none⟩) l c] w fun e w' => e = .returned (.int .u32 (b0 + b1 * 256 + b2 * 65536 + b3 * 16777216)) ∧ w.grownBy w' none := by
  have hsum := le_sum b0 b1 b2 b3 hb0 hb1 hb2 hb3
  have i0 : (0 : Int) < (l : Int) := by omega
  have i1 : (1 : Int) < (l : Int) := by omega
  have i2 : (2 : Int) < (l : Int) := by omega
  have i3 : (3 : Int) < (l : Int) := by omega
  have d0 := Go.Lib.cell?_alloc_some (.cells #[] 79) c0
  have d1 := Go.Lib.cell?_alloc_some (.cells #[] 79) c1
  have d2 := Go.Lib.cell?_alloc_some (.cells #[] 79) c2
  have d3 := Go.Lib.cell?_alloc_some (.cells #[] 79) c3
  obtain ⟨p0, q0⟩ := hb0
  obtain ⟨p1, q1⟩ := hb1
  obtain ⟨p2, q2⟩ := hb2
  obtain ⟨p3, q3⟩ := hb3
  clear c0 c1 c2 c3
  go_enter Tryd.func31, Tryd.ntmps31
  go_wp2_with fail
  go_quiet (fail)
  go_wp2
  go_ret
  refine ⟨?_, ⟨rfl, rfl, rfl, by simp, fun k hk _ => Below.heap_alloc _ _ _ hk⟩⟩
  first | rfl | exact congrArg (fun z => Ending.returned (.int .u32 z)) hsum
theorem le_put (D o l c n : Nat) (f : Nat → Value) (v : Int) (w : World) (hl : 4 ≤ l) (hv0 : 0 ≤ v) (hv1 : v < 4294967296) (hD : w.rowIs D 5 n f) (ho : o + 4 ≤ n) :
    Calls Tryd.prog 32 #[.agg #[], .slice (some ⟨D, o, none⟩) l c, .int .u32 v] w fun e w' => e = .returned (.tuple #[]) ∧ w'.rowIs D 5 n (fun j => if j = o + 3 then .int .u8 (v / 16777216) else if j = o + 2 then .int .u8 (v / 65536 % 256) else if j = o + 1 then .int .u8 (v / 256 % 256) else if j = o then .int .u8 (v % 256) else f j) ∧ w.grownBy w' (some D) := by
  have h1 := hD.alloc (.cells #[] 79)
  have d0 := h1.cell (i := o) (by omega)
  have d1 := h1.cell (i := o + 1) (by omega)
  have d2 := h1.cell (i := o + 2) (by omega)
  have d3 := h1.cell (i := o + 3) (by omega)
  have f0 := h1.frozen o
  have f1 := h1.frozen (o + 1)
  have f2 := h1.frozen (o + 2)
  have f3 := h1.frozen (o + 3)
  go_enter Tryd.func32, Tryd.ntmps32
  go_wp2
  go_end0
  exact ⟨rfl, (((h1.set _ _).set _ _).set _ _).set _ _, grown_set (grown_set (grown_set (grown_set (grown_alloc (grown_refl _ _) _) _ _) _ _) _ _) _ _⟩
/-- Four bytes as one word, the lowest first. -/
def le4 (f : Nat → Int) (o : Nat) : Int := f o + f (o + 1) * 256 + f (o + 2) * 65536 + f (o + 3) * 16777216

theorem le_get_fs (S m : Nat) (fs : Nat → Int) (hb : Byts m fs) (o l c : Nat) (w : World) (hl : 4 ≤ l) (ho : o + 4 ≤ m) (hS : w.rowIs S 5 m (byteV fs)) :
    Calls Tryd.prog 31 #[.agg #[], .slice (some ⟨S, o, none⟩) l c] w fun e w' => e = .returned (.int .u32 (le4 fs o)) ∧ w'.rowIs S 5 m (byteV fs) ∧ w.grownBy w' none :=
  (le_get S o l c _ _ _ _ w hl (hb _ (by omega)) (hb _ (by omega)) (hb _ (by omega)) (hb _ (by omega)) (hS.cell (by omega)) (hS.cell (by omega)) (hS.cell (by omega)) (hS.cell (by omega))).mono fun e w' ⟨he, hg⟩ => ⟨he, hS.of_block (hg.block S hS.lt (by simp)), hg⟩

theorem grown_none_trans {a b c : World} (h : a.grownBy b none) (k : b.grownBy c none) : a.grownBy c none :=
  ⟨k.os.trans h.os, k.tape.trans h.tape, k.output.trans h.output, Nat.le_trans h.size k.size, fun i hi hne => (k.block i (Nat.lt_of_lt_of_le hi h.size) hne).trans (h.block i hi hne)⟩
theorem grown_none_drew {a b : World} (h : a.drew.grownBy b none) : a.grownBy b none := ⟨h.os, h.tape, h.output, h.size, h.block⟩

theorem le_get_from (base : World) (S m : Nat) (fs : Nat → Int) (hb : Byts m fs) (o l c : Nat) (w : World) (hl : 4 ≤ l) (ho : o + 4 ≤ m) (hS : w.rowIs S 5 m (byteV fs)) (hbase : base.grownBy w none) :
    Calls Tryd.prog 31 #[.agg #[], .slice (some ⟨S, o, none⟩) l c] w fun e w' => e = .returned (.int .u32 (le4 fs o)) ∧ w'.rowIs S 5 m (byteV fs) ∧ base.grownBy w' none :=
  (le_get_fs S m fs hb o l c w hl ho hS).mono fun e w' ⟨he, hr, hg⟩ => ⟨he, hr, grown_none_trans hbase hg⟩
theorem le4_bd (m : Nat) (f : Nat → Int) (o : Nat) (hb : Byts m f) (ho : o + 4 ≤ m) : 0 ≤ le4 f o ∧ le4 f o < 4294967296 := by
  have h0 := hb o (by omega)
  have h1 := hb (o + 1) (by omega)
  have h2 := hb (o + 2) (by omega)
  have h3 := hb (o + 3) (by omega)
  unfold le4
  omega

/-! ### Words made of words -/
theorem u32_and_mask (p : Int) (i : Nat) (e k : Int) (he : e = ((2 ^ i - 1 : Nat) : Int)) (hk : k = ((2 ^ i : Nat) : Int)) (hi : i ≤ 32) (h0 : 0 ≤ p) (h1 : p < 4294967296) : bits .and .u32 p e = p % k := by
  obtain ⟨p, rfl⟩ : ∃ x : Nat, p = (x : Int) := ⟨p.toNat, by omega⟩
  have h2 : 2 ^ i ≤ 2 ^ 32 := Nat.pow_le_pow_right (by omega) hi
  have h3 : 0 < 2 ^ i := Nat.two_pow_pos i
  subst he hk
  rw [u32_and_nat p (2 ^ i - 1) (by omega) (by omega), Nat.and_two_pow_sub_one_eq_mod]
  simp
theorem word_a (a0 a1 a2 a3 c0 c1 c2 c3 : Int) (h0 : 0 ≤ a0 ∧ a0 ≤ 255) (h1 : 0 ≤ a1 ∧ a1 ≤ 255) (h2 : 0 ≤ a2 ∧ a2 ≤ 255) (h3 : 0 ≤ a3 ∧ a3 ≤ 255) (k0 : 0 ≤ c0 ∧ c0 ≤ 255) (k1 : 0 ≤ c1 ∧ c1 ≤ 255) (k2 : 0 ≤ c2 ∧ c2 ≤ 255) (k3 : 0 ≤ c3 ∧ c3 ≤ 255) :
    bits .or .u32 (bits .and .u32 (a0 + a1 * 256 + a2 * 65536 + a3 * 16777216) 16777215) ((c0 + c1 * 256 + c2 * 65536 + c3 * 16777216) * 16777216 % 4294967296) = a0 + a1 * 256 + a2 * 65536 + c0 * 16777216 := by
  rw [u32_and_mask _ 24 16777215 16777216 rfl rfl (by omega) (by omega) (by omega)]
  rw [show (a0 + a1 * 256 + a2 * 65536 + a3 * 16777216) % 16777216 = a0 + a1 * 256 + a2 * 65536 by omega, show (c0 + c1 * 256 + c2 * 65536 + c3 * 16777216) * 16777216 % 4294967296 = c0 * 16777216 by omega]
  exact u32_or_apart c0 _ 24 16777216 rfl (by omega) (by omega) (by omega) (by omega)
theorem word_b (a0 a1 a2 a3 c0 c1 c2 c3 : Int) (h0 : 0 ≤ a0 ∧ a0 ≤ 255) (h1 : 0 ≤ a1 ∧ a1 ≤ 255) (h2 : 0 ≤ a2 ∧ a2 ≤ 255) (h3 : 0 ≤ a3 ∧ a3 ≤ 255) (k0 : 0 ≤ c0 ∧ c0 ≤ 255) (k1 : 0 ≤ c1 ∧ c1 ≤ 255) (k2 : 0 ≤ c2 ∧ c2 ≤ 255) (k3 : 0 ≤ c3 ∧ c3 ≤ 255) :
    bits .or .u32 (bits .and .u32 ((a0 + a1 * 256 + a2 * 65536 + a3 * 16777216) / 256) 65535) ((c0 + c1 * 256 + c2 * 65536 + c3 * 16777216) * 65536 % 4294967296) = a1 + a2 * 256 + c0 * 65536 + c1 * 16777216 := by
  rw [u32_and_mask _ 16 65535 65536 rfl rfl (by omega) (by omega) (by omega)]
  rw [show (a0 + a1 * 256 + a2 * 65536 + a3 * 16777216) / 256 % 65536 = a1 + a2 * 256 by omega, show (c0 + c1 * 256 + c2 * 65536 + c3 * 16777216) * 65536 % 4294967296 = (c0 + c1 * 256) * 65536 by omega]
  rw [u32_or_apart (c0 + c1 * 256) _ 16 65536 rfl (by omega) (by omega) (by omega) (by omega)]
  omega
theorem word_c (a0 a1 a2 a3 c0 c1 c2 c3 : Int) (h0 : 0 ≤ a0 ∧ a0 ≤ 255) (h1 : 0 ≤ a1 ∧ a1 ≤ 255) (h2 : 0 ≤ a2 ∧ a2 ≤ 255) (h3 : 0 ≤ a3 ∧ a3 ≤ 255) (k0 : 0 ≤ c0 ∧ c0 ≤ 255) (k1 : 0 ≤ c1 ∧ c1 ≤ 255) (k2 : 0 ≤ c2 ∧ c2 ≤ 255) (k3 : 0 ≤ c3 ∧ c3 ≤ 255) :
    bits .or .u32 (bits .and .u32 ((a0 + a1 * 256 + a2 * 65536 + a3 * 16777216) / 65536) 255) ((c0 + c1 * 256 + c2 * 65536 + c3 * 16777216) * 256 % 4294967296) = a2 + c0 * 256 + c1 * 65536 + c2 * 16777216 := by
  rw [u32_and_mask _ 8 255 256 rfl rfl (by omega) (by omega) (by omega)]
  rw [show (a0 + a1 * 256 + a2 * 65536 + a3 * 16777216) / 65536 % 256 = a2 by omega, show (c0 + c1 * 256 + c2 * 65536 + c3 * 16777216) * 256 % 4294967296 = (c0 + c1 * 256 + c2 * 65536) * 256 by omega]
  rw [u32_or_apart (c0 + c1 * 256 + c2 * 65536) _ 8 256 rfl (by omega) (by omega) (by omega) (by omega)]
  omega

/-- Three bytes of each of four pixels: twelve bytes, as three words. -/
theorem words3 (m width q : Nat) (fd fs : Nat → Int) (hb : Byts m fs) (h1 : width * 4 ≤ m) (hq : 4 * q + 4 ≤ width) :
    bits .or .u32 (bits .and .u32 (le4 fs (16 * q)) 16777215) (le4 fs (16 * q + 4) * 16777216 % 4294967296) = le4 (specPick 3 width fd fs) (12 * q) ∧
    bits .or .u32 (bits .and .u32 (le4 fs (16 * q + 4) / 256) 65535) (le4 fs (16 * q + 8) * 65536 % 4294967296) = le4 (specPick 3 width fd fs) (12 * q + 4) ∧
    bits .or .u32 (bits .and .u32 (le4 fs (16 * q + 8) / 65536) 255) (le4 fs (16 * q + 12) * 256 % 4294967296) = le4 (specPick 3 width fd fs) (12 * q + 8) := by
  have sp : ∀ i, i < 12 → specPick 3 width fd fs (12 * q + i) = fs (16 * q + 4 * (i / 3) + i % 3) := by
    intro i hi
    unfold specPick
    rw [if_pos (by omega)]
    congr 1
    omega
  have s0 := sp 0 (by omega)
  have s1 := sp 1 (by omega)
  have s2 := sp 2 (by omega)
  have s3 := sp 3 (by omega)
  have s4 := sp 4 (by omega)
  have s5 := sp 5 (by omega)
  have s6 := sp 6 (by omega)
  have s7 := sp 7 (by omega)
  have s8 := sp 8 (by omega)
  have s9 := sp 9 (by omega)
  have s10 := sp 10 (by omega)
  have s11 := sp 11 (by omega)
  simp only [Nat.add_zero, Nat.reduceDiv, Nat.reduceMod, Nat.reduceMul, Nat.add_assoc, Nat.reduceAdd] at s0 s1 s2 s3 s4 s5 s6 s7 s8 s9 s10 s11
  unfold le4
  simp only [Nat.add_assoc, Nat.reduceAdd]
  have b : ∀ i, i < 16 → 0 ≤ fs (16 * q + i) ∧ fs (16 * q + i) ≤ 255 := fun i hi => hb _ (by omega)
  refine ⟨?_, ?_, ?_⟩
  · rw [word_a _ _ _ _ _ _ _ _ (hb (16 * q) (by omega)) (b 1 (by omega)) (b 2 (by omega)) (b 3 (by omega)) (b 4 (by omega)) (b 5 (by omega)) (b 6 (by omega)) (b 7 (by omega)), s0, s1, s2, s3]
  · rw [word_b _ _ _ _ _ _ _ _ (b 4 (by omega)) (b 5 (by omega)) (b 6 (by omega)) (b 7 (by omega)) (b 8 (by omega)) (b 9 (by omega)) (b 10 (by omega)) (b 11 (by omega)), s4, s5, s6, s7]
  · rw [word_c _ _ _ _ _ _ _ _ (b 8 (by omega)) (b 9 (by omega)) (b 10 (by omega)) (b 11 (by omega)) (b 12 (by omega)) (b 13 (by omega)) (b 14 (by omega)) (b 15 (by omega)), s8, s9, s10, s11]

/-- Four bytes more. -/
theorem le_put_part (base : World) (D n : Nat) (g fd : Nat → Int) (t l c : Nat) (v : Int) (w : World) (hl : 4 ≤ l) (ht : t + 4 ≤ n) (hgb : ∀ i, t ≤ i → i < t + 4 → 0 ≤ g i ∧ g i ≤ 255) (hv : v = le4 g t) (hD : w.rowIs D 5 n (byteV (part t g fd))) (hbase : base.grownBy w (some D)) :
    Calls Tryd.prog 32 #[.agg #[], .slice (some ⟨D, t, none⟩) l c, .int .u32 v] w fun e w' => e = .returned (.tuple #[]) ∧ w'.rowIs D 5 n (byteV (part (t + 4) g fd)) ∧ base.grownBy w' (some D) := by
  have g0 := hgb t (by omega) (by omega)
  have g1 := hgb (t + 1) (by omega) (by omega)
  have g2 := hgb (t + 2) (by omega) (by omega)
  have g3 := hgb (t + 3) (by omega) (by omega)
  unfold le4 at hv
  refine (le_put D t l c n _ v w hl (by omega) (by omega) hD ht).mono fun e w' ⟨he, hr, hg⟩ => ⟨he, hr.congr fun i _ => ?_, grown_trans hbase hg⟩
  unfold byteV part
  by_cases e3 : i = t + 3
  · subst e3; rw [if_pos rfl, if_pos (by omega), show v / 16777216 = g (t + 3) by omega]
  rw [if_neg e3]
  by_cases e2 : i = t + 2
  · subst e2; rw [if_pos rfl, if_pos (by omega), show v / 65536 % 256 = g (t + 2) by omega]
  rw [if_neg e2]
  by_cases e1 : i = t + 1
  · subst e1; rw [if_pos rfl, if_pos (by omega), show v / 256 % 256 = g (t + 1) by omega]
  rw [if_neg e1]
  by_cases e0 : i = t
  · subst e0; rw [if_pos rfl, if_pos (by omega), show v % 256 = g i by omega]
  rw [if_neg e0]
  by_cases h3 : i < t
  · rw [if_pos h3, if_pos (by omega)]
  · rw [if_neg h3, if_neg (by omega)]

end Go.Proofs.Qxb6613510aDoor
