import Derived.Test.Qxb6613510aDoorFill3
import Derived.Test.Qxb6613510aDoorLook
namespace Go.Proofs.Qxb6613510aDoor
open Go.RowKit
set_option linter.unusedVariables false

theorem grown_of_below {w w' : World} (h : Below w.heap.size w w') (r : Option Nat) : w.grownBy w' r := ⟨h.os, h.tape, h.output, h.size, fun k hk _ => h.block k hk⟩
theorem grown_after {w w1 w' : World} {r : Option Nat} (h : Below w.heap.size w w1) (k : w1.grownBy w' r) : w.grownBy w' r :=
  ⟨k.os.trans h.os, k.tape.trans h.tape, k.output.trans h.output, Nat.le_trans h.size k.size, fun i hi hne => (k.block i (Nat.lt_of_lt_of_le hi h.size) hne).trans (h.block i hi)⟩

/-- The function value fills the row as said. -/
def FillsAs (oo so : Option Addr) (n m B : Nat) (G : Nat → Int) (w1 : World) (F : Value) : Prop :=
  ∃ k caps, F = .func (.func k) #[] caps ∧ (k = 23 ∨ k = 30 ∨ k = 33 ∨ k = 34) ∧ Calls Tryd.prog k (#[.slice oo n n, .slice so m m] ++ caps) w1 fun e w' => e = .returned (.tuple #[]) ∧ Own w' B oo n G ∧ w1.grownBy w' (blk oo)

theorem own_nil {w : World} {B : Nat} {ao : Option Addr} {n : Nat} {f : Nat → Int} (h : Own w B ao n f) : ao = none → n = 0 := by
  rcases h with ⟨_, h⟩ | ⟨G, h1, _⟩
  · exact fun _ => h
  · intro e; rw [h1] at e; cases e

theorem fitUn (B B2 : Nat) (oo so : Option Addr) (n m : Nat) (fd fs : Nat → Int) (w w1 : World) (hn : n ≤ 1048576) (hmm : m ≤ 1048576) (hm : n / 4 * 4 ≤ m) (hs : Own w B so m fs) (ho : Own w B2 oo n fd) (hne : blk so = none ∨ blk so ≠ blk oo) (hby : Byts m fs) (hb : Below w.heap.size w w1) :
    FillsAs oo so n m B2 (specUn n fd fs) w1 (.func (.func 23) #[] #[]) :=
  ⟨23, #[], rfl, .inl rfl, un_own B B2 so oo n m fd fs w1 hn hmm hm (own_grown hs (grown_of_below hb _)) (own_grown ho (grown_of_below hb _)) hne hby⟩

theorem fit3 (B B2 width : Nat) (oo so : Option Addr) (n m : Nat) (fd fs : Nat → Int) (w w1 : World) (F : Value) (hn : n ≤ 1048576) (hmm : m ≤ 1048576) (h1 : width * 4 ≤ m) (h2 : width * 3 ≤ n) (hs : Own w B so m fs) (ho : Own w B2 oo n fd) (hne : blk so = none ∨ blk so ≠ blk oo) (hby : Byts m fs) (hb : Below w.heap.size w w1) (hF : IsPick3 w1 w.heap.size width F) :
    FillsAs oo so n m B2 (specPick 3 width fd fs) w1 F := by
  obtain ⟨Wb, rfl, hB, hc⟩ := hF
  have hs1 := own_grown hs (grown_of_below hb _)
  have ho1 := own_grown ho (grown_of_below hb _)
  refine ⟨30, _, rfl, by simp, ?_⟩
  rcases Nat.eq_zero_or_pos width with rfl | hp
  · exact (fill3_zero oo so n m Wb w1 (own_nil ho) (own_nil hs) hc).mono fun e w' ⟨he, hg⟩ => ⟨he, own_congr (own_grown ho1 hg) (fun i _ => by simp [specPick]), grown_any hg _⟩
  · rcases hs with ⟨_, h⟩ | ⟨S, rfl, hSB, hS⟩
    · omega
    rcases ho with ⟨_, h⟩ | ⟨E, rfl, hEB, hE⟩
    · omega
    have hne' : S ≠ E := by
      rcases hne with h | h
      · simp [blk] at h
      · simpa [blk] using h
    have hlt := hE.lt
    have hS1 : w1.rowIs S 5 m (byteV fs) := by
      rcases hs1 with ⟨h, _⟩ | ⟨S', h, _, h'⟩
      · cases h
      · cases h; exact h'
    have hE1 : w1.rowIs E 5 n (byteV fd) := by
      rcases ho1 with ⟨h, _⟩ | ⟨S', h, _, h'⟩
      · cases h
      · cases h; exact h'
    exact (fill3_many E S Wb n m width fd fs w1 hn hmm hp h1 h2 hne' (by omega) hE1 hS1 hby hc).mono fun e w' ⟨he, hr, hg⟩ => ⟨he, .inr ⟨E, rfl, hEB, hr⟩, hg⟩

theorem fit1 (B B2 width : Nat) (oo so : Option Addr) (n m : Nat) (fd fs : Nat → Int) (w w1 : World) (F : Value) (hn : n ≤ 1048576) (hmm : m ≤ 1048576) (h1 : width * 4 ≤ m) (h2 : width * 1 ≤ n) (hs : Own w B so m fs) (ho : Own w B2 oo n fd) (hne : blk so = none ∨ blk so ≠ blk oo) (hby : Byts m fs) (hb : Below w.heap.size w w1) (hF : IsPick1 w1 w.heap.size width F) :
    FillsAs oo so n m B2 (specPick 1 width fd fs) w1 F := by
  obtain ⟨Wb, Zb, Ob, og, oc, rfl, b1, b2, b3, b4, c1, c2, c3, c4⟩ := hF
  have hs1 := own_grown hs (grown_of_below hb _)
  have ho1 := own_grown ho (grown_of_below hb _)
  refine ⟨33, _, rfl, by simp, ?_⟩
  rcases Nat.eq_zero_or_pos width with rfl | hp
  · exact (fill1_zero oo so n m n m Wb Zb Ob w1 c1).mono fun e w' ⟨he, hg⟩ => ⟨he, by rw [← hg]; exact own_congr ho1 (fun i _ => by simp [specPick]), by rw [← hg]; exact grown_same _ _⟩
  · rcases hs with ⟨_, h⟩ | ⟨S, rfl, hSB, hS⟩
    · omega
    rcases ho with ⟨_, h⟩ | ⟨E, rfl, hEB, hE⟩
    · omega
    have hne' : S ≠ E := by
      rcases hne with h | h
      · simp [blk] at h
      · simpa [blk] using h
    have hlt := hE.lt
    have hS1 : w1.rowIs S 5 m (byteV fs) := by
      rcases hs1 with ⟨h, _⟩ | ⟨S', h, _, h'⟩
      · cases h
      · cases h; exact h'
    have hE1 : w1.rowIs E 5 n (byteV fd) := by
      rcases ho1 with ⟨h, _⟩ | ⟨S', h, _, h'⟩
      · cases h
      · cases h; exact h'
    exact (fill1_many E S Wb Zb Ob og oc n m width fd fs w1 hn hmm h1 (by omega) hne' (by omega) (by omega) (by omega) (by omega) hE1 hS1 c1 c2 c3 c4).mono fun e w' ⟨he, hr, hg⟩ => ⟨he, .inr ⟨E, rfl, hEB, hr⟩, hg⟩

theorem fitP1 (B B2 width : Nat) (oo so : Option Addr) (n m : Nat) (fd fs : Nat → Int) (w w1 : World) (F : Value) (hn : n ≤ 1048576) (hmm : m ≤ 1048576) (h1 : width * 4 ≤ m) (h2 : (width * 1 + 7) / 8 ≤ n) (hs : Own w B so m fs) (ho : Own w B2 oo n fd) (hne : blk so = none ∨ blk so ≠ blk oo) (hby : Byts m fs) (hb : Below w.heap.size w w1) (hF : IsPacker w1 w.heap.size 1 2 8 width F) :
    FillsAs oo so n m B2 (packRow 2 8 ((width * 1 + 7) / 8) fd fs width) w1 F := by
  obtain ⟨Wb, Zb, Db, Tb, Pb, rfl, b1, b2, b3, b4, b5, c1, c2, c3, c4, c5⟩ := hF
  have hs1 := own_grown hs (grown_of_below hb _)
  have ho1 := own_grown ho (grown_of_below hb _)
  refine ⟨34, _, rfl, by simp, ?_⟩
  rcases Nat.eq_zero_or_pos width with rfl | hp
  · exact (packFillZero1 oo so n m n m Wb Zb Db Tb Pb w1 c1 c2).mono fun e w' ⟨he, hg⟩ => ⟨he, by rw [← hg]; exact own_congr ho1 (fun i _ => by simp [packRow]), by rw [← hg]; exact grown_same _ _⟩
  · rcases hs with ⟨_, h⟩ | ⟨S, rfl, hSB, hS⟩
    · omega
    rcases ho with ⟨_, h⟩ | ⟨E, rfl, hEB, hE⟩
    · omega
    have hne' : S ≠ E := by
      rcases hne with h | h
      · simp [blk] at h
      · simpa [blk] using h
    have hlt := hE.lt
    have hS1 : w1.rowIs S 5 m (byteV fs) := by
      rcases hs1 with ⟨h, _⟩ | ⟨S', h, _, h'⟩
      · cases h
      · cases h; exact h'
    have hE1 : w1.rowIs E 5 n (byteV fd) := by
      rcases ho1 with ⟨h, _⟩ | ⟨S', h, _, h'⟩
      · cases h
      · cases h; exact h'
    exact (packFill1 E S Wb Zb Db Tb Pb n m width fd fs w1 hn hmm h1 h2 hne' (by omega) (by omega) (by omega) (by omega) (by omega) hE1 hS1 hby c1 c2 c3 c4 c5).mono fun e w' ⟨he, hr, hg⟩ => ⟨he, .inr ⟨E, rfl, hEB, hr⟩, hg⟩

theorem fitP2 (B B2 width : Nat) (oo so : Option Addr) (n m : Nat) (fd fs : Nat → Int) (w w1 : World) (F : Value) (hn : n ≤ 1048576) (hmm : m ≤ 1048576) (h1 : width * 4 ≤ m) (h2 : (width * 2 + 7) / 8 ≤ n) (hs : Own w B so m fs) (ho : Own w B2 oo n fd) (hne : blk so = none ∨ blk so ≠ blk oo) (hby : Byts m fs) (hb : Below w.heap.size w w1) (hF : IsPacker w1 w.heap.size 2 4 4 width F) :
    FillsAs oo so n m B2 (packRow 4 4 ((width * 2 + 7) / 8) fd fs width) w1 F := by
  obtain ⟨Wb, Zb, Db, Tb, Pb, rfl, b1, b2, b3, b4, b5, c1, c2, c3, c4, c5⟩ := hF
  have hs1 := own_grown hs (grown_of_below hb _)
  have ho1 := own_grown ho (grown_of_below hb _)
  refine ⟨34, _, rfl, by simp, ?_⟩
  rcases Nat.eq_zero_or_pos width with rfl | hp
  · exact (packFillZero2 oo so n m n m Wb Zb Db Tb Pb w1 c1 c2).mono fun e w' ⟨he, hg⟩ => ⟨he, by rw [← hg]; exact own_congr ho1 (fun i _ => by simp [packRow]), by rw [← hg]; exact grown_same _ _⟩
  · rcases hs with ⟨_, h⟩ | ⟨S, rfl, hSB, hS⟩
    · omega
    rcases ho with ⟨_, h⟩ | ⟨E, rfl, hEB, hE⟩
    · omega
    have hne' : S ≠ E := by
      rcases hne with h | h
      · simp [blk] at h
      · simpa [blk] using h
    have hlt := hE.lt
    have hS1 : w1.rowIs S 5 m (byteV fs) := by
      rcases hs1 with ⟨h, _⟩ | ⟨S', h, _, h'⟩
      · cases h
      · cases h; exact h'
    have hE1 : w1.rowIs E 5 n (byteV fd) := by
      rcases ho1 with ⟨h, _⟩ | ⟨S', h, _, h'⟩
      · cases h
      · cases h; exact h'
    exact (packFill2 E S Wb Zb Db Tb Pb n m width fd fs w1 hn hmm h1 h2 hne' (by omega) (by omega) (by omega) (by omega) (by omega) hE1 hS1 hby c1 c2 c3 c4 c5).mono fun e w' ⟨he, hr, hg⟩ => ⟨he, .inr ⟨E, rfl, hEB, hr⟩, hg⟩

theorem fitP4 (B B2 width : Nat) (oo so : Option Addr) (n m : Nat) (fd fs : Nat → Int) (w w1 : World) (F : Value) (hn : n ≤ 1048576) (hmm : m ≤ 1048576) (h1 : width * 4 ≤ m) (h2 : (width * 4 + 7) / 8 ≤ n) (hs : Own w B so m fs) (ho : Own w B2 oo n fd) (hne : blk so = none ∨ blk so ≠ blk oo) (hby : Byts m fs) (hb : Below w.heap.size w w1) (hF : IsPacker w1 w.heap.size 4 16 2 width F) :
    FillsAs oo so n m B2 (packRow 16 2 ((width * 4 + 7) / 8) fd fs width) w1 F := by
  obtain ⟨Wb, Zb, Db, Tb, Pb, rfl, b1, b2, b3, b4, b5, c1, c2, c3, c4, c5⟩ := hF
  have hs1 := own_grown hs (grown_of_below hb _)
  have ho1 := own_grown ho (grown_of_below hb _)
  refine ⟨34, _, rfl, by simp, ?_⟩
  rcases Nat.eq_zero_or_pos width with rfl | hp
  · exact (packFillZero4 oo so n m n m Wb Zb Db Tb Pb w1 c1 c2).mono fun e w' ⟨he, hg⟩ => ⟨he, by rw [← hg]; exact own_congr ho1 (fun i _ => by simp [packRow]), by rw [← hg]; exact grown_same _ _⟩
  · rcases hs with ⟨_, h⟩ | ⟨S, rfl, hSB, hS⟩
    · omega
    rcases ho with ⟨_, h⟩ | ⟨E, rfl, hEB, hE⟩
    · omega
    have hne' : S ≠ E := by
      rcases hne with h | h
      · simp [blk] at h
      · simpa [blk] using h
    have hlt := hE.lt
    have hS1 : w1.rowIs S 5 m (byteV fs) := by
      rcases hs1 with ⟨h, _⟩ | ⟨S', h, _, h'⟩
      · cases h
      · cases h; exact h'
    have hE1 : w1.rowIs E 5 n (byteV fd) := by
      rcases ho1 with ⟨h, _⟩ | ⟨S', h, _, h'⟩
      · cases h
      · cases h; exact h'
    exact (packFill4 E S Wb Zb Db Tb Pb n m width fd fs w1 hn hmm h1 h2 hne' (by omega) (by omega) (by omega) (by omega) (by omega) hE1 hS1 hby c1 c2 c3 c4 c5).mono fun e w' ⟨he, hr, hg⟩ => ⟨he, .inr ⟨E, rfl, hEB, hr⟩, hg⟩

/-- What is made and what it fills: the plan of a header. -/
def Plan (w : World) (width height depth ct : Int) (L : Nat) (zs : Nat → Int) (oo so : Option Addr) (n m B : Nat) (G : Nat → Int) : Prop :=
  ∃ Q : World → Value → Prop,
    (∀ w1 g cp, Below w.heap.size w w1 → w.heap.size ≤ g → (∀ i, i < L → w1.cell? ⟨g, i, none⟩ = some (.int .i64 (zs i))) → Calls Tryd.prog 22 #[.agg #[.int .i64 width, .int .i64 height, .int .u8 depth, .int .u8 ct], .int .i64 4, .slice (some ⟨g, 0, none⟩) L cp] w1 fun e w' => ∃ F, e = .returned F ∧ Q w' F ∧ Below w1.heap.size w1 w') ∧
    ∀ w1 F, Below w.heap.size w w1 → Q w1 F → FillsAs oo so n m B G w1 F

theorem plan3 (B B2 width : Nat) (height : Int) (oo so : Option Addr) (n m : Nat) (fd fs : Nat → Int) (w : World) (hn : n ≤ 1048576) (hmm : m ≤ 1048576) (h1 : width * 4 ≤ m) (h2 : width * 3 ≤ n) (hs : Own w B so m fs) (ho : Own w B2 oo n fd) (hne : blk so = none ∨ blk so ≠ blk oo) (hby : Byts m fs) :
    Plan w width height 8 2 3 id3 oo so n m B2 (specPick 3 width fd fs) :=
  ⟨fun w' F => IsPick3 w' w.heap.size width F, fun w1 g cp hb hg hk => (rowFill3 width height g cp w1 (fun i hi => hk i hi)).mono fun e w' ⟨F, he, hF, hbF⟩ => ⟨F, he, hF.mono hb.size, hbF⟩,
    fun w1 F hb hF => fit3 B B2 width oo so n m fd fs w w1 F hn hmm h1 h2 hs ho hne hby hb hF⟩
def z0 : Nat → Int := fun _ => 0
theorem plan1 (B B2 width : Nat) (height : Int) (oo so : Option Addr) (n m : Nat) (fd fs : Nat → Int) (w : World) (hn : n ≤ 1048576) (hmm : m ≤ 1048576) (h1 : width * 4 ≤ m) (h2 : width * 1 ≤ n) (hs : Own w B so m fs) (ho : Own w B2 oo n fd) (hne : blk so = none ∨ blk so ≠ blk oo) (hby : Byts m fs) :
    Plan w width height 8 0 1 z0 oo so n m B2 (specPick 1 width fd fs) :=
  ⟨fun w' F => IsPick1 w' w.heap.size width F, fun w1 g cp hb hg hk => (rowFill1 width height g cp w.heap.size w1 hb.size hg (hk 0 (by omega))).mono fun e w' ⟨F, he, hF, hbF⟩ => ⟨F, he, hF, hbF⟩,
    fun w1 F hb hF => fit1 B B2 width oo so n m fd fs w w1 F hn hmm h1 h2 hs ho hne hby hb hF⟩
theorem planP1 (B B2 width : Nat) (height : Int) (oo so : Option Addr) (n m : Nat) (fd fs : Nat → Int) (w : World) (hn : n ≤ 1048576) (hmm : m ≤ 1048576) (h1 : width * 4 ≤ m) (h2 : (width * 1 + 7) / 8 ≤ n) (hs : Own w B so m fs) (ho : Own w B2 oo n fd) (hne : blk so = none ∨ blk so ≠ blk oo) (hby : Byts m fs) :
    Plan w width height 1 0 1 z0 oo so n m B2 (packRow 2 8 ((width * 1 + 7) / 8) fd fs width) :=
  ⟨fun w' F => IsPacker w' w.heap.size 1 2 8 width F, fun w1 g cp hb hg hk => (rowFillP1 width height (some ⟨g, 0, none⟩) 1 cp w1).mono fun e w' ⟨F, he, hF, hbF⟩ => ⟨F, he, hF.mono hb.size, hbF⟩,
    fun w1 F hb hF => fitP1 B B2 width oo so n m fd fs w w1 F hn hmm h1 h2 hs ho hne hby hb hF⟩
theorem planP2 (B B2 width : Nat) (height : Int) (oo so : Option Addr) (n m : Nat) (fd fs : Nat → Int) (w : World) (hn : n ≤ 1048576) (hmm : m ≤ 1048576) (h1 : width * 4 ≤ m) (h2 : (width * 2 + 7) / 8 ≤ n) (hs : Own w B so m fs) (ho : Own w B2 oo n fd) (hne : blk so = none ∨ blk so ≠ blk oo) (hby : Byts m fs) :
    Plan w width height 2 0 1 z0 oo so n m B2 (packRow 4 4 ((width * 2 + 7) / 8) fd fs width) :=
  ⟨fun w' F => IsPacker w' w.heap.size 2 4 4 width F, fun w1 g cp hb hg hk => (rowFillP2 width height (some ⟨g, 0, none⟩) 1 cp w1).mono fun e w' ⟨F, he, hF, hbF⟩ => ⟨F, he, hF.mono hb.size, hbF⟩,
    fun w1 F hb hF => fitP2 B B2 width oo so n m fd fs w w1 F hn hmm h1 h2 hs ho hne hby hb hF⟩
theorem planP4 (B B2 width : Nat) (height : Int) (oo so : Option Addr) (n m : Nat) (fd fs : Nat → Int) (w : World) (hn : n ≤ 1048576) (hmm : m ≤ 1048576) (h1 : width * 4 ≤ m) (h2 : (width * 4 + 7) / 8 ≤ n) (hs : Own w B so m fs) (ho : Own w B2 oo n fd) (hne : blk so = none ∨ blk so ≠ blk oo) (hby : Byts m fs) :
    Plan w width height 4 0 1 z0 oo so n m B2 (packRow 16 2 ((width * 4 + 7) / 8) fd fs width) :=
  ⟨fun w' F => IsPacker w' w.heap.size 4 16 2 width F, fun w1 g cp hb hg hk => (rowFillP4 width height (some ⟨g, 0, none⟩) 1 cp w1).mono fun e w' ⟨F, he, hF, hbF⟩ => ⟨F, he, hF.mono hb.size, hbF⟩,
    fun w1 F hb hF => fitP4 B B2 width oo so n m fd fs w w1 F hn hmm h1 h2 hs ho hne hby hb hF⟩

/-- The kept offsets, as the call's own row. -/
theorem offs_keep (sb so L c : Nat) (zs : Nat → Int) (w : World) (h0 : 0 < L) (hL : L ≤ 4) (hz : ∀ i, i < L → 0 ≤ zs i ∧ zs i ≤ 3) (hc : ∀ i, i < L → w.cell? ⟨sb, so + i, none⟩ = some (.int .i64 (zs i))) :
    Calls Tryd.prog 20 #[.slice (some ⟨sb, so, none⟩) L c, .int .i64 1] w fun e w' => ∃ g cp, e = .returned (.slice (some ⟨g, 0, none⟩) L cp) ∧ w.heap.size ≤ g ∧ (∀ i, i < L → w'.cell? ⟨g, i, none⟩ = some (.int .i64 (zs i))) ∧ Below w.heap.size w w' := by
  refine (offs_one sb so L c zs w hL hz hc).mono ?_
  rintro e w' ⟨v, he, hv, hb⟩
  have hv' := hv
  rcases hv'.2 with ⟨_, h⟩ | ⟨g, cap, cur, rfl, hg, _⟩
  · omega
  · refine ⟨g, cap, he, hg, fun i hi => ?_, hb⟩
    rw [hv.cellAt i (by omega)]
    simp [hi]
end Go.Proofs.Qxb6613510aDoor
