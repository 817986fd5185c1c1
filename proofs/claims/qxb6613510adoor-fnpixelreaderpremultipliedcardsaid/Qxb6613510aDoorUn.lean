import Derived.Test.Qxb6613510aDoorEqual
import Derived.Deep.RegionLaw
import Derived.Lib.SliceRun
namespace Go.Proofs.Qxb6613510aDoor
open Go.RowKit

/-! ### What only one own row has turned -/
theorem grown_refl (w : World) (D : Nat) : w.grownBy w (some D) := ⟨rfl, rfl, rfl, Nat.le_refl _, fun _ _ _ => rfl⟩
theorem grown_trans {a b c : World} {D : Nat} (h : a.grownBy b (some D)) (k : b.grownBy c (some D)) : a.grownBy c (some D) :=
  ⟨k.os.trans h.os, k.tape.trans h.tape, k.output.trans h.output, Nat.le_trans h.size k.size, fun i hi hne => (k.block i (Nat.lt_of_lt_of_le hi h.size) hne).trans (h.block i hi hne)⟩
theorem grown_set {a w : World} {D : Nat} (h : a.grownBy w (some D)) (i : Nat) (v : Value) : a.grownBy (w.setCell ⟨D, i, none⟩ v) (some D) :=
  grown_trans h ⟨rfl, rfl, rfl, by simp [World.setCell], fun k _ hne => heap_setCell_other _ _ _ _ (by intro e; subst e; exact hne rfl)⟩
theorem grown_drewN {a w : World} {D : Nat} (h : a.grownBy w (some D)) (q : Nat) : a.grownBy (w.drewN q) (some D) := grown_trans h ⟨rfl, rfl, rfl, Nat.le_refl _, fun _ _ _ => rfl⟩
theorem grown_cell {a w : World} {D : Nat} (h : a.grownBy w (some D)) {x : Addr} {v : Value} (hx : a.cell? x = some v) (hne : x.block ≠ D) : w.cell? x = some v := h.cell hx (by intro e; exact hne (Option.some.inj e))
theorem grown_row {a w : World} {D G n : Nat} {t : TypeId} {f : Nat → Value} (h : a.grownBy w (some D)) (hr : a.rowIs G t n f) (hne : G ≠ D) : w.rowIs G t n f := hr.of_block (h.block G hr.lt (by intro e; exact hne (Option.some.inj e)))
theorem grown_below {a w : World} {D B : Nat} (h : a.grownBy w (some D)) (hB : B ≤ D) (hs : B ≤ a.heap.size) : Below B a w := (Below.refl _ _).grown h hs (by rintro k ⟨⟩; exact hB)

/-! ### The premultiplied byte -/
def unp (a s : Int) : Int := if a = 0 then 0 else s * 65535 / a / 256 % 256
def specUn (n : Nat) (fd fs : Nat → Int) (i : Nat) : Int := if i < n / 4 * 4 then (if i % 4 = 3 then fs i else unp (fs (i / 4 * 4 + 3)) (fs i)) else fd i
/-- The first t bytes are done. -/
def part (t : Nat) (g fd : Nat → Int) (i : Nat) : Int := if i < t then g i else fd i

theorem unp_zero (s : Int) : unp 0 s = 0 := by simp [unp]
theorem unp_full (s : Int) (h0 : 0 ≤ s) (h1 : s ≤ 255) : unp 255 s = s := by
  unfold unp
  rw [if_neg (by omega)]
  have e : s * 65535 / 255 = s * 257 := by omega
  have e2 : s * 257 / 256 = s := by omega
  rw [e, e2]
  omega

/-! ### Several cells of a row at once -/
theorem row_setCells {b : Nat} {t : TypeId} {n : Nat} : ∀ (vs : List Value) (o : Nat) (w : World) (f : Nat → Value), w.rowIs b t n f → (w.setCells b o vs).rowIs b t n (fun j => if o ≤ j ∧ j < o + vs.length then vs.getD (j - o) undef else f j)
  | [], o, w, f, h => h.congr fun i _ => by simp; omega
  | v :: r, o, w, f, h => by
    refine (row_setCells r (o + 1) _ _ (h.set o v)).congr fun i _ => ?_
    simp only [List.length_cons]
    by_cases e : i = o
    · subst e
      rw [if_neg (by omega), if_pos rfl, if_pos (by omega)]
      simp
    · by_cases h2 : o + 1 ≤ i ∧ i < o + 1 + r.length
      · rw [if_pos h2, if_pos (by omega)]
        have : i - o = (i - (o + 1)) + 1 := by omega
        rw [this]
        simp
      · rw [if_neg h2, if_neg e, if_neg (by omega)]
theorem grown_setCells {a : World} {b : Nat} : ∀ (vs : List Value) (o : Nat) (w : World), a.grownBy w (some b) → a.grownBy (w.setCells b o vs) (some b)
  | [], _, _, h => h
  | v :: r, o, _, h => grown_setCells r (o + 1) _ (grown_set h o v)

/-- A copy into a row of the call's own. -/
theorem copy_row {P : Program} (w : World) (dT sT ty elem : TypeId) (hu : P.underlying dT = some (.slice elem)) (hsz : (P.info? elem).map (·.size) = some 1)
    (dLen dCap sLen sCap : Nat) (g off : Nat) (ad : Addr) (t : TypeId) (n : Nat) (f : Nat → Value) (hrow : w.rowIs g t n f) (cs : List Value) (hn : cs.length = Nat.min sLen dLen)
    (hsrc : ∀ j v, cs[j]? = some v → w.cell? (ad.add j) = some v) (hfit : off + cs.length ≤ n) (h1 : ∀ v ∈ cs, v.oneCell' = true) :
    ∃ w', (Builtin.copy_ #[dT, sT] ty #[.slice (some ⟨g, off, none⟩) dLen dCap, .slice (some ad) sLen sCap]).run P w = .ok (goInt cs.length) w' ∧
      w'.rowIs g t n (fun j => if off ≤ j ∧ j < off + cs.length then cs.getD (j - off) undef else f j) ∧ w.grownBy w' (some g) := by
  obtain ⟨cur, hg, hcs, hcf⟩ := hrow
  have hrun := run_copy_row (P := P) w dT sT ty elem g off dLen dCap ad sLen sCap cur t cs hu hsz hg hn hsrc (by omega) h1
  have hset := setRow_heap w g cur (cur.toList.take off ++ cs ++ cur.toList.drop (off + cs.length)).toArray t _ hg
  refine ⟨_, hrun, ?_, ⟨rfl, rfl, rfl, by simp, fun k _ hne => setRow_other w g k _ (by intro e; subst e; exact hne rfl)⟩⟩
  refine ⟨_, hset, by simp; omega, fun i hi => ?_⟩
  have hci := hcf i hi
  simp only [List.getElem?_toArray]
  by_cases h2 : off ≤ i ∧ i < off + cs.length
  · rw [if_pos h2, List.append_assoc, List.getElem?_append_right (by simp; omega)]
    rw [List.getElem?_append_left (by simp; omega)]
    have e : i - (cur.toList.take off).length = i - off := by simp; omega
    rw [e, List.getElem?_eq_getElem (by omega)]
    simp [List.getD, List.getElem?_eq_getElem (show i - off < cs.length by omega)]
  · rw [if_neg h2, ← hci, List.append_assoc]
    by_cases h3 : i < off
    · rw [List.getElem?_append_left (by simp; omega), List.getElem?_take, if_pos h3]
      simp
    · rw [List.getElem?_append_right (by simp; omega), List.getElem?_append_right (by simp; omega), List.getElem?_drop]
      have e : off + cs.length + (i - (cur.toList.take off).length - cs.length) = i := by simp; omega
      rw [e]
      simp

/-! ### What each way of a round does to the row -/
theorem un_clear {wr : World} {D n k : Nat} {fd fs : Nat → Int} (h : wr.rowIs D 5 n (byteV (part (4 * k) (specUn n fd fs) fd))) (hlt : 4 * k + 4 ≤ n) (ha : 0 = fs (4 * k + 3)) :
    (wr.setCells D (4 * k) (List.replicate 4 (.int .u8 0))).rowIs D 5 n (byteV (part (4 * (k + 1)) (specUn n fd fs) fd)) := by
  refine (row_setCells _ _ _ _ h).congr fun i hi => ?_
  simp only [List.length_replicate]
  by_cases h2 : 4 * k ≤ i ∧ i < 4 * k + 4
  · rw [if_pos h2]
    have e1 : (List.replicate 4 (Value.int .u8 0)).getD (i - 4 * k) undef = .int .u8 0 := by
      have : i - 4 * k < 4 := by omega
      rw [List.getD_eq_getElem?_getD, List.getElem?_replicate, if_pos this]; rfl
    rw [e1]
    unfold byteV part specUn
    rw [if_pos (by omega), if_pos (by omega), show i / 4 * 4 + 3 = 4 * k + 3 by omega, ← ha, unp_zero]
    split
    · rename_i h3
      rw [show i = 4 * k + 3 by omega, ← ha]
    · rfl
  · rw [if_neg h2]
    unfold byteV part
    by_cases h3 : i < 4 * k
    · rw [if_pos h3, if_pos (by omega)]
    · rw [if_neg h3, if_neg (by omega)]

theorem un_cells {wr : World} {S k : Nat} {v0 v1 v2 v3 : Value} (s0 : wr.cell? ⟨S, 4 * k, none⟩ = some v0) (s1 : wr.cell? ⟨S, 4 * k + 1, none⟩ = some v1) (s2 : wr.cell? ⟨S, 4 * k + 2, none⟩ = some v2) (s3 : wr.cell? ⟨S, 4 * k + 3, none⟩ = some v3) :
    ∀ j v, [v0, v1, v2, v3][j]? = some v → wr.cell? ((⟨S, 4 * k, none⟩ : Addr).add j) = some v := by
  intro j v hj
  have hplain : (⟨S, 4 * k, none⟩ : Addr).add j = ⟨S, 4 * k + j, none⟩ := by unfold Addr.add; split <;> simp_all
  rw [hplain]
  match j, hj with
  | 0, hj => simp at hj; subst hj; exact s0
  | 1, hj => simp at hj; subst hj; exact s1
  | 2, hj => simp at hj; subst hj; exact s2
  | 3, hj => simp at hj; subst hj; exact s3
  | j + 4, hj => simp at hj

theorem un_copy {w2 : World} {D n k : Nat} {fd fs : Nat → Int} (hlt : 4 * k + 4 ≤ n) (ha : 255 = fs (4 * k + 3)) (b0 : 0 ≤ fs (4 * k) ∧ fs (4 * k) ≤ 255) (b1 : 0 ≤ fs (4 * k + 1) ∧ fs (4 * k + 1) ≤ 255) (b2 : 0 ≤ fs (4 * k + 2) ∧ fs (4 * k + 2) ≤ 255)
    (h : w2.rowIs D 5 n (fun j => if 4 * k ≤ j ∧ j < 4 * k + [Value.int .u8 (fs (4 * k)), .int .u8 (fs (4 * k + 1)), .int .u8 (fs (4 * k + 2)), .int .u8 255].length then [Value.int .u8 (fs (4 * k)), .int .u8 (fs (4 * k + 1)), .int .u8 (fs (4 * k + 2)), .int .u8 255].getD (j - 4 * k) undef else byteV (part (4 * k) (specUn n fd fs) fd) j)) :
    w2.rowIs D 5 n (byteV (part (4 * (k + 1)) (specUn n fd fs) fd)) := by
  refine h.congr fun i hi => ?_
  simp only [List.length_cons, List.length_nil, Nat.zero_add, Nat.reduceAdd]
  by_cases h2 : 4 * k ≤ i ∧ i < 4 * k + 4
  · rw [if_pos h2]
    unfold byteV part specUn
    rw [if_pos (by omega), if_pos (by omega), show i / 4 * 4 + 3 = 4 * k + 3 by omega, ← ha]
    obtain h3 | h3 | h3 | h3 : i = 4 * k ∨ i = 4 * k + 1 ∨ i = 4 * k + 2 ∨ i = 4 * k + 3 := by omega
    · subst h3
      rw [if_neg (by omega), unp_full _ b0.1 b0.2]
      simp
    · subst h3
      rw [if_neg (by omega), unp_full _ b1.1 b1.2]
      simp [show 4 * k + 1 - 4 * k = 1 by omega]
    · subst h3
      rw [if_neg (by omega), unp_full _ b2.1 b2.2]
      simp [show 4 * k + 2 - 4 * k = 2 by omega]
    · subst h3
      rw [if_pos (by omega), ← ha]
      simp [show 4 * k + 3 - 4 * k = 3 by omega]
  · rw [if_neg h2]
    unfold byteV part
    by_cases h3 : i < 4 * k
    · rw [if_pos h3, if_pos (by omega)]
    · rw [if_neg h3, if_neg (by omega)]

/-- One byte more. -/
theorem part_set {wr : World} {D n t : Nat} {g fd : Nat → Int} {v : Int} (h : wr.rowIs D 5 n (byteV (part t g fd))) (hv : v = g t) : (wr.setCell ⟨D, t, none⟩ (.int .u8 v)).rowIs D 5 n (byteV (part (t + 1) g fd)) := by
  refine (h.set t _).congr fun i _ => ?_
  by_cases e : i = t
  · subst e
    rw [if_pos rfl]
    unfold byteV part
    rw [if_pos (by omega), hv]
  · rw [if_neg e]
    unfold byteV part
    by_cases h3 : i < t
    · rw [if_pos h3, if_pos (by omega)]
    · rw [if_neg h3, if_neg (by omega)]

theorem un_mid {n k c : Nat} {fd fs : Nat → Int} {a s : Int} (hlt : 4 * k + 4 ≤ n) (hc : c < 3) (ha : a = fs (4 * k + 3)) (hs : s = fs (4 * k + c)) (h0 : ¬ a = 0) : s * 65535 / a / 256 % 256 = specUn n fd fs (4 * k + c) := by
  unfold specUn
  rw [if_pos (by omega), if_neg (by omega), show (4 * k + c) / 4 * 4 + 3 = 4 * k + 3 by omega, ← ha, ← hs]
  unfold unp
  rw [if_neg h0]
theorem un_last {n k : Nat} {fd fs : Nat → Int} {a : Int} (hlt : 4 * k + 4 ≤ n) (ha : a = fs (4 * k + 3)) : a = specUn n fd fs (4 * k + 3) := by
  unfold specUn
  rw [if_pos (by omega), if_pos (by omega), ha]

theorem un_done {n k : Nat} {fd fs : Nat → Int} (h1 : 4 * k ≤ n) (h2 : n < 4 * k + 4) : ∀ i, i < n → byteV (part (4 * k) (specUn n fd fs) fd) i = byteV (specUn n fd fs) i := by
  intro i hi
  unfold byteV part
  by_cases h3 : i < 4 * k
  · rw [if_pos h3]
  · rw [if_neg h3]
    unfold specUn
    rw [if_neg (by omega)]

set_option maxHeartbeats 400000 in
theorem unpremul_any (D S n m : Nat) (fd fs : Nat → Int) (w : World) (hn : n ≤ 1048576) (hm : n / 4 * 4 ≤ m) (hmm : m ≤ 1048576) (hne : S ≠ D) (hD : w.rowIs D 5 n (byteV fd)) (hS : ∀ i, i < m → w.cell? ⟨S, i, none⟩ = some (.int .u8 (fs i))) (hb : Byts m fs) :
    Calls Tryd.prog 23 #[.slice (some ⟨D, 0, none⟩) n n, .slice (some ⟨S, 0, none⟩) m m] w fun e w' => e = .returned (.tuple #[]) ∧ w'.rowIs D 5 n (byteV (specUn n fd fs)) ∧ w.grownBy w' (some D) := by
  go_enter Tryd.func23, Tryd.ntmps23
  go_wp2
  go_loopw [4] (fun i wr => ∃ k : Nat, 4 * k ≤ n ∧ i = .int .i64 (4 * (k : Int)) ∧ wr.rowIs D 5 n (byteV (part (4 * k) (specUn n fd fs) fd)) ∧ w.grownBy wr (some D)) (fun i _ => n + 4 - (intOf i).toNat)
  case atStart => exact ⟨0, by omega, rfl, hD, grown_refl _ _⟩
  case round =>
    obtain ⟨k, hk, rfl, hrow, hgr⟩ := hrel
    by_cases hlt : 4 * k + 4 ≤ n
    · have s3 := grown_cell hgr (hS (4 * k + 3) (by omega)) hne
      have s0 := grown_cell hgr (hS (4 * k) (by omega)) hne
      have s1 := grown_cell hgr (hS (4 * k + 1) (by omega)) hne
      have s2 := grown_cell hgr (hS (4 * k + 2) (by omega)) hne
      have d0 := hrow.cell (i := 4 * k) (by omega)
      have d1 := hrow.cell (i := 4 * k + 1) (by omega)
      have d2 := hrow.cell (i := 4 * k + 2) (by omega)
      have d3 := hrow.cell (i := 4 * k + 3) (by omega)
      have fz := hrow.frozen
      have b3 := hb (4 * k + 3) (by omega)
      obtain ⟨a, ha⟩ : ∃ a, a = fs (4 * k + 3) := ⟨_, rfl⟩
      rw [← ha] at s3 b3
      have HA : Hid (a = fs (4 * k + 3)) := ha
      clear ha
      by_cases ha0 : a = 0
      · subst ha0
        have hcl : (Builtin.clear_ #[22] 0 #[.slice (some ⟨D, 4 * k, none⟩) 4 (n - 4 * k)]).run Tryd.prog wr = .ok (.tuple #[]) (wr.setCells D (4 * k) (List.replicate 4 (.int .u8 0))) := by
          refine Go.Lib.run_clear_slice wr 22 5 0 (.int .u8 0) Tryd.underlying22 (fun _ => by kernel_rfl) rfl rfl D (4 * k) 4 (n - 4 * k) (by omega) (fun j hj => ?_) (fun j _ => fz _)
          rw [hrow.cell (by omega)]; rfl
        have R1 := un_clear hrow hlt HA.out
        have R2 := grown_setCells (List.replicate 4 (.int .u8 0)) (4 * k) wr hgr
        obtain ⟨w2, hw2⟩ : ∃ w2, w2 = wr.setCells D (4 * k) (List.replicate 4 (.int .u8 0)) := ⟨_, rfl⟩
        rw [← hw2] at hcl R1 R2
        clear hw2 d0 d1 d2 d3 s0 s1 s2 fz hrow hgr
        go_wp2
        go_roundw
        case rel => exact ⟨k + 1, by omega, by go_num, R1, R2⟩
        case measure => simp [intOf]; omega
      · by_cases ha1 : a = 255
        · subst ha1
          have hc4 := un_cells s0 s1 s2 s3
          have i0 : (0 : Int) ≤ 4 * (k : Int) := by omega
          have i1 : 4 * (k : Int) ≤ 4 * (k : Int) + 4 := by omega
          have i2 : 4 * (k : Int) + 4 ≤ (n : Int) := by omega
          have i3 : 4 * (k : Int) + 4 ≤ (m : Int) := by omega
          have i4 : (0 : Int) ≤ 4 * (k : Int) + 4 := by omega
          have j0 : IntKind.i64.wrap (4 * (k : Int) + 4) = 4 * (k : Int) + 4 := by rw [IntKind.wrap_i64]; omega
          have j1 : (4 * (k : Int)).toNat = 4 * k := by omega
          have j2 : (4 * (k : Int) + 4).toNat = 4 * k + 4 := by omega
          have j3 : max (4 * (k : Int) + 4) 0 = 4 * (k : Int) + 4 := by omega
          have j4 : ¬ n = 4 * k := by omega
          have j5 : ¬ m = 4 * k := by omega
          obtain ⟨w2, hrun, hr2, hg2⟩ := copy_row (P := Tryd.prog) wr.drew 22 22 3 5 Tryd.underlying22 size5 4 (n - 4 * k) 4 (m - 4 * k) D (4 * k) ⟨S, 4 * k, none⟩ 5 n _ hrow [.int .u8 (fs (4 * k)), .int .u8 (fs (4 * k + 1)), .int .u8 (fs (4 * k + 2)), .int .u8 255] rfl hc4 (by simp; omega) (by simp [Value.oneCell'])
          have R1 := un_copy hlt HA.out (hb _ (by omega)) (hb _ (by omega)) (hb _ (by omega)) hr2
          have R2 := grown_trans (grown_drewN hgr 1) hg2
          clear d0 d1 d2 d3 s0 s1 s2 fz hrow hgr hc4 hr2 hg2
          go_wp2_with fail
          go_region
          all_goals
            go_wp2
            go_roundw
            case rel => exact ⟨k + 1, by omega, by go_num, R1, R2⟩
            case measure => simp [intOf]; omega
        · have e1 : (a == 0) = false := by rw [beq_eq_false_iff_ne]; exact ha0
          have e2 : (a == 255) = false := by rw [beq_eq_false_iff_ne]; exact ha1
          have hpos : 1 ≤ a := by omega
          clear d0 d1 d2 d3 s0 s1 s2 fz
          obtain ⟨wo, ewo⟩ : ∃ x, x = wr := ⟨_, rfl⟩
          subst ewo
          go_wp2_with fail
          go_loopw [41] (fun cv wr => ∃ c : Nat, c ≤ 3 ∧ cv = .int .i64 c ∧ wr.rowIs D 5 n (byteV (part (4 * k + c) (specUn n fd fs) fd)) ∧ w.grownBy wr (some D)) (fun cv _ => 3 - (intOf cv).toNat)
          case atStart => exact ⟨0, by omega, rfl, hrow, hgr⟩
          case round =>
            clear hrow s3
            obtain ⟨c, hc, rfl, hrow, hgr2⟩ := hrel
            by_cases hc3 : c < 3
            · have sc := grown_cell hgr2 (hS (4 * k + c) (by omega)) hne
              have dc := hrow.cell (i := 4 * k + c) (by omega)
              have fc := hrow.frozen (4 * k + c)
              have bc := hb (4 * k + c) (by omega)
              obtain ⟨s, hs⟩ : ∃ s, s = fs (4 * k + c) := ⟨_, rfl⟩
              rw [← hs] at sc bc
              have HS : Hid (s = fs (4 * k + c)) := hs
              clear hs
              obtain ⟨bc0, bc1⟩ := bc
              go_wp2_with fail
              go_roundw
              case rel => exact ⟨c + 1, by omega, by go_num, part_set hrow (un_mid hlt hc3 HA.out HS.out ha0), grown_set hgr2 _ _⟩
              case measure => simp [intOf]; omega
            · have d3 := hrow.cell (i := 4 * k + 3) (by omega)
              have f3 := hrow.frozen (4 * k + 3)
              have ec : c = 3 := by omega
              subst ec
              go_wp2_with fail
              go_roundw
              case rel => exact ⟨k + 1, by omega, by go_num, part_set hrow (un_last hlt HA.out), grown_set hgr2 _ _⟩
              case measure => simp [intOf]; omega
    · go_wp2
      go_end0
      exact ⟨rfl, hrow.congr (un_done (by omega) (by omega)), hgr⟩
end Go.Proofs.Qxb6613510aDoor
