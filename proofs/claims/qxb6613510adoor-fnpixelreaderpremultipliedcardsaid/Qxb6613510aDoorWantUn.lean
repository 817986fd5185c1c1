import Derived.Test.Qxb6613510aDoorPremul
namespace Go.Proofs.Qxb6613510aDoor
open Go.RowKit
set_option linter.unusedVariables false

theorem want_unBad (width : Int) (ao so : Option Addr) (n c m mc : Nat) (f : Nat → Int) (w : World) (hn : n ≤ 1048576) (hmm : m ≤ 1048576) (h0 : ao = none → n = 0) (hs : Src w ao n f) (h : m < n / 4 * 4) :
    Calls Tryd.prog 11 #[.int .i64 width, .int .u8 8, .int .u8 6, .slice ao n c, .slice so m mc] w fun e w' => e = .returned (.tuple #[.bool false, .slice none 0 0, .bool false]) ∧ Below w.heap.size w w' := by
  go_enter Tryd.func11, Tryd.ntmps11
  go_wp2_with (first | (go_at_call 7; refine (clone_any ao n c f _ hn h0 hs).mono ?_; rintro e w1 ⟨wo, rfl, how, hb1⟩) | (go_at_call 15; refine (allow8_yes _ _ (by omega)).mono ?_; rintro e wx ⟨rfl, rfl⟩))
  go_ret3
  exact ⟨rfl, hb1⟩

theorem want_unFew (width : Int) (ao so : Option Addr) (n c m mc : Nat) (f fs : Nat → Int) (w : World) (hn : n < 4) (hmm : m ≤ 1048576) (h0 : ao = none → n = 0) (hs : Src w ao n f) :
    Calls Tryd.prog 11 #[.int .i64 width, .int .u8 8, .int .u8 6, .slice ao n c, .slice so m mc] w fun e w' => ∃ wo, e = .returned (.tuple #[.bool true, .slice wo n n, .bool true]) ∧ Own w' w.heap.size wo n (specUn n f fs) ∧ Below w.heap.size w w' := by
  have h4 : (n : Int) / 4 = 0 := by omega
  go_enter Tryd.func11, Tryd.ntmps11
  go_wp2_with (first | (go_at_call 7; refine (clone_any ao n c f _ (by omega) h0 hs).mono ?_; rintro e w1 ⟨wo, rfl, how, hb1⟩) | (go_at_call 15; refine (allow8_yes _ _ (by omega)).mono ?_; rintro e wx ⟨rfl, rfl⟩))
  refine wp_loop_rounds 1 ?_
  rw [rounds_succ]
  go_wp2
  go_ret3
  exact ⟨wo, rfl, own_congr how (fun i _ => by unfold specUn; rw [if_neg (by omega)]), hb1⟩

theorem quo257 (s a : Int) (ha : 1 ≤ a) : s * 257 * 65535 / (a * 257) = s * 65535 / a := by
  rw [show s * 257 * 65535 = s * 65535 * 257 by rw [Int.mul_assoc, Int.mul_assoc, Int.mul_comm 257 65535]]
  exact Int.mul_ediv_mul_of_pos_left _ _ (by omega)

theorem un_full {n k c : Nat} {fd fs : Nat → Int} {s : Int} (hlt : 4 * k + 4 ≤ n) (hc : c < 3) (ha : 255 = fs (4 * k + 3)) (hs : s = fs (4 * k + c)) (h0 : 0 ≤ s) (h1 : s ≤ 255) : s * 257 / 256 = specUn n fd fs (4 * k + c) := by
  unfold specUn
  rw [if_pos (by omega), if_neg (by omega), show (4 * k + c) / 4 * 4 + 3 = 4 * k + 3 by omega, ← ha, ← hs, unp_full s h0 h1]
  omega
theorem un_none {n k c : Nat} {fd fs : Nat → Int} (hlt : 4 * k + 4 ≤ n) (hc : c < 3) (ha : 0 = fs (4 * k + 3)) : 0 = specUn n fd fs (4 * k + c) := by
  unfold specUn
  rw [if_pos (by omega), if_neg (by omega), show (4 * k + c) / 4 * 4 + 3 = 4 * k + 3 by omega, ← ha, unp_zero]

set_option maxHeartbeats 1000000 in
theorem want_unMany (width : Int) (x : Addr) (S n c m : Nat) (f fs : Nat → Int) (w : World) (hn : n ≤ 1048576) (hmm : m ≤ 1048576) (hs : Src w (some x) n f) (hm : n / 4 * 4 ≤ m) (hS : w.rowIs S 5 m (byteV fs)) (hb : Byts m fs) :
    Calls Tryd.prog 11 #[.int .i64 width, .int .u8 8, .int .u8 6, .slice (some x) n c, .slice (some ⟨S, 0, none⟩) m m] w fun e w' => ∃ wo, e = .returned (.tuple #[.bool true, .slice wo n n, .bool true]) ∧ Own w' w.heap.size wo n (specUn n f fs) ∧ Below w.heap.size w w' := by
  have hSlt := hS.lt
  go_enter Tryd.func11, Tryd.ntmps11
  go_wp2_with (first | (go_at_call 7; refine (clone_some x n c f _ (by omega) hs).mono ?_; rintro e w1 ⟨rfl, how, hb1⟩) | (go_at_call 15; refine (allow8_yes _ _ (by omega)).mono ?_; rintro e wx ⟨rfl, rfl⟩))
  have hS1 := row_below hS hb1 hSlt
  go_loopw [15] (fun i wr => ∃ k : Nat, 4 * k ≤ n ∧ i = .int .i64 (4 * (k : Int)) ∧ wr.rowIs w.heap.size 5 n (byteV (part (4 * k) (specUn n f fs) f)) ∧ w1.grownBy wr (some w.heap.size)) (fun i _ => n + 4 - (intOf i).toNat)
  case atStart => exact ⟨0, by omega, rfl, how, grown_refl _ _⟩
  case round =>
    obtain ⟨k, hk, rfl, hrow, hgr⟩ := hrel
    by_cases hlt : 4 * k + 4 ≤ n
    · have hSr := grown_row hgr hS1 (by omega)
      have s3 : wr.cell? ⟨S, 4 * k + 3, none⟩ = some (.int .u8 (fs (4 * k + 3))) := hSr.cell (by omega)
      have b3 := hb (4 * k + 3) (by omega)
      obtain ⟨a, ha⟩ : ∃ a, a = fs (4 * k + 3) := ⟨_, rfl⟩
      rw [← ha] at s3 b3
      have HA : Hid (a = fs (4 * k + 3)) := ha
      clear ha hSr
      obtain ⟨b30, b31⟩ := b3
      obtain ⟨wo, ewo⟩ : ∃ x, x = wr := ⟨_, rfl⟩
      subst ewo
      go_wp2_with fail
      go_loopw [17] (fun cv wr => ∃ c : Nat, c ≤ 3 ∧ cv = .int .i64 c ∧ wr.rowIs w.heap.size 5 n (byteV (part (4 * k + c) (specUn n f fs) f)) ∧ w1.grownBy wr (some w.heap.size)) (fun cv _ => 3 - (intOf cv).toNat)
      case atStart => exact ⟨0, by omega, rfl, hrow, hgr⟩
      case round =>
        clear hrow s3
        obtain ⟨c, hc, rfl, hrow, hgr2⟩ := hrel
        by_cases hc3 : c < 3
        · have hSr := grown_row hgr2 hS1 (by omega)
          have sc : wr.cell? ⟨S, 4 * k + c, none⟩ = some (.int .u8 (fs (4 * k + c))) := hSr.cell (by omega)
          have dc := hrow.cell (i := 4 * k + c) (by omega)
          have fc := hrow.frozen (4 * k + c)
          have bc := hb (4 * k + c) (by omega)
          obtain ⟨s, hs2⟩ : ∃ s, s = fs (4 * k + c) := ⟨_, rfl⟩
          rw [← hs2] at sc bc
          have HS : Hid (s = fs (4 * k + c)) := hs2
          clear hs2 hSr
          obtain ⟨bc0, bc1⟩ := bc
          by_cases ha1 : a = 255
          · subst ha1
            go_wp2_with fail
            go_roundw
            case rel => exact ⟨c + 1, by omega, by go_num, part_set hrow (un_full hlt hc3 HA.out HS.out bc0 bc1), grown_set hgr2 _ _⟩
            case measure => simp [intOf]; omega
          · by_cases ha0 : a = 0
            · subst ha0
              go_wp2_with fail
              go_roundw
              case rel => exact ⟨c + 1, by omega, by go_num, part_set hrow (un_none hlt hc3 HA.out), grown_set hgr2 _ _⟩
              case measure => simp [intOf]; omega
            · have e1 : (a * 257 == 65535) = false := by rw [beq_eq_false_iff_ne]; omega
              have e2 : (a * 257 != 0) = true := by rw [bne_iff_ne]; omega
              have hpos : 1 ≤ a := by omega
              go_wp2_with fail
              go_roundw
              case rel => exact ⟨c + 1, by omega, by go_num, part_set hrow ((by rw [quo257 s a hpos]; exact un_mid hlt hc3 HA.out HS.out ha0)), grown_set hgr2 _ _⟩
              case measure => simp [intOf]; omega
        · have d3 := hrow.cell (i := 4 * k + 3) (by omega)
          have f3 := hrow.frozen (4 * k + 3)
          have ec : c = 3 := by omega
          subst ec
          go_wp2_with fail
          go_roundw
          case rel => exact ⟨k + 1, by omega, by go_num, part_set hrow (by rw [show a * 257 / 256 = a by omega]; exact un_last hlt HA.out), grown_set hgr2 _ _⟩
          case measure => simp [intOf]; omega
    · go_wp2
      go_ret3
      exact ⟨_, rfl, .inr ⟨_, rfl, Nat.le_refl _, hrow.congr (un_done (by omega) (by omega))⟩, hb1.grown hgr hb1.size (by rintro k ⟨⟩; exact Nat.le_refl _)⟩
theorem want_un (B : Nat) (width : Int) (ao so : Option Addr) (n c m : Nat) (f fs : Nat → Int) (w : World) (hn : n ≤ 1048576) (hmm : m ≤ 1048576) (h0 : ao = none → n = 0) (hs : Src w ao n f) (hso : Own w B so m fs) (hm : n / 4 * 4 ≤ m) (hb : Byts m fs) :
    Calls Tryd.prog 11 #[.int .i64 width, .int .u8 8, .int .u8 6, .slice ao n c, .slice so m m] w fun e w' => ∃ wo, e = .returned (.tuple #[.bool true, .slice wo n n, .bool true]) ∧ Own w' w.heap.size wo n (specUn n f fs) ∧ Below w.heap.size w w' := by
  by_cases h4 : n < 4
  · exact want_unFew width ao so n c m m f fs w h4 hmm h0 hs
  · cases ao with
    | none => have := h0 rfl; omega
    | some x =>
      rcases hso with ⟨_, h⟩ | ⟨S, rfl, _, hS⟩
      · omega
      · exact want_unMany width x S n c m f fs w hn hmm hs hm hS hb

end Go.Proofs.Qxb6613510aDoor
