import Derived.Test.Qxb6613510aDoorPick
import Derived.Laws.BitsAllLaws
namespace Go.Proofs.Qxb6613510aDoor
open Go.RowKit

/-- A gray level below b out of a byte. -/
def smp (b : Nat) (s : Int) : Nat := s.toNat * (b - 1) / 255
/-- The first t samples from sample x on, one behind the other. -/
def acc (b : Nat) (fs : Nat → Int) (x : Nat) : Nat → Nat
  | 0 => 0
  | t + 1 => acc b fs x t * b + smp b (fs (4 * (x + t)))
/-- How many of the first x samples lie in byte i, 'per' samples a byte. -/
def cnt (per x i : Nat) : Nat := min per (x - per * i)
/-- Byte i behind the first x samples. -/
def packed (b per : Nat) (fs : Nat → Int) (x i : Nat) : Nat := acc b fs (per * i) (cnt per x i) * b ^ (per - cnt per x i)
/-- The row behind the first x samples: nb bytes of it are packed. -/
def packRow (b per nb : Nat) (fd fs : Nat → Int) (x i : Nat) : Int := if i < nb then (packed b per fs x i : Int) else fd i

theorem smp_bd (b : Nat) (s : Int) (h0 : 1 ≤ b) (h1 : s ≤ 255) : smp b s < b := by
  unfold smp
  have h2 : s.toNat ≤ 255 := by omega
  have h3 : s.toNat * (b - 1) ≤ 255 * (b - 1) := Nat.mul_le_mul_right _ h2
  have h4 : s.toNat * (b - 1) / 255 ≤ b - 1 := by
    have := Nat.div_le_div_right (c := 255) h3
    rwa [Nat.mul_div_cancel_left _ (by omega)] at this
  omega

theorem acc_bd (b : Nat) (fs : Nat → Int) (x : Nat) (hb : 1 ≤ b) : ∀ t, (∀ i, i < t → fs (4 * (x + i)) ≤ 255) → acc b fs x t < b ^ t
  | 0, _ => by simp [acc]
  | t + 1, h => by
    have h1 := acc_bd b fs x hb t (fun i hi => h i (by omega))
    have h2 := smp_bd b (fs (4 * (x + t))) hb (h t (by omega))
    have h3 : (acc b fs x t + 1) * b ≤ b ^ t * b := Nat.mul_le_mul_right b h1
    rw [Nat.pow_succ, acc]
    rw [Nat.add_mul] at h3
    omega

/-- One sample more, laid from the top: what 'want' does. -/
theorem or_top (b per : Nat) (hb : (b = 2 ∧ per = 8) ∨ (b = 4 ∧ per = 4) ∨ (b = 16 ∧ per = 2)) (t a v : Nat) (ht : t < per) (ha : a < b ^ t) (hv : v < b) :
    (a * b ^ (per - t)) ||| (v * b ^ (per - (t + 1))) = (a * b + v) * b ^ (per - (t + 1)) ∧ (a * b + v) * b ^ (per - (t + 1)) < 256 ∧ a * b ^ (per - t) < 256 ∧ v * b ^ (per - (t + 1)) < 256 := by
  have k2 : ∀ (t : Fin 8) (a : Fin 128) (v : Fin 2), a.val < 2 ^ t.val → (a.val * 2 ^ (8 - t.val)) ||| (v.val * 2 ^ (8 - (t.val + 1))) = (a.val * 2 + v.val) * 2 ^ (8 - (t.val + 1)) ∧ (a.val * 2 + v.val) * 2 ^ (8 - (t.val + 1)) < 256 ∧ a.val * 2 ^ (8 - t.val) < 256 ∧ v.val * 2 ^ (8 - (t.val + 1)) < 256 := by decide +kernel
  have k4 : ∀ (t : Fin 4) (a : Fin 64) (v : Fin 4), a.val < 4 ^ t.val → (a.val * 4 ^ (4 - t.val)) ||| (v.val * 4 ^ (4 - (t.val + 1))) = (a.val * 4 + v.val) * 4 ^ (4 - (t.val + 1)) ∧ (a.val * 4 + v.val) * 4 ^ (4 - (t.val + 1)) < 256 ∧ a.val * 4 ^ (4 - t.val) < 256 ∧ v.val * 4 ^ (4 - (t.val + 1)) < 256 := by decide +kernel
  have k16 : ∀ (t : Fin 2) (a : Fin 16) (v : Fin 16), a.val < 16 ^ t.val → (a.val * 16 ^ (2 - t.val)) ||| (v.val * 16 ^ (2 - (t.val + 1))) = (a.val * 16 + v.val) * 16 ^ (2 - (t.val + 1)) ∧ (a.val * 16 + v.val) * 16 ^ (2 - (t.val + 1)) < 256 ∧ a.val * 16 ^ (2 - t.val) < 256 ∧ v.val * 16 ^ (2 - (t.val + 1)) < 256 := by decide +kernel
  rcases hb with ⟨rfl, rfl⟩ | ⟨rfl, rfl⟩ | ⟨rfl, rfl⟩
  · have h2 : 2 ^ t ≤ 2 ^ 7 := Nat.pow_le_pow_right (by omega) (by omega)
    exact k2 ⟨t, ht⟩ ⟨a, by omega⟩ ⟨v, hv⟩ ha
  · have h2 : 4 ^ t ≤ 4 ^ 3 := Nat.pow_le_pow_right (by omega) (by omega)
    exact k4 ⟨t, ht⟩ ⟨a, by omega⟩ ⟨v, hv⟩ ha
  · have h2 : 16 ^ t ≤ 16 ^ 1 := Nat.pow_le_pow_right (by omega) (by omega)
    exact k16 ⟨t, ht⟩ ⟨a, by omega⟩ ⟨v, hv⟩ ha

/-- One sample more, pushed from below: what the packer does. -/
theorem or_low (b per : Nat) (hb : (b = 2 ∧ per = 8) ∨ (b = 4 ∧ per = 4) ∨ (b = 16 ∧ per = 2)) (t a v : Nat) (ht : t < per) (ha : a < b ^ t) (hv : v < b) :
    (a * b) ||| v = a * b + v ∧ a * b + v < 256 ∧ a * b < 256 := by
  have k2 : ∀ (t : Fin 8) (a : Fin 128) (v : Fin 2), a.val < 2 ^ t.val → (a.val * 2) ||| v.val = a.val * 2 + v.val ∧ a.val * 2 + v.val < 256 ∧ a.val * 2 < 256 := by decide +kernel
  have k4 : ∀ (t : Fin 4) (a : Fin 64) (v : Fin 4), a.val < 4 ^ t.val → (a.val * 4) ||| v.val = a.val * 4 + v.val ∧ a.val * 4 + v.val < 256 ∧ a.val * 4 < 256 := by decide +kernel
  have k16 : ∀ (t : Fin 2) (a : Fin 16) (v : Fin 16), a.val < 16 ^ t.val → (a.val * 16) ||| v.val = a.val * 16 + v.val ∧ a.val * 16 + v.val < 256 ∧ a.val * 16 < 256 := by decide +kernel
  rcases hb with ⟨rfl, rfl⟩ | ⟨rfl, rfl⟩ | ⟨rfl, rfl⟩
  · have h2 : 2 ^ t ≤ 2 ^ 7 := Nat.pow_le_pow_right (by omega) (by omega)
    exact k2 ⟨t, ht⟩ ⟨a, by omega⟩ ⟨v, hv⟩ ha
  · have h2 : 4 ^ t ≤ 4 ^ 3 := Nat.pow_le_pow_right (by omega) (by omega)
    exact k4 ⟨t, ht⟩ ⟨a, by omega⟩ ⟨v, hv⟩ ha
  · have h2 : 16 ^ t ≤ 16 ^ 1 := Nat.pow_le_pow_right (by omega) (by omega)
    exact k16 ⟨t, ht⟩ ⟨a, by omega⟩ ⟨v, hv⟩ ha
end Go.Proofs.Qxb6613510aDoor
