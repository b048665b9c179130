/- FnCookedAndRawTemplateContentsWhole: the digits of a unit. -/
import Derived.Test.YtalpfbbceggcaaaDoorCwQ
import Derived.WalkKit
import Derived.ProofKit
import Derived.OpenShut
import Derived.Below
import Derived.WalkLawsBesides
import Derived.Lib.Hide
import Derived.Outline
import Derived.RegionTactic
import Derived.Deep.QuietTactic
import Derived.BigQuiet
import Derived.WalkSpells
import Derived.Deep.OwnRows
import Derived.IntWalk
import Derived.Deep.DeepMust
namespace Go.Proofs.YtalpfbbceggcaaaDoor.CwR
open Go.RowKit Mem Args Own Prn Str Dec Step CwP CwG CwK CwM CwU CwN CwO CwQ
set_option linter.unusedVariables false
set_option linter.unusedSimpArgs false
theorem hx_length (u : Int) (up : Bool) : ∀ n, (hx u up n).length = n
  | 0 => rfl
  | n + 1 => by simp [hx, hx_length u up n]
theorem hx_getD (u : Int) (up : Bool) : ∀ (n j : Nat), j < n → (hx u up n).getD j 0 = CwP.hd (u / ((16 ^ (n - 1 - j) : Nat) : Int) % 16) up
  | 0, j, h => by omega
  | n + 1, 0, h => by simp [hx]
  | n + 1, j + 1, h => by
    have := hx_getD u up n j (by omega)
    rw [show n + 1 - 1 - (j + 1) = n - 1 - j by omega, ← this]
    rfl
theorem dg_hd {x : Int} (h0 : 0 ≤ x) (h1 : x < 16) (up : Bool) : DG (CwP.hd x up) x := by
  refine ⟨⟨h0, h1⟩, ?_⟩
  unfold CwP.hd
  by_cases h : x < 10
  · rw [if_pos h]; exact .inl ⟨rfl, h⟩
  · rw [if_neg h]
    cases up
    · exact .inr (.inl ⟨rfl, by omega⟩)
    · exact .inr (.inr ⟨rfl, by omega⟩)
/-- The step from one number to the next. -/
theorem va_step (u : Int) (h0 : 0 ≤ u) (k : Nat) : u / ((16 ^ k : Nat) : Int) = u / ((16 ^ (k + 1) : Nat) : Int) * 16 + u / ((16 ^ k : Nat) : Int) % 16 := by
  have e : u / ((16 ^ (k + 1) : Nat) : Int) = u / ((16 ^ k : Nat) : Int) / 16 := by
    rw [Nat.pow_succ, Int.natCast_mul]
    exact (Int.ediv_ediv_of_nonneg (Int.natCast_nonneg _)).symm
  rw [e]
  omega
theorem va_le (u : Int) (h0 : 0 ≤ u) (h1 : u ≤ 65535) (k : Nat) : 0 ≤ u / ((16 ^ k : Nat) : Int) ∧ u / ((16 ^ k : Nat) : Int) ≤ 65535 := by
  have hp : (1 : Int) ≤ ((16 ^ k : Nat) : Int) := by have : 0 < 16 ^ k := Nat.pow_pos (by decide); omega
  refine ⟨Int.ediv_nonneg h0 (by omega), ?_⟩
  have : u / ((16 ^ k : Nat) : Int) ≤ u := Int.ediv_le_self _ h0
  omega
def chx (u : Int) (up : Bool) (n j : Nat) : Int := CwP.hd (u / ((16 ^ (n - 1 - j) : Nat) : Int) % 16) up
def vax (u : Int) (n j : Nat) : Int := u / ((16 ^ (n - j) : Nat) : Int)
theorem vax_end (u : Int) (n : Nat) : vax u n n = u := by simp [vax]
theorem txt_at {t : ByteArray} {i0 : Nat} {p : List Int} (h : Txt t i0 p) {j : Nat} (hj : j < p.length) : Txt t (i0 + j) [p.getD j 0] := by
  refine ⟨by have := h.1; simp; omega, fun k hk => ?_⟩
  have hk0 : k = 0 := by simpa using hk
  subst hk0
  rw [Nat.add_zero, h.2 j hj]
  rfl
theorem ds_hx {t : ByteArray} {i0 n : Nat} {u : Int} {up : Bool} (h : Txt t i0 (hx u up n)) (h0 : 0 ≤ u) (h1 : u ≤ 65535) : Ds t i0 n (chx u up n) (vax u n) := by
  intro j hj
  refine ⟨?_, u / ((16 ^ (n - 1 - j) : Nat) : Int) % 16, dg_hd (Int.emod_nonneg _ (by decide)) (Int.emod_lt_of_pos _ (by decide)) up, ?_, (va_le u h0 h1 _).1, (va_le u h0 h1 _).2, (va_le u h0 h1 _).2⟩
  · have := txt_at h (j := j) (by rw [hx_length]; exact hj)
    rw [hx_getD u up n j hj] at this
    exact this
  · have := va_step u h0 (n - 1 - j)
    unfold vax
    rw [show n - (j + 1) = n - 1 - j by omega, show n - j = n - 1 - j + 1 by omega]
    exact this
/-- Zeros ahead. -/
def chz (u : Int) (up : Bool) (z n j : Nat) : Int := if j < z then 48 else chx u up n (j - z)
def vaz (u : Int) (z n j : Nat) : Int := if j < z then 0 else vax u n (j - z)
theorem vaz_end (u : Int) (z n : Nat) : vaz u z n (z + n) = u := by unfold vaz; rw [if_neg (by omega), Nat.add_sub_cancel_left, vax_end]
theorem hl_pow (u : Int) (h0 : 0 ≤ u) (h1 : u ≤ 65535) : vax u (hl u) 0 = 0 := by
  unfold vax hl
  split
  · simp; omega
  · split
    · simp; omega
    · split
      · simp; omega
      · simp; omega
theorem vaz_zero (u : Int) (z : Nat) (h0 : 0 ≤ u) (h1 : u ≤ 65535) : vaz u z (hl u) 0 = 0 := by
  unfold vaz
  split
  · rfl
  · rw [Nat.zero_sub]; exact hl_pow u h0 h1
theorem ds_z {t : ByteArray} {i0 z : Nat} {u : Int} {up : Bool} (h : Txt t i0 (List.replicate z 48 ++ hx u up (hl u))) (h0 : 0 ≤ u) (h1 : u ≤ 65535) : Ds t i0 (z + hl u) (chz u up z (hl u)) (vaz u z (hl u)) := by
  have hh := ds_hx (by have := h.drop; rw [List.length_replicate] at this; exact this) h0 h1
  intro j hj
  by_cases hz : j < z
  · have e1 : chz u up z (hl u) j = 48 := by unfold chz; rw [if_pos hz]
    have e2 : vaz u z (hl u) j = 0 := by unfold vaz; rw [if_pos hz]
    have e3 : vaz u z (hl u) (j + 1) = 0 := by
      unfold vaz
      split
      · rfl
      · rw [show j + 1 - z = 0 by omega]; exact hl_pow u h0 h1
    rw [e1, e2, e3]
    refine ⟨?_, 0, ⟨by decide, by decide⟩, by decide, by decide, by decide, by decide⟩
    have := txt_at h (j := j) (by simp; omega)
    simp only [List.getD] at this
    rw [List.getElem?_append_left (by simpa using hz)] at this
    simpa [hz] using this
  · obtain ⟨k, rfl⟩ : ∃ k, j = z + k := ⟨j - z, by omega⟩
    have e1 : chz u up z (hl u) (z + k) = chx u up (hl u) k := by unfold chz; rw [if_neg hz, Nat.add_sub_cancel_left]
    have e2 : vaz u z (hl u) (z + k) = vax u (hl u) k := by unfold vaz; rw [if_neg hz, Nat.add_sub_cancel_left]
    have e3 : vaz u z (hl u) (z + k + 1) = vax u (hl u) (k + 1) := by unfold vaz; rw [if_neg (by omega), show z + k + 1 - z = k + 1 by omega]
    rw [e1, e2, e3]
    have := hh k (by omega)
    rw [show i0 + (z + k) = i0 + z + k by omega]
    exact this
theorem hl_pos (u : Int) : 0 < hl u := by unfold hl; split <;> (try split) <;> (try split) <;> decide
end Go.Proofs.YtalpfbbceggcaaaDoor.CwR
