/- FnCookedAndRawTemplateContentsWhole: two texts that grow, bits of a mode. -/
import Derived.Test.YtalpfbbceggcaaaDoorCwB
import Derived.WalkKit
import Derived.ProofKit
import Derived.OpenShut
import Derived.Below
import Derived.WalkLawsBesides
import Derived.Lib.Hide
import Derived.Outline
import Derived.RegionTactic
import Derived.Deep.QuietTactic
import Derived.BigQuiet
import Derived.WalkSpells
import Derived.Deep.OwnRows
import Derived.IntWalk
import Derived.Deep.DeepMust
namespace Go.Proofs.YtalpfbbceggcaaaDoor.CwT
open Go.RowKit Mem Args Own CwP CwH CwG CwA CwB
set_option linter.unusedVariables false

/-- Two texts of the call's own: v holds zs, r holds ys. -/
structure Tw (w wr : World) (v r : Value) (zs ys : List Int) : Prop where
  ev : Own wr w.heap.size 5 .u8 v zs
  er : Own wr w.heap.size 5 .u8 r ys
  dj : v.ownBlock = none ∨ v.ownBlock ≠ r.ownBlock
  bel : Below w.heap.size w wr
section
variable {w wr w1 : World} {v v' r r' : Value} {zs zs' ys ys' : List Int}
theorem Tw.growV (h : Tw w wr v r zs ys) (ho : Own w1 w.heap.size 5 .u8 v' zs') (hg : Gr wr w1 v v') : Tw w w1 v' r zs' ys := by
  have hd : r.ownBlock = none ∨ v.ownBlock ≠ r.ownBlock := by
    rcases h.dj with e | e
    · cases hr : r.ownBlock with
      | none => exact .inl rfl
      | some g => exact .inr (by rw [e]; intro e'; cases e')
    · exact .inr e
  obtain ⟨o2, d2⟩ := hg.other h.er hd
  refine ⟨ho, o2, ?_, h.bel.trans (hg.below h.bel.size (fun g e => (h.ev.lt g e).1))⟩
  rcases d2 with e | e
  · cases hv : v'.ownBlock with
    | none => exact .inl rfl
    | some g => exact .inr (by rw [e]; intro e'; cases e')
  · exact .inr e
theorem Tw.growR (h : Tw w wr v r zs ys) (ho : Own w1 w.heap.size 5 .u8 r' ys') (hg : Gr wr w1 r r') : Tw w w1 v r' zs ys' := by
  have hd : v.ownBlock = none ∨ r.ownBlock ≠ v.ownBlock := by
    rcases h.dj with e | e
    · exact .inl e
    · exact .inr (Ne.symm e)
  obtain ⟨o2, d2⟩ := hg.other h.ev hd
  refine ⟨o2, ho, ?_, h.bel.trans (hg.below h.bel.size (fun g e => (h.er.lt g e).1))⟩
  rcases d2 with e | e
  · exact .inl e
  · exact .inr (Ne.symm e)
end
theorem nat_of (m : Int) (h0 : 0 ≤ m) (h1 : m ≤ 255) : ∃ k : Nat, m = (k : Int) ∧ k < 256 := ⟨m.toNat, by omega, by omega⟩
theorem m8 (m : Int) (h0 : 0 ≤ m) (h1 : m ≤ 255) : (bits .and .u8 m 8 != 0) = up8 m := by
  obtain ⟨k, rfl, hk⟩ := nat_of m h0 h1
  have h := u8_and_nat k 8 hk (by omega)
  rw [show ((8 : Nat) : Int) = 8 from rfl] at h
  have d : ∀ k : Nat, k < 256 → ((((k &&& 8 : Nat) : Int) != 0) = decide ((k : Int) / 8 % 2 = 1)) := by decide +kernel
  rw [h, d k hk]; rfl
theorem m64 (m : Int) (h0 : 0 ≤ m) (h1 : m ≤ 255) : (bits .and .u8 m 64 != 0) = decide (m / 64 % 2 = 1) := by
  obtain ⟨k, rfl, hk⟩ := nat_of m h0 h1
  have h := u8_and_nat k 64 hk (by omega)
  rw [show ((64 : Nat) : Int) = 64 from rfl] at h
  have d : ∀ k : Nat, k < 256 → ((((k &&& 64 : Nat) : Int) != 0) = decide ((k : Int) / 64 % 2 = 1)) := by decide +kernel
  rw [h, d k hk]
theorem m1 (x : Int) (h0 : 0 ≤ x) (h1 : x ≤ 255) : bits .and .u8 x 1 = x % 2 := by
  obtain ⟨k, rfl, hk⟩ := nat_of x h0 h1
  have h := u8_and_nat k 1 hk (by omega)
  rw [show ((1 : Nat) : Int) = 1 from rfl] at h
  have d : ∀ k : Nat, k < 256 → (((k &&& 1 : Nat) : Int) = (k : Int) % 2) := by decide +kernel
  rw [h, d k hk]
theorem m3 (x : Int) (h0 : 0 ≤ x) (h1 : x ≤ 255) : bits .and .u8 x 3 = x % 4 := by
  obtain ⟨k, rfl, hk⟩ := nat_of x h0 h1
  have h := u8_and_nat k 3 hk (by omega)
  rw [show ((3 : Nat) : Int) = 3 from rfl] at h
  have d : ∀ k : Nat, k < 256 → (((k &&& 3 : Nat) : Int) = (k : Int) % 4) := by decide +kernel
  rw [h, d k hk]
theorem m7 (x : Int) (h0 : 0 ≤ x) (h1 : x ≤ 255) : bits .and .u8 x 7 = x % 8 := by
  obtain ⟨k, rfl, hk⟩ := nat_of x h0 h1
  have h := u8_and_nat k 7 hk (by omega)
  rw [show ((7 : Nat) : Int) = 7 from rfl] at h
  have d : ∀ k : Nat, k < 256 → (((k &&& 7 : Nat) : Int) = (k : Int) % 8) := by decide +kernel
  rw [h, d k hk]
theorem utf_len (u : Int) : (utf u).length ≤ 3 := by unfold utf; split <;> (try split) <;> simp
theorem ub_len (u : Int) (up : Bool) (z : Nat) : (ub u up z).length ≤ 8 + z := by
  have := (hl_le u).2
  simp only [ub, List.length_append, List.length_replicate, hx_len, List.length_cons, List.length_nil]
  omega
theorem u4_len (u : Int) (up : Bool) : (u4 u up).length = 6 := by simp [u4, hx_len]
theorem pcE_len (u m : Int) : (pcE u m).length ≤ 12 := by
  unfold pcE
  have a := u4_len u (up8 m)
  have b := ub_len u (up8 m) 0
  have c := ub_len u (up8 m) (m / 16 % 4).toNat
  have d := utf_len u
  have e : (m / 16 % 4).toNat ≤ 3 := by omega
  repeat' split
  all_goals first | omega | (simp [hx_len]; done) | (simp; omega) | (simp [hx_len]; omega)
theorem lcE_len (m : Int) : (lcE m).length ≤ 4 := by
  unfold lcE
  repeat' split
  all_goals simp
theorem lcR_len (m : Int) : (lcR m).length ≤ 4 := by
  rcases lcR_cases m with e | e | e | e <;> simp [e]
theorem encE_len (U M : List Int) : ∀ k, (encE U M k).length ≤ 16 * k
  | 0 => by simp [encE]
  | k + 1 => by
    have h1 := encE_len U M k
    have h2 := pcE_len (U.getD k 0) (mo M k)
    have h3 := lcE_len (mo M k)
    rw [encE_succ]
    simp only [List.length_append]
    omega
theorem pcR_len (u m : Int) : (pcR u m).length ≤ 12 := by
  have := pcE_len u m
  unfold pcR
  split
  · simp
  · exact this
theorem encR_len (U M : List Int) : ∀ k, (encR U M k).length ≤ 16 * k
  | 0 => by simp [encR]
  | k + 1 => by
    have h1 := encR_len U M k
    have h2 := pcR_len (U.getD k 0) (mo M k)
    have h3 := lcR_len (mo M k)
    rw [encR_succ]
    simp only [List.length_append]
    omega
end Go.Proofs.YtalpfbbceggcaaaDoor.CwT
