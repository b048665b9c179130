/- Semver: where the parser stands in the text. Plain. -/
import Derived.Test.YtpagdibnhdfbfadDoorRows
import Derived.Test.YtpagdibnhdfbfadDoorMem
import Derived.Test.YtpagdibnhdfbfadDoorSl
import Derived.Test.YtpagdibnhdfbfadDoorSeA
import Derived.WalkKit
import Derived.ProofKit
import Derived.OpenShut
import Derived.Below
import Derived.WalkLawsBesides
import Derived.Lib.Hide
import Derived.Outline
import Derived.RegionTactic
import Derived.Deep.QuietTactic
import Derived.BigQuiet
import Derived.WalkSpells
import Derived.Deep.OwnRows
import Derived.IntWalk
import Derived.Deep.DeepMust
namespace Go.Proofs.YtpagdibnhdfbfadDoor.SeB
open Go.RowKit Mem Sl
set_option linter.unusedVariables false
open Occ Smv Go.Lib

/-- The parser stands at i, at the head of part k. -/
def St (s : ByteArray) (pre : List UInt8) (ps : List Nat) (i k : Nat) : Prop := k < ps.length ∧ s.data.toList.drop i = jn (ps.drop k) ++ pre
theorem at_of (s : ByteArray) (i : Nat) (c : UInt8) (h : s.data.toList[i]? = some c) : ∃ hi : i < s.size, s[i] = c := by
  obtain ⟨h1, h2⟩ := List.getElem?_eq_some_iff.1 h
  refine ⟨by simpa using h1, ?_⟩
  rw [← h2]
  rfl
theorem st_eq {s : ByteArray} {pre : List UInt8} {ps : List Nat} {i k : Nat} (h : St s pre ps i k) (hk : k < ps.length) : s.data.toList.drop i = decDigits ps[k] ++ ((if k + 1 = ps.length then [] else 46 :: jn (ps.drop (k + 1))) ++ pre) := by
  rw [h.2, jn_drop ps k hk, List.append_assoc]
theorem st_dig {s : ByteArray} {pre : List UInt8} {ps : List Nat} {i k p : Nat} (h : St s pre ps i k) (hp : ps[k]? = some p) (j : Nat) (hj : j < (decDigits p).length) :
    ∃ hi : i + j < s.size, s[i + j] = (decDigits p)[j] ∧ 48 ≤ ((decDigits p)[j]).toNat ∧ ((decDigits p)[j]).toNat ≤ 57 := by
  obtain ⟨hk, rfl⟩ := List.getElem?_eq_some_iff.1 hp
  have e := st_eq h hk
  have e1 : s.data.toList[i + j]? = some (decDigits ps[k])[j] := by
    rw [← List.getElem?_drop, e, List.getElem?_append_left hj]
    simp
  obtain ⟨hi, h2⟩ := at_of s _ _ e1
  have hd := dec_digit ps[k] _ (List.getElem_mem hj)
  simp [isDig] at hd
  exact ⟨hi, h2, hd.1, hd.2⟩
theorem st_more {s : ByteArray} {pre : List UInt8} {ps : List Nat} {i k p : Nat} (h : St s pre ps i k) (hp : ps[k]? = some p) (hk1 : k + 1 ≠ ps.length) :
    (∃ hi : i + (decDigits p).length < s.size, s[i + (decDigits p).length] = 46) ∧ St s pre ps (i + (decDigits p).length + 1) (k + 1) := by
  obtain ⟨hk, rfl⟩ := List.getElem?_eq_some_iff.1 hp
  have e := st_eq h hk
  rw [if_neg hk1] at e
  have e1 : s.data.toList[i + (decDigits ps[k]).length]? = some 46 := by
    rw [← List.getElem?_drop, e, List.getElem?_append_right (Nat.le_refl _)]
    simp
  refine ⟨at_of s _ _ e1, by omega, ?_⟩
  have e2 := congrArg (List.drop ((decDigits ps[k]).length + 1)) e
  rw [List.drop_drop] at e2
  rw [show i + (decDigits ps[k]).length + 1 = i + ((decDigits ps[k]).length + 1) by omega, e2, ← List.drop_drop, List.drop_left]
  simp
theorem st_last {s : ByteArray} {pre : List UInt8} {ps : List Nat} {i k p : Nat} (h : St s pre ps i k) (hp : ps[k]? = some p) (hk1 : k + 1 = ps.length) : s.data.toList.drop (i + (decDigits p).length) = pre := by
  obtain ⟨hk, rfl⟩ := List.getElem?_eq_some_iff.1 hp
  have e := st_eq h hk
  rw [if_pos hk1] at e
  have e2 := congrArg (List.drop (decDigits ps[k]).length) e
  rw [List.drop_drop] at e2
  rw [e2, List.drop_left]
  simp
theorem rest_head {s : ByteArray} {pre : List UInt8} {i : Nat} (h : s.data.toList.drop i = pre) (hp : Pre pre) (hi : i < s.size) : (s[i]).toNat = 45 := by
  have hl : i < s.data.toList.length := by simpa using hi
  rw [List.drop_eq_getElem_cons hl] at h
  have := hp _ _ h.symm
  rw [← this]
  rfl
theorem rest_str {s p : ByteArray} {i : Nat} (h : s.data.toList.drop i = p.data.toList) : s.extract i s.size = p := by
  apply ByteArray.ext
  apply Array.ext'
  rw [← h]
  simp [ByteArray.data_extract]
  exact List.take_of_length_le (by simp)
theorem rest_le {s : ByteArray} {pre : List UInt8} {ps : List Nat} {i k p : Nat} (h : St s pre ps i k) (hp : ps[k]? = some p) : i + (decDigits p).length ≤ s.size := by
  have hpos := List.length_pos_iff.2 (dec_ne p)
  obtain ⟨hi, -⟩ := st_dig h hp ((decDigits p).length - 1) (by omega)
  omega
end Go.Proofs.YtpagdibnhdfbfadDoor.SeB
