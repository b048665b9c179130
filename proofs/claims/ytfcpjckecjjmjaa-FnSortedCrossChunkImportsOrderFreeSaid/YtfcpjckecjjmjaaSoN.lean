/- FnSortedCrossChunkImportsOrderFree: plain. -/
import Derived.Test.YtfcpjckecjjmjaaSoI
import Derived.Test.YtfcpjckecjjmjaaSoY
import Derived.WalkKit
import Derived.ProofKit
import Derived.OpenShut
import Derived.Below
import Derived.WalkLawsBesides
import Derived.Lib.Hide
import Derived.Outline
import Derived.RegionTactic
import Derived.Deep.QuietTactic
import Derived.BigQuiet
import Derived.WalkSpells
import Derived.Deep.OwnRows
import Derived.IntWalk
import Derived.Deep.DeepMust
namespace Go.Proofs.Ytfcpjckecjjmjaa.SoN
open Go.RowKit Go.Sort Mem Args Fvs Fxs Tab SoX SoY SoI
set_option linter.unusedVariables false

/-- The alias under which chunk c exports the reference (x, y). -/
def alF (F : Nat → Value → Option Value) (c x y : Int) : ByteArray :=
  match F c.toNat (.agg #[.int .u32 x, .int .u32 y]) with
  | some (.string a) => a
  | _ => ByteArray.empty
/-- The items of a chunk, the first i with their aliases. -/
def midR (al : Int → Int → ByteArray) (L : List (Int × Int)) (i : Nat) : Array IRow := (L.mapIdx fun q p => (if q < i then al p.1 p.2 else ByteArray.empty, p.1, p.2)).toArray
theorem midR_size (al : Int → Int → ByteArray) (L : List (Int × Int)) (i : Nat) : (midR al L i).size = L.length := by simp [midR]
theorem midR_at (al : Int → Int → ByteArray) (L : List (Int × Int)) (i q : Nat) (p : Int × Int) (h : L[q]? = some p) : (midR al L i)[q]! = (if q < i then al p.1 p.2 else ByteArray.empty, p.1, p.2) := by
  have hq : q < L.length := (List.getElem?_eq_some_iff.1 h).1
  have hp : L[q] = p := (List.getElem?_eq_some_iff.1 h).2
  rw [getElem!_pos _ q (by rw [midR_size]; exact hq)]
  simp [midR, hp]
theorem midR_step (al : Int → Int → ByteArray) (L : List (Int × Int)) (i : Nat) (p : Int × Int) (h : L[i]? = some p) (q j : Nat) (hq : q < L.length) (hj : j < 3) :
    up2 (fun q j => VI (midR al L i)[q]! j) i 0 (.string (al p.1 p.2)) q j = VI (midR al L (i + 1))[q]! j := by
  obtain ⟨p', hp'⟩ : ∃ p', L[q]? = some p' := ⟨_, List.getElem?_eq_getElem hq⟩
  show (if q = i ∧ j = 0 then Value.string (al p.1 p.2) else VI (midR al L i)[q]! j) = _
  rw [midR_at al L (i + 1) q p' hp', midR_at al L i q p' hp']
  have e : j = 0 ∨ j = 1 ∨ j = 2 := by omega
  by_cases hqi : q = i
  · subst hqi
    rw [h] at hp'
    injection hp' with hp'
    subst hp'
    rcases e with rfl | rfl | rfl <;> simp [VI]
  · have h1 : (q < i + 1) = (q < i) := by apply propext; omega
    rcases e with rfl | rfl | rfl <;> simp [VI, hqi, h1]
/-- What the sorted imports say. -/
structure Good (R : Array MRow) (D : Nat → Array IRow) (ps : List Ent) (al : Int → Int → Int → ByteArray) : Prop where
  nodup : (R.toList.map (·.2.2.2)).Nodup
  mem : ∀ c, c ∈ R.toList.map (·.2.2.2) ↔ c ∈ ps.map (·.1)
  sorted : SortedIn ltM 0 R.size R
  items : ∀ p, p < R.size → SortedIn ltI 0 (D p).size (D p) ∧ ((D p).toList.map (·.1)).Perm ((its ps R[p]!.2.2.2).map fun s => al R[p]!.2.2.2 s.1 s.2)
theorem map_at {α β : Type} [Inhabited α] [Inhabited β] (f : α → β) (A : Array α) (i : Nat) (h : i < A.size) : (A.map f)[i]! = f A[i]! := by
  rw [getElem!_pos _ i (by simpa using h), getElem!_pos A i h]; simp
theorem its_perm {ps qs : List Ent} (h : ps.Perm qs) (c : Int) : (its ps c).Perm (its qs c) := (h.filter _).map _
theorem bytes_eq {a b : ByteArray} (h : a.toList = b.toList) : a = b := by
  have h1 : a.data.toList = b.data.toList := by rw [← Lib.toList_data, ← Lib.toList_data]; exact h
  cases a; cases b
  simp only [ByteArray.mk.injEq]
  exact Array.toList_inj.1 h1
theorem same {R1 R2 : Array MRow} {D1 D2 : Nat → Array IRow} {ps qs : List Ent} {al : Int → Int → Int → ByteArray} (h1 : Good R1 D1 ps al) (h2 : Good R2 D2 qs al) (hp : ps.Perm qs) :
    R1.size = R2.size ∧ ∀ p, p < R1.size → R1[p]!.2.2.2 = R2[p]!.2.2.2 ∧ (D1 p).size = (D2 p).size ∧ (∀ q, q < (D1 p).size → ((D1 p)[q]!).1 = ((D2 p)[q]!).1) := by
  have srt : ∀ R : Array MRow, SortedIn ltM 0 R.size R → SortedIn ltInt 0 (R.map (·.2.2.2)).size (R.map (·.2.2.2)) := fun R h i j h0 hij hj => by
    have hj' : j < R.size := by simpa using hj
    rw [map_at _ _ _ hj', map_at _ _ _ (by omega)]
    exact h i j h0 hij hj'
  have e : R1.map (·.2.2.2) = R2.map (·.2.2.2) := by
    refine sorted_one swo_ltInt (fun x y h1 h2 => by simp only [ltInt, decide_eq_false_iff_not] at h1 h2; omega) _ _ ?_ (srt R1 h1.sorted) (srt R2 h2.sorted)
    rw [Array.toList_map, Array.toList_map]
    exact (List.perm_ext_iff_of_nodup h2.nodup h1.nodup).2 (fun c => by rw [h2.mem, h1.mem]; exact (hp.map _).mem_iff.symm)
  have hs : R1.size = R2.size := by have := congrArg Array.size e; simpa using this
  refine ⟨hs, fun p hp1 => ?_⟩
  have hc : R1[p]!.2.2.2 = R2[p]!.2.2.2 := by rw [← map_at (·.2.2.2) R1 p hp1, ← map_at (·.2.2.2) R2 p (by omega), e]
  obtain ⟨s1, q1⟩ := h1.items p hp1
  obtain ⟨s2, q2⟩ := h2.items p (by omega)
  have srI : ∀ D : Array IRow, SortedIn ltI 0 D.size D → SortedIn ltStr 0 (D.map (·.1.toList)).size (D.map (·.1.toList)) := fun D h i j h0 hij hj => by
    have hj' : j < D.size := by simpa using hj
    rw [map_at _ _ _ hj', map_at _ _ _ (by omega)]
    have := h i j h0 hij hj'
    unfold ltI at this
    rw [bytesLess_eq] at this
    exact this
  have e2 : (D1 p).map (·.1.toList) = (D2 p).map (·.1.toList) := by
    refine sorted_one swo_ltStr (fun x y h1 h2 => by simp only [ltStr, decide_eq_false_iff_not, List.not_lt] at h1 h2; exact List.le_antisymm h2 h1) _ _ ?_ (srI _ s1) (srI _ s2)
    rw [Array.toList_map, Array.toList_map]
    have r : ((D2 p).toList.map (·.1)).Perm ((D1 p).toList.map (·.1)) := by
      refine q2.trans (List.Perm.trans ?_ q1.symm)
      rw [hc]
      exact ((its_perm hp _).map _).symm
    have := r.map ByteArray.toList
    rw [List.map_map, List.map_map] at this
    exact this
  have hz : (D1 p).size = (D2 p).size := by have := congrArg Array.size e2; simpa using this
  refine ⟨hc, hz, fun q hq => bytes_eq ?_⟩
  rw [← map_at (·.1.toList) (D1 p) q hq, ← map_at (·.1.toList) (D2 p) q (by omega), e2]
theorem Good.rising {R : Array MRow} {D : Nat → Array IRow} {ps : List Ent} {al : Int → Int → Int → ByteArray} (h : Good R D ps al) (p : Nat) (hp : p < R.size) (h0 : 0 < p) : R[p - 1]!.2.2.2 < R[p]!.2.2.2 := by
  have hle := h.sorted (p - 1) p (Nat.zero_le _) (by omega) hp
  simp only [ltM, decide_eq_false_iff_not] at hle
  have hne : R[p - 1]!.2.2.2 ≠ R[p]!.2.2.2 := by
    intro e
    have h1 : (R.toList.map (·.2.2.2))[p - 1]? = some R[p - 1]!.2.2.2 := by
      rw [List.getElem?_map, Array.getElem?_toList, Array.getElem?_eq_getElem (by omega), getElem!_pos R (p - 1) (by omega)]; rfl
    have h2 : (R.toList.map (·.2.2.2))[p]? = some R[p]!.2.2.2 := by
      rw [List.getElem?_map, Array.getElem?_toList, Array.getElem?_eq_getElem hp, getElem!_pos R p hp]; rfl
    have := (List.getElem?_inj (by simp; omega) h.nodup).1 (h1.trans ((congrArg some e).trans h2.symm))
    omega
  omega
theorem ents_perm (n : Nat) (f r1 r2 : Nat → Int) : (ents false n f r1 r2 n).Perm (ents true n f r1 r2 n) := by
  have e : ents true n f r1 r2 n = ((List.range n).map (fun t => n - 1 - t)).map (ent false n f r1 r2) := by
    unfold ents
    rw [List.map_map]
    refine List.map_congr_left (fun t _ => ?_)
    simp [ent]
  have r : (List.range n).map (fun t => n - 1 - t) = (List.range n).reverse := by
    refine List.ext_getElem (by simp) (fun i h1 h2 => ?_)
    simp
  rw [e, r]
  unfold ents
  exact ((List.reverse_perm (List.range n)).map _).symm
end Go.Proofs.Ytfcpjckecjjmjaa.SoN
