/- ASCII identifiers of CSS: which bytes want a backslash; the text with its backslashes. Plain. -/
import Derived.WalkKit
import Derived.Lib.Hide
namespace Go.Proofs.YtmhiekokjogkhaaFmt.Idn

def letB (c : Int) : Bool := (decide (97 ≤ c) && decide (c ≤ 122)) || (decide (65 ≤ c) && decide (c ≤ 90))
def digB (c : Int) : Bool := decide (48 ≤ c) && decide (c ≤ 57)
def nameB (c : Int) : Bool := letB c || digB c || c == 95 || c == 45
/-- Does the text zs begin an identifier? -/
def startB (zs : List Int) : Bool := match zs with
  | [] => false
  | c :: r => letB c || c == 95 || (c == 45 && (match r with | [] => false | d :: _ => letB d || d == 95 || d == 45))
def escB (st : Bool) (zs : List Int) (k : Nat) : Bool := !nameB (zs.getD k 0) || (k == 0 && !st)
/-- The output for the first k bytes. -/
def outK (st : Bool) (zs : List Int) : Nat → List Int
  | 0 => []
  | k + 1 => outK st zs k ++ ((if escB st zs k then [92] else []) ++ [zs.getD k 0])
theorem outK_len (st : Bool) (zs : List Int) : ∀ k, (outK st zs k).length ≤ 2 * k
  | 0 => by simp [outK]
  | k + 1 => by
    have := outK_len st zs k
    simp only [outK, List.length_append]
    split <;> simp <;> omega
theorem outK_esc {st : Bool} {zs : List Int} {k : Nat} (h : escB st zs k = true) : outK st zs (k + 1) = outK st zs k ++ [92] ++ [zs.getD k 0] := by
  simp [outK, h]
theorem outK_plain {st : Bool} {zs : List Int} {k : Nat} (h : escB st zs k = false) : outK st zs (k + 1) = outK st zs k ++ [zs.getD k 0] := by
  simp [outK, h]
theorem outK_all (zs : List Int) : ∀ k, k ≤ zs.length → (∀ j, j < k → nameB (zs.getD j 0) = true) → outK true zs k = zs.take k
  | 0, _, _ => by simp [outK]
  | k + 1, hk, h => by
    rw [outK_plain (by unfold escB; rw [h k (by omega)]; simp), outK_all zs k (by omega) (fun j hj => h j (by omega)), List.take_succ_eq_append_getElem (by omega)]
    simp [List.getD, show k < zs.length by omega]
theorem startB_cons0 (zs : List Int) (h : zs.length = 0) : startB zs = false := by
  rw [List.eq_nil_of_length_eq_zero h]; rfl
theorem startB_one (zs : List Int) (h : zs.length = 1) : startB zs = (letB (zs.getD 0 0) || zs.getD 0 0 == 95) := by
  match zs, h with
  | [c], _ => simp [startB]
theorem startB_more (zs : List Int) (h : 1 < zs.length) : startB zs = (letB (zs.getD 0 0) || zs.getD 0 0 == 95 || (zs.getD 0 0 == 45 && (letB (zs.getD 1 0) || zs.getD 1 0 == 95 || zs.getD 1 0 == 45))) := by
  match zs, h with
  | c :: d :: r, _ => simp [startB]
theorem startB_ne {zs : List Int} (h : startB zs = true) : 0 < zs.length := by
  match zs, h with
  | c :: r, _ => simp
end Go.Proofs.YtmhiekokjogkhaaFmt.Idn
