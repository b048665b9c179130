/- FnPrintIdentifierUTF16AgreesWithPrintIdentifier: QuoteIdentifier. -/
import Derived.Test.YtdplbdfaeighlabFmtRows
import Derived.Test.YtdplbdfaeighlabFmtMem
import Derived.Test.YtdplbdfaeighlabFmtSl
import Derived.Test.YtdplbdfaeighlabFmtPiE
import Derived.Great.BuildSlice
import Derived.Deep.RegionLaw
import Derived.Deep.RegionHeld3
import Derived.Laws.RangeString
import Derived.Laws.RangeAny
import Derived.WalkKit
import Derived.ProofKit
import Derived.OpenShut
import Derived.Below
import Derived.WalkLawsBesides
import Derived.Lib.Hide
import Derived.Outline
import Derived.RegionTactic
import Derived.Deep.QuietTactic
import Derived.BigQuiet
import Derived.WalkSpells
import Derived.Deep.OwnRows
import Derived.IntWalk
import Derived.Deep.DeepMust
namespace Go.Proofs.YtdplbdfaeighlabFmt.PiF
open Go.RowKit Mem Sl
set_option linter.unusedVariables false
open Prn Pru Own Owg Args PiA PiB PiC PiD PiE

/-- Where the k-th code point begins. -/
def pos (U : List Int) (k : Nat) : Nat := (bytes8 (U.take k)).length
def txt (U : List Int) : ByteArray := Str.bytesOf (bytes8 U)
theorem take_snoc (U : List Int) (k : Nat) (h : k < U.length) : U.take (k + 1) = U.take k ++ [U.getD k 0] := by
  have e : U[k]? = some (U.getD k 0) := by simp [List.getD, h]
  rw [List.take_add_one, e]
  rfl
theorem pos_zero (U : List Int) : pos U 0 = 0 := by simp [pos, bytes8]
theorem pos_succ (U : List Int) (k : Nat) (h : k < U.length) : pos U (k + 1) = pos U k + (enc8 (U.getD k 0)).length := by
  unfold pos
  rw [take_snoc U k h, bytes8_snoc, List.length_append]
theorem txt_size (U : List Int) : (txt U).size = pos U U.length := by
  unfold txt pos
  rw [Str.bytesOf_size, List.take_length]
theorem bytes8_split (U : List Int) (k : Nat) : bytes8 U = bytes8 (U.take k) ++ bytes8 (U.drop k) := by rw [← bytes8_append, List.take_append_drop]
theorem pos_le (U : List Int) (k : Nat) : pos U k ≤ (txt U).size := by
  have := congrArg List.length (bytes8_split U k)
  rw [List.length_append] at this
  unfold txt pos
  rw [Str.bytesOf_size]
  omega
theorem pos_lt (U : List Int) (k : Nat) (h : k < U.length) : pos U k < (txt U).size := by
  have h1 := pos_succ U k h
  have h2 := pos_le U (k + 1)
  have h3 := (enc8_len (U.getD k 0)).1
  omega
theorem pos_mono (U : List Int) {m k : Nat} (h : m ≤ k) : pos U m ≤ pos U k := by
  unfold pos
  have e : U.take m = (U.take k).take m := by rw [List.take_take, Nat.min_eq_left h]
  have := congrArg List.length (bytes8_split (U.take k) m)
  rw [List.length_append] at this
  rw [e]
  omega
theorem txt_dec (U : List Int) (hs : ∀ z ∈ U, Scalar z) (k : Nat) (h : k < U.length) (hc : U.getD k 0 ≤ 65535) : Utf8.decode (txt U) (pos U k) = ((U.getD k 0).toNat, (enc8 (U.getD k 0)).length) := by
  have e : bytes8 U = bytes8 (U.take k) ++ enc8 (U.getD k 0) ++ bytes8 (U.drop (k + 1)) := by
    rw [← bytes8_snoc, ← take_snoc U k h]
    exact bytes8_split U (k + 1)
  have hm : U.getD k 0 ∈ U := by simp [List.getD, h]
  have hw := bytes8_wf hs
  unfold txt pos
  rw [e] at hw ⊢
  exact dec_enc _ _ _ (hs _ hm) hc hw
theorem txt_nums (U : List Int) (hs : ∀ z ∈ U, Scalar z) : nums (txt U) = bytes8 U := Str.nums_bytesOf _ (bytes8_wf hs)
theorem nums_extract (t : ByteArray) (a b : Nat) : nums (t.extract a b) = ((nums t).drop a).take (b - a) := by
  unfold nums
  simp [List.map_take, List.map_drop]
/-- The code points from m up to k are printable ASCII. -/
def Low (U : List Int) (m k : Nat) : Prop := ∀ j, m ≤ j → j < k → U.getD j 0 ≤ 126
theorem low_out : ∀ (M : List Int), (∀ z ∈ M, z ≤ 126) → outA true M = bytes8 M := by
  intro M
  induction M with
  | nil => intro _; rfl
  | cons c t ih =>
    intro h
    have h1 := ih (fun z hz => h z (by simp [hz]))
    have h2 := one_low c (h c (by simp))
    simp only [outA, bytes8, List.flatMap_cons] at h1 ⊢
    rw [h1, h2]
theorem run_out (U : List Int) (hs : ∀ z ∈ U, Scalar z) {m k : Nat} (hm : m ≤ k) (hk : k ≤ U.length) (hl : Low U m k) : outA true (U.take k) = outA true (U.take m) ++ nums ((txt U).extract (pos U m) (pos U k)) := by
  have e0 : U.take k = U.take m ++ (U.take k).drop m := by
    conv => lhs; rw [← List.take_append_drop m (U.take k)]
    rw [List.take_take, Nat.min_eq_left hm]
  have e1 : outA true (U.take k) = outA true (U.take m) ++ outA true ((U.take k).drop m) := by
    conv => lhs; rw [e0]
    simp [outA]
  have e2 : ∀ z ∈ (U.take k).drop m, z ≤ 126 := by
    intro z hz
    obtain ⟨i, hi, rfl⟩ := List.mem_iff_getElem.1 hz
    simp only [List.length_drop, List.length_take] at hi
    have h1 : m + i < U.length := by omega
    have := hl (m + i) (by omega) (by omega)
    simp only [List.getD, List.getElem?_eq_getElem h1, Option.getD_some] at this
    simpa using this
  have e3 : bytes8 U = bytes8 (U.take m) ++ (bytes8 ((U.take k).drop m) ++ bytes8 (U.drop k)) := by
    rw [← List.append_assoc, ← bytes8_append, ← e0]
    exact bytes8_split U k
  have e4 : pos U k = pos U m + (bytes8 ((U.take k).drop m)).length := by
    unfold pos
    conv => lhs; rw [e0]
    rw [bytes8_append, List.length_append]
  rw [e1, nums_extract, txt_nums U hs, low_out _ e2, e4, Nat.add_sub_cancel_left]
  congr 1
  rw [e3]
  unfold pos
  rw [List.drop_left, List.take_left]
theorem Low.next {U : List Int} {m k : Nat} (h : Low U m k) (hc : U.getD k 0 ≤ 126) : Low U m (k + 1) := by
  intro j h1 h2
  by_cases e : j = k
  · subst e; exact hc
  · exact h j h1 (by omega)
/-- A buffer of the call's own. -/
def BufB (w : World) (B : Nat) (v : Value) (zs : List Int) : Prop := Buf w 5 v zs ∧ ∀ g, v.ownBlock = some g → B ≤ g
theorem BufB.step {w w' : World} {B : Nat} {v v' : Value} {zs zs' : List Int} (h : BufB w B v zs) (hB : B ≤ w.heap.size) (hb : Buf w' 5 v' zs') (hg : w.grownBy w' v.ownBlock) (ha : v'.ownBlock = v.ownBlock ∨ v'.ownBlock = some w.heap.size) : BufB w' B v' zs' ∧ Below B w w' := by
  refine ⟨⟨hb, fun g e => ?_⟩, grown_below' hg (fun g e => h.2 g e) hB⟩
  rcases ha with ha | ha
  · exact h.2 g (ha ▸ e)
  · rw [ha] at e; injection e with e; omega
/-- Inside the range over the text: the iterator in block b at pos k, the text printed up to m. -/
structure In (w : World) (B b : Nat) (U : List Int) (k m : Nat) (v : Value) (wr : World) : Prop where
  it : wr.heap[b]? = some (.stringIter (txt U) (pos U k))
  buf : BufB wr B v (outA true (U.take m))
  bel : Below B w wr
  low : Low U m k
  mle : m ≤ k
  kn : k ≤ U.length
  bB : B ≤ b
theorem buf_iter {w : World} {v : Value} {zs : List Int} {b : Nat} {t : ByteArray} {j : Nat} (h : Buf w 5 v zs) (hi : w.heap[b]? = some (.stringIter t j)) : v.ownBlock ≠ some b := by
  rcases h.2 with ⟨rfl, _⟩ | ⟨g, cap, cur, rfl, _, hh, _⟩
  · simp [Value.ownBlock]
  · intro he
    have : g = b := by simpa [Value.ownBlock] using he
    subst this
    rw [hi] at hh
    cases hh
theorem In.next {w wr w' : World} {B b : Nat} {U : List Int} {k m : Nat} {v : Value} (h : In w B b U k m v wr) (hk : k < U.length) (hi : w'.heap[b]? = some (.stringIter (txt U) (pos U k + (enc8 (U.getD k 0)).length))) (hg : wr.grownBy w' (some b)) (hB : B ≤ w.heap.size) :
    w'.heap[b]? = some (.stringIter (txt U) (pos U (k + 1))) ∧ BufB w' B v (outA true (U.take m)) ∧ Below B w w' := by
  refine ⟨by rw [pos_succ U k hk]; exact hi, ⟨buf_other h.buf.1 hg (buf_iter h.buf.1 h.it), h.buf.2⟩, h.bel.trans (grown_below' hg (fun g e => ?_) (Nat.le_trans hB h.bel.size))⟩
  injection e with e
  have := h.bB
  omega
end Go.Proofs.YtdplbdfaeighlabFmt.PiF
