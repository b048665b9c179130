/- Which symbols have appeared, in which order, with what sum: plain. -/
import Derived.Test.YtidcbknnjpecbaaMem
namespace Go.Proofs.Ytidcbknnjpecbaa.AtP
open Go.RowKit
def up {α : Type} (f : Nat → α) (i : Nat) (x : α) : Nat → α := fun j => if j = i then x else f j
theorem up_self {α : Type} (f : Nat → α) (i : Nat) (x : α) : up f i x i = x := if_pos rfl
theorem up_ne {α : Type} (f : Nat → α) {i j : Nat} (x : α) (h : j ≠ i) : up f i x j = f j := if_neg h
theorem up_same {α : Type} (f : Nat → α) (i : Nat) : up f i (f i) = f := by
  funext j
  unfold up
  split
  · rename_i e; rw [e]
  · rfl
structure Md where
  fst : Nat → Int
  sum : Nat → Int
  o : Nat → List Nat
def Md.zero : Md := ⟨fun _ => -1, fun _ => 0, fun _ => []⟩
def Md.step (ns : Nat → Nat) (m : Md) (t i : Nat) (c : Int) : Md :=
  ⟨up m.fst i (if m.fst i < 0 then (t : Int) else m.fst i), up m.sum i ((m.sum i + c) % 4294967296), if m.fst i < 0 then up m.o (ns i) (m.o (ns i) ++ [i]) else m.o⟩
def md (ns : Nat → Nat) (I : Nat → Nat) (c : Nat → Int) : Nat → Md
  | 0 => Md.zero
  | t + 1 => (md ns I c t).step ns t (I t) (c t)
structure Good (ns : Nat → Nat) (n t : Nat) (m : Md) : Prop where
  neg : ∀ i, m.fst i < 0 → m.fst i = -1 ∧ m.sum i = 0
  lt : ∀ i, m.fst i < t
  mem : ∀ i, i ∈ m.o (ns i) ↔ 0 ≤ m.fst i
  own : ∀ s i, i ∈ m.o s → ns i = s ∧ i < n
  nodup : ∀ s, (m.o s).Nodup
  inc : ∀ s, (m.o s).Pairwise (fun a b => m.fst a < m.fst b)
  u32 : ∀ i, 0 ≤ m.sum i ∧ m.sum i < 4294967296
  len : ∀ s, (m.o s).length ≤ t
theorem good_zero (ns : Nat → Nat) (n : Nat) : Good ns n 0 Md.zero :=
  ⟨fun i _ => ⟨rfl, rfl⟩, fun i => by show (-1 : Int) < 0; omega, fun i => by simp [Md.zero], fun s i h => by simp [Md.zero] at h, fun s => by simp [Md.zero], fun s => by simp [Md.zero], fun i => by simp [Md.zero], fun s => by simp [Md.zero]⟩
theorem Good.step {ns : Nat → Nat} {n t : Nat} {m : Md} (h : Good ns n t m) (i : Nat) (c : Int) (hi : i < n) : Good ns n (t + 1) (m.step ns t i c) := by
  have hsum : ∀ j, 0 ≤ up m.sum i ((m.sum i + c) % 4294967296) j ∧ up m.sum i ((m.sum i + c) % 4294967296) j < 4294967296 := by
    intro j
    unfold up
    split
    · omega
    · exact h.u32 j
  by_cases hneg : m.fst i < 0
  · have e1 : m.step ns t i c = ⟨up m.fst i (t : Int), up m.sum i ((m.sum i + c) % 4294967296), up m.o (ns i) (m.o (ns i) ++ [i])⟩ := by unfold Md.step; rw [if_pos hneg, if_pos hneg]
    rw [e1]
    have hni : i ∉ m.o (ns i) := fun hm => by have := (h.mem i).1 hm; omega
    refine ⟨?_, ?_, ?_, ?_, ?_, ?_, hsum, ?_⟩
    · intro j hj
      by_cases e : j = i
      · subst e; simp only [up_self] at hj; omega
      · simp only [up_ne _ _ e] at hj ⊢; exact h.neg j hj
    · intro j
      by_cases e : j = i
      · subst e; simp only [up_self]; omega
      · simp only [up_ne _ _ e]; have := h.lt j; omega
    · intro j
      by_cases e : j = i
      · subst e; simp [up_self]
      · simp only [up_ne _ _ e]
        rw [← h.mem j]
        by_cases es : ns j = ns i
        · rw [es, up_self]; simp [e]
        · rw [up_ne _ _ es]
    · intro s j hj
      by_cases es : s = ns i
      · subst es
        simp only [up_self, List.mem_append, List.mem_singleton] at hj
        rcases hj with hj | rfl
        · exact h.own _ j hj
        · exact ⟨rfl, hi⟩
      · simp only [up_ne _ _ es] at hj; exact h.own s j hj
    · intro s
      by_cases es : s = ns i
      · subst es
        simp only [up_self]
        refine List.nodup_append.2 ⟨h.nodup _, by simp, ?_⟩
        intro a ha b hb e
        simp at hb
        subst hb e
        exact hni ha
      · simp only [up_ne _ _ es]; exact h.nodup s
    · intro s
      have hold : ∀ l : List Nat, i ∉ l → l.Pairwise (fun a b => m.fst a < m.fst b) → l.Pairwise (fun a b => up m.fst i (t : Int) a < up m.fst i (t : Int) b) := by
        intro l hl hp
        refine hp.imp_of_mem ?_
        intro a b ha hb hab
        rw [up_ne _ _ (fun e => hl (by rw [← e]; exact ha)), up_ne _ _ (fun e => hl (by rw [← e]; exact hb))]
        exact hab
      by_cases es : s = ns i
      · subst es
        simp only [up_self]
        refine List.pairwise_append.2 ⟨hold _ hni (h.inc _), by simp, ?_⟩
        intro a ha b hb
        simp at hb
        subst hb
        rw [up_self, up_ne _ _ (fun e => hni (by have h9 := ha; rw [e] at h9; exact h9))]
        exact h.lt a
      · simp only [up_ne _ _ es]
        exact hold _ (fun hm => es ((h.own s i hm).1).symm) (h.inc s)
    · intro s
      by_cases es : s = ns i
      · subst es
        simp only [up_self, List.length_append, List.length_singleton]
        have := h.len (ns i)
        omega
      · simp only [up_ne _ _ es]; have := h.len s; omega
  · have e1 : m.step ns t i c = ⟨m.fst, up m.sum i ((m.sum i + c) % 4294967296), m.o⟩ := by unfold Md.step; rw [if_neg hneg, if_neg hneg, up_same]
    rw [e1]
    refine ⟨?_, fun j => by have := h.lt j; show m.fst j < ((t + 1 : Nat) : Int); omega, h.mem, h.own, h.nodup, h.inc, hsum, fun s => by have := h.len s; show (m.o s).length ≤ t + 1; omega⟩
    intro j hj
    have e : j ≠ i := by rintro rfl; exact hneg hj
    simp only [up_ne _ _ e]
    exact h.neg j hj
theorem good_md (ns : Nat → Nat) (I : Nat → Nat) (c : Nat → Int) (n : Nat) (hI : ∀ t, I t < n) : ∀ t, Good ns n t (md ns I c t)
  | 0 => good_zero ns n
  | t + 1 => (good_md ns I c n hI t).step (I t) (c t) (hI t)
/-- The slots of a namespace: its first ones empty, then one a symbol. -/
def slotsL (init : Nat) (cap : Nat → Int) (sum : Nat → Int) (o : List Nat) : List (Int × Int) := List.replicate init (0, 0) ++ o.map fun i => (sum i, cap i)
theorem slotsL_len (init : Nat) (cap sum : Nat → Int) (o : List Nat) : (slotsL init cap sum o).length = init + o.length := by simp [slotsL]
theorem slotsL_init {init : Nat} {cap sum : Nat → Int} {o : List Nat} {k : Nat} (h : k < init) : (slotsL init cap sum o)[k]? = some (0, 0) := by
  unfold slotsL
  rw [List.getElem?_append_left (by simpa using h)]
  simp [h]
theorem slotsL_at {init : Nat} {cap sum : Nat → Int} {o : List Nat} {p i : Nat} (h : o[p]? = some i) : (slotsL init cap sum o)[init + p]? = some (sum i, cap i) := by
  unfold slotsL
  rw [List.getElem?_append_right (by simp)]
  simp [h]
theorem slotsL_new {init : Nat} {cap sum : Nat → Int} {o : List Nat} {i : Nat} (h : i ∉ o) (x : Int) : slotsL init cap (up sum i x) (o ++ [i]) = slotsL init cap sum o ++ [(x, cap i)] := by
  unfold slotsL
  rw [List.map_append, List.append_assoc]
  congr 2
  · apply List.map_congr_left
    intro a ha
    rw [up_ne _ _ (fun e => h (by rw [← e]; exact ha))]
  · simp [up_self]
theorem slotsL_set {init : Nat} {cap sum : Nat → Int} {o : List Nat} {p i : Nat} (hn : o.Nodup) (h : o[p]? = some i) (x : Int) : slotsL init cap (up sum i x) o = (slotsL init cap sum o).set (init + p) (x, cap i) := by
  have hp : p < o.length := (List.getElem?_eq_some_iff.1 h).1
  apply List.ext_getElem?
  intro k
  by_cases hk : k < init
  · rw [slotsL_init hk, List.getElem?_set_ne (by omega), slotsL_init hk]
  · obtain ⟨q, rfl⟩ : ∃ q, k = init + q := ⟨k - init, by omega⟩
    by_cases hq : q < o.length
    · have hqo : o[q]? = some o[q] := by simp [hq]
      rw [slotsL_at hqo]
      by_cases e : q = p
      · subst e
        have : o[q] = i := by rw [hqo] at h; exact Option.some.inj h
        rw [List.getElem?_set_self (by rw [slotsL_len]; omega), this, up_self]
      · rw [List.getElem?_set_ne (by omega), slotsL_at hqo, up_ne]
        intro e'
        exact e ((List.getElem?_inj hq hn).1 (by rw [hqo, h, e']))
    · rw [List.getElem?_eq_none (by rw [slotsL_len]; omega), List.getElem?_eq_none (by rw [List.length_set, slotsL_len]; omega)]
theorem slotsL_other {init : Nat} {cap sum : Nat → Int} {o : List Nat} {i : Nat} (h : i ∉ o) (x : Int) : slotsL init cap (up sum i x) o = slotsL init cap sum o := by
  unfold slotsL
  congr 1
  apply List.map_congr_left
  intro a ha
  rw [up_ne _ _ (fun e => h (by rw [← e]; exact ha))]
/-- Where a symbol stands. -/
theorem pos_of {o : List Nat} {i : Nat} (h : i ∈ o) : ∃ p, o[p]? = some i ∧ p < o.length := by
  obtain ⟨p, hp, e⟩ := List.mem_iff_getElem.1 h
  exact ⟨p, by simp [hp, e], hp⟩
/-- How many of the first i symbols have appeared. -/
def below (o : List Nat) (i : Nat) : Nat := o.countP (fun j => decide (j < i))
theorem below_zero (o : List Nat) : below o 0 = 0 := by simp [below]
theorem below_all {o : List Nat} {n : Nat} (h : ∀ i ∈ o, i < n) : below o n = o.length := by
  unfold below
  rw [List.countP_eq_length]
  intro a ha
  simpa using h a ha
theorem below_skip {o : List Nat} {i : Nat} (h : i ∉ o) : below o (i + 1) = below o i := by
  unfold below
  apply List.countP_congr
  intro a ha
  have : a ≠ i := fun e => h (by rw [← e]; exact ha)
  simp only [decide_eq_true_eq]
  omega
theorem below_hit : ∀ {o : List Nat} {i : Nat}, o.Nodup → i ∈ o → below o (i + 1) = below o i + 1
  | a :: t, i, hn, hi => by
    have hn' := List.nodup_cons.1 hn
    simp only [below, List.countP_cons]
    by_cases e : a = i
    · subst e
      have := below_skip hn'.1
      unfold below at this
      rw [this]
      simp
    · have hit : i ∈ t := by simpa [Ne.symm e] using hi
      have := below_hit hn'.2 hit
      unfold below at this
      rw [this]
      have : decide (a < i + 1) = decide (a < i) := by simp; omega
      rw [this]
      omega
theorem below_le (o : List Nat) (i : Nat) : below o i ≤ o.length := List.countP_le_length
end Go.Proofs.Ytidcbknnjpecbaa.AtP
