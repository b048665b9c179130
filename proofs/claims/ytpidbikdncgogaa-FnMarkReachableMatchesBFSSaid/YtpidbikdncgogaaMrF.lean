/- FnMarkReachableMatchesBFS: the argument opened. -/
import Derived.Test.YtpidbikdncgogaaRows
import Derived.Test.YtpidbikdncgogaaMem
import Derived.Test.YtpidbikdncgogaaSl
import Derived.Test.YtpidbikdncgogaaMrI
import Derived.Test.YtpidbikdncgogaaArgs
import Derived.Test.YtpidbikdncgogaaArgn
import Derived.Test.YtpidbikdncgogaaMrL
import Derived.Deep.Slices
import Derived.WalkKit
import Derived.ProofKit
import Derived.OpenShut
import Derived.Below
import Derived.WalkLawsBesides
import Derived.Lib.Hide
import Derived.Outline
import Derived.RegionTactic
import Derived.Deep.QuietTactic
import Derived.BigQuiet
import Derived.WalkSpells
import Derived.Deep.OwnRows
import Derived.IntWalk
import Derived.Deep.DeepMust
namespace Go.Proofs.Ytpidbikdncgogaa.MrF
open Go.RowKit Mem Sl
set_option linter.unusedVariables false
open Args Argn MrI Go.Deep Go.ChangeShapes Go.WideShapes Go.ChangeAt

abbrev S4 := Option Addr × Nat × Nat × (Nat → Nat → Value)
instance : Inhabited S4 := ⟨(none, 0, 0, fun _ _ => undef)⟩
section
variable {H : Type} {enc : TypeId × Value → H} {w : World} {v : Value}
def TR (enc : TypeId × Value → H) (w : World) (t : TypeId) (v : Value) : Prop := ∃ k y, DataW.trod enc Try.prog w 0 (fun _ => true) true k t [v] = some y
theorem op_i32 (h : TR enc w 21 v) : ∃ z, v = .int .i32 z ∧ (Lit.int .i32 z).wf = true := by
  obtain ⟨k, y, h⟩ := h
  exact open_int_in Try.underlying21 h
theorem op_u32 (h : TR enc w 23 v) : ∃ z, v = .int .u32 z ∧ (Lit.int .u32 z).wf = true := by
  obtain ⟨k, y, h⟩ := h
  exact open_int_in Try.underlying23 h
theorem op_u8 (h : TR enc w 5 v) : ∃ z, v = .int .u8 z ∧ (Lit.int .u8 z).wf = true := by
  obtain ⟨k, y, h⟩ := h
  exact open_int_in Try.underlying5 h
theorem op_bool (h : TR enc w 4 v) : ∃ z, v = .bool z := by
  obtain ⟨k, y, h⟩ := h
  exact open_bool_in Try.underlying4 h
theorem op_u32s (h : TR enc w 34 v) : ∃ x : Option Addr × Nat × Nat × List Int, v = .slice x.1 x.2.1 x.2.2.1 ∧ IsInts .u32 w x.1 x.2.1 x.2.2.1 x.2.2.2 := by
  obtain ⟨k, y, h⟩ := h
  obtain ⟨A, n, c, zs, h1, h2⟩ := open_ints_in Try.underlying34 Try.underlying23 (by kernel_rfl) h
  exact ⟨(A, n, c, zs), h1, h2⟩
theorem op_deps (h : TR enc w 69 v) : ∃ x : S4, v = .slice x.1 x.2.1 x.2.2.1 ∧ x.2.1 ≤ maxLen ∧ Sls w x.1 x.2.1 2 x.2.2.2 ∧ ∀ i, i < x.2.1 → TR enc w 23 (x.2.2.2 i 0) ∧ TR enc w 23 (x.2.2.2 i 1) := by
  obtain ⟨k, y, h⟩ := h
  obtain ⟨A, n, c, V, k', rfl, o⟩ := open_structs Try.underlying69 Try.underlying75 (by kernel_rfl) (by
    intro j f hf
    rcases j with _|_|j
    · simp at hf; subst hf; exact ⟨rfl, by kernel_rfl⟩
    · simp at hf; subst hf; exact ⟨rfl, by kernel_rfl⟩
    · simp at hf) (by decide) h
  exact ⟨(A, n, c, V), rfl, Nat.le_trans o.le o.cm, o.cell, fun i hi => ⟨⟨k', o.sub i hi 0 _ rfl⟩, ⟨k', o.sub i hi 1 _ rfl⟩⟩⟩
theorem op_recs (h : TR enc w 65 v) : ∃ x : S4, v = .slice x.1 x.2.1 x.2.2.1 ∧ x.2.1 ≤ maxLen ∧ Sls w x.1 x.2.1 3 x.2.2.2 ∧ ∀ i, i < x.2.1 → TR enc w 21 (x.2.2.2 i 0) ∧ TR enc w 5 (x.2.2.2 i 1) ∧ TR enc w 4 (x.2.2.2 i 2) := by
  obtain ⟨k, y, h⟩ := h
  obtain ⟨A, n, c, V, k', rfl, o⟩ := open_structs Try.underlying65 Try.underlying73 (by kernel_rfl) (by
    intro j f hf
    rcases j with _|_|_|j
    · simp at hf; subst hf; exact ⟨rfl, by kernel_rfl⟩
    · simp at hf; subst hf; exact ⟨rfl, by kernel_rfl⟩
    · simp at hf; subst hf; exact ⟨rfl, by kernel_rfl⟩
    · simp at hf) (by decide) h
  exact ⟨(A, n, c, V), rfl, Nat.le_trans o.le o.cm, o.cell, fun i hi => ⟨⟨k', o.sub i hi 0 _ rfl⟩, ⟨k', o.sub i hi 1 _ rfl⟩, ⟨k', o.sub i hi 2 _ rfl⟩⟩⟩
theorem op_parts (h : TR enc w 66 v) : ∃ x : S4, v = .slice x.1 x.2.1 x.2.2.1 ∧ x.2.1 ≤ maxLen ∧ Sls w x.1 x.2.1 4 x.2.2.2 ∧ ∀ i, i < x.2.1 → TR enc w 34 (x.2.2.2 i 0) ∧ TR enc w 69 (x.2.2.2 i 1) ∧ TR enc w 4 (x.2.2.2 i 2) ∧ TR enc w 4 (x.2.2.2 i 3) := by
  obtain ⟨k, y, h⟩ := h
  obtain ⟨A, n, c, V, k', rfl, o⟩ := open_structs Try.underlying66 Try.underlying71 (by kernel_rfl) (by
    intro j f hf
    rcases j with _|_|_|_|j
    · simp at hf; subst hf; exact ⟨rfl, by kernel_rfl⟩
    · simp at hf; subst hf; exact ⟨rfl, by kernel_rfl⟩
    · simp at hf; subst hf; exact ⟨rfl, by kernel_rfl⟩
    · simp at hf; subst hf; exact ⟨rfl, by kernel_rfl⟩
    · simp at hf) (by decide) h
  exact ⟨(A, n, c, V), rfl, Nat.le_trans o.le o.cm, o.cell, fun i hi => ⟨⟨k', o.sub i hi 0 _ rfl⟩, ⟨k', o.sub i hi 1 _ rfl⟩, ⟨k', o.sub i hi 2 _ rfl⟩, ⟨k', o.sub i hi 3 _ rfl⟩⟩⟩

theorem pick1 {α : Type} [Inhabited α] {n : Nat} {p : Nat → α → Prop} (h : ∀ i, i < n → ∃ x, p i x) : ∃ f : Nat → α, ∀ i, i < n → p i (f i) := choose_lt h
theorem pick2 {α : Type} [Inhabited α] {n : Nat} {m : Nat → Nat} {p : Nat → Nat → α → Prop} (h : ∀ i, i < n → ∀ j, j < m i → ∃ x, p i j x) : ∃ f : Nat → Nat → α, ∀ i, i < n → ∀ j, j < m i → p i j (f i j) :=
  choose_lt (α := Nat → α) (fun i hi => choose_lt (h i hi))
theorem pick3 {α : Type} [Inhabited α] {n : Nat} {m : Nat → Nat} {l : Nat → Nat → Nat} {p : Nat → Nat → Nat → α → Prop} (h : ∀ i, i < n → ∀ j, j < m i → ∀ k, k < l i j → ∃ x, p i j k x) : ∃ f : Nat → Nat → Nat → α, ∀ i, i < n → ∀ j, j < m i → ∀ k, k < l i j → p i j k (f i j k) :=
  pick2 (α := Nat → α) (fun i hi j hj => choose_lt (h i hi j hj))
set_option maxRecDepth 100000 in
set_option linter.all false in
theorem open_files {r : Reach} {b0 : Nat} {dd : DataW H} {ps : List MemPlace} (hval : Value.okWide Try.prog w r b0 22 v) (h : DataW.Trod enc Try.prog w 0 (fun _ => true) true 22 v dd ps) :
    ∃ A n c d h, v = .slice A n c ∧ n ≤ maxLen ∧ Fs w A n d h ∧ Wf n d := by
  obtain ⟨A, n, c, V, k', rfl, o⟩ := open_structs_arg Try.underlying22 Try.underlying68 (by kernel_rfl) (by
    intro j f hf
    rcases j with _|_|_|_|_|j
    · simp at hf; subst hf; exact ⟨rfl, by kernel_rfl⟩
    · simp at hf; subst hf; exact ⟨rfl, by kernel_rfl⟩
    · simp at hf; subst hf; exact ⟨rfl, by kernel_rfl⟩
    · simp at hf; subst hf; exact ⟨rfl, by kernel_rfl⟩
    · simp at hf; subst hf; exact ⟨rfl, by kernel_rfl⟩
    · simp at hf) (by decide) hval h
  have hcell : Sls w A n 5 V := o.cell
  obtain ⟨css, hcss⟩ := pick1 (fun i hi => op_i32 ⟨k', o.sub i hi 0 _ rfl⟩)
  obtain ⟨se, hse⟩ := pick1 (fun i hi => op_bool ⟨k', o.sub i hi 1 _ rfl⟩)
  obtain ⟨lv, hlv⟩ := pick1 (fun i hi => op_bool ⟨k', o.sub i hi 2 _ rfl⟩)
  obtain ⟨R, hR⟩ := pick1 (fun i hi => op_recs ⟨k', o.sub i hi 3 _ rfl⟩)
  obtain ⟨Q, hQ⟩ := pick1 (fun i hi => op_parts ⟨k', o.sub i hi 4 _ rfl⟩)
  obtain ⟨rt, hrt⟩ := pick2 (m := fun i => (R i).2.1) (fun i hi j hj => op_i32 ((hR i hi).2.2.2 j hj).1)
  obtain ⟨rk, hrk⟩ := pick2 (m := fun i => (R i).2.1) (fun i hi j hj => op_u8 ((hR i hi).2.2.2 j hj).2.1)
  obtain ⟨rx, hrx⟩ := pick2 (m := fun i => (R i).2.1) (fun i hi j hj => op_bool ((hR i hi).2.2.2 j hj).2.2)
  obtain ⟨U, hU⟩ := pick2 (m := fun i => (Q i).2.1) (fun i hi j hj => op_u32s ((hQ i hi).2.2.2 j hj).1)
  obtain ⟨E, hE⟩ := pick2 (m := fun i => (Q i).2.1) (fun i hi j hj => op_deps ((hQ i hi).2.2.2 j hj).2.1)
  obtain ⟨cb, hcb⟩ := pick2 (m := fun i => (Q i).2.1) (fun i hi j hj => op_bool ((hQ i hi).2.2.2 j hj).2.2.1)
  obtain ⟨ft, hft⟩ := pick2 (m := fun i => (Q i).2.1) (fun i hi j hj => op_bool ((hQ i hi).2.2.2 j hj).2.2.2)
  obtain ⟨df, hdf⟩ := pick3 (m := fun i => (Q i).2.1) (l := fun i j => (E i j).2.1) (fun i hi j hj k hk => op_u32 ((hE i hi j hj).2.2.2 k hk).1)
  obtain ⟨dp, hdp⟩ := pick3 (m := fun i => (Q i).2.1) (l := fun i j => (E i j).2.1) (fun i hi j hj k hk => op_u32 ((hE i hi j hj).2.2.2 k hk).2)
  refine ⟨A, n, c, ⟨css, se, lv, fun i => (R i).2.1, rt, rk, rx, fun i => (Q i).2.1, fun i j => (U i j).2.1, fun i j k => (U i j).2.2.2.getD k 0, fun i j => (E i j).2.1, df, dp, cb, ft⟩,
    ⟨fun i => (R i).1, fun i => (R i).2.2.1, fun i => (Q i).1, fun i => (Q i).2.2.1, fun i j => (U i j).1, fun i j => (U i j).2.2.1, fun i j => (E i j).1, fun i j => (E i j).2.2.1⟩, rfl, Nat.le_trans o.le o.cm, ⟨fun i hi => ?_, fun i hi j hj => ?_, fun i hi j hj => ?_, fun i hi j hj k hk => ?_, fun i hi j hj k hk => ?_, fun i hi => ⟨(hR i hi).2.1, (hQ i hi).2.1⟩, fun i hi j hj => ⟨?_, (hE i hi j hj).2.1⟩⟩, ⟨fun i hi => (hcss i hi).2, fun i hi j hj => (hrt i hi j hj).2, fun i hi j hj => (hrk i hi j hj).2, fun i hi j hj k hk => ?_, fun i hi j hj k hk => (hdf i hi j hj k hk).2, fun i hi j hj k hk => (hdp i hi j hj k hk).2⟩⟩
  · obtain ⟨b, o', ha, hb, hc⟩ := hcell i hi
    exact ⟨b, o', ha, hb, (hc 0 (by decide)).trans (by rw [(hcss i hi).1]), (hc 1 (by decide)).trans (by rw [hse i hi]), (hc 2 (by decide)).trans (by rw [hlv i hi]), (hc 3 (by decide)).trans (by rw [(hR i hi).1]), (hc 4 (by decide)).trans (by rw [(hQ i hi).1])⟩
  · obtain ⟨b, o', ha, hb, hc⟩ := (hR i hi).2.2.1 j hj
    exact ⟨b, o', ha, hb, (hc 0 (by decide)).trans (by rw [(hrt i hi j hj).1]), (hc 1 (by decide)).trans (by rw [(hrk i hi j hj).1]), (hc 2 (by decide)).trans (by rw [hrx i hi j hj])⟩
  · obtain ⟨b, o', ha, hb, hc⟩ := (hQ i hi).2.2.1 j hj
    exact ⟨b, o', ha, hb, (hc 0 (by decide)).trans (by rw [(hU i hi j hj).1]), (hc 1 (by decide)).trans (by rw [(hE i hi j hj).1]), (hc 2 (by decide)).trans (by rw [hcb i hi j hj]), (hc 3 (by decide)).trans (by rw [hft i hi j hj])⟩
  · exact (hU i hi j hj).2.read k hk
  · obtain ⟨b, o', ha, hb, hc⟩ := (hE i hi j hj).2.2.1 k hk
    exact ⟨b, o', ha, hb, (hc 0 (by decide)).trans (by rw [(hdf i hi j hj k hk).1]), (hc 1 (by decide)).trans (by rw [(hdp i hi j hj k hk).1])⟩
  · exact Nat.le_trans (hU i hi j hj).2.1 (hU i hi j hj).2.2.1
  · have h1 := (hU i hi j hj).2
    have hk' : k < (U i j).2.2.2.length := by rw [h1.2.2.1]; exact hk
    have h2 := h1.2.2.2.1 ((U i j).2.2.2[k]) (List.getElem_mem hk')
    have h3 : (U i j).2.2.2.getD k 0 = (U i j).2.2.2[k] := by simp [List.getD, hk']
    show (Lit.int .u32 ((U i j).2.2.2.getD k 0)).wf = true
    rw [h3]
    exact h2
end
/-- The law as the frame asks it. -/
theorem law (A0 : Option Addr) (n0 c0 : Nat) (d0 : Dat) (h0 : Hdr) (a1 a2 : Int) (a3 : Bool) (w : World) (m0 : n0 ≤ maxLen) (w0 : Fs w A0 n0 d0 h0) (x0 : Wf n0 d0) (w1 : (Lit.int .u32 a1).wf = true) (w2 : (Lit.int .u8 a2).wf = true) :
    Calls Try.prog 3 #[.slice A0 n0 c0, .int .u32 a1, .int .u8 a2, .bool a3] w fun e w' => e = .returned (.bool true) ∧ Below w.heap.size w w' := by
  have h1 := MrW.wf_u32 w1
  have h2 : 0 ≤ a2 ∧ a2 ≤ 255 := by simp [Lit.wf, IntKind.min, IntKind.max, IntKind.bits, IntKind.signed] at w2; omega
  obtain ⟨s, hs⟩ : ∃ s : Nat, a1 = (s : Int) := ⟨a1.toNat, by omega⟩
  obtain ⟨b, hb⟩ : ∃ b : Nat, a2 = (b : Int) := ⟨a2.toNat, by omega⟩
  subst hs
  subst hb
  exact MrL.law A0 n0 c0 d0 h0 s b a3 w w0 m0 x0 (by omega) (by omega)
end Go.Proofs.Ytpidbikdncgogaa.MrF
