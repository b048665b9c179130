/- FnSortedCrossChunkImportsOrderFree: rows appended, the context. -/
import Derived.Test.YtfcpjckecjjmjaaSoC
import Derived.Test.YtfcpjckecjjmjaaOwg
import Derived.Maps.AppendAt
import Derived.WalkKit
import Derived.ProofKit
import Derived.OpenShut
import Derived.Below
import Derived.WalkLawsBesides
import Derived.Lib.Hide
import Derived.Outline
import Derived.RegionTactic
import Derived.Deep.QuietTactic
import Derived.BigQuiet
import Derived.WalkSpells
import Derived.Deep.OwnRows
import Derived.IntWalk
import Derived.Deep.DeepMust
namespace Go.Proofs.Ytfcpjckecjjmjaa.SoE
open Go.RowKit Go.MapKept Go.Maps Mem Args Fvs Fxs Tab MapK SoG SoC
set_option linter.unusedVariables false

noncomputable def z70 : Value := ((Try.prog.info? 70).bind (·.zero)).getD undef
noncomputable def b70 : Nat := ((Try.prog.info? 70).map (·.bytes)).getD 0
theorem info70 : (Try.prog.info? 70).map (fun i => (i.zero, i.size, i.bytes)) = some (some z70, 22, b70) := by kernel_rfl
theorem b70_le : b70 ≤ 1000 := by decide +kernel
theorem z70_size : z70.cells.size = 22 := by kernel_rfl
theorem info39 : (Try.prog.info? 39).map (fun i => (i.zero, i.size, i.bytes)) = some (some (.agg #[.slice none 0 0, .int .u32 0]), 2, 32) := by kernel_rfl
theorem info45 : (Try.prog.info? 45).map (fun i => (i.zero, i.size, i.bytes)) = some (some (.agg #[.string ByteArray.empty, .int .u32 0, .int .u32 0]), 3, 24) := by kernel_rfl
theorem info47 : (Try.prog.info? 47).map (fun i => (i.zero, i.size, i.bytes)) = some (some (.map none), 1, 8) := by kernel_rfl
section
variable {w w' : World} {B k size : Nat} {E : TypeId} {v : Value} {xs : List Value}
theorem own_later (h : w.ownsRow B E size v k xs) (hb : Below w.heap.size w w') : w'.ownsRow B E size v k xs := by
  refine ⟨h.1, ?_⟩
  rcases h.2 with h' | ⟨g, cap, cur, h', r1, r2, r3⟩
  · exact .inl h'
  · exact .inr ⟨g, cap, cur, h', r1, (hb.block g (Array.getElem?_eq_some_iff.1 r2).1).trans r2, r3⟩
theorem own_kept (h : w.ownsRow B E size v k xs) (hb : ∀ g, v.ownBlock = some g → w'.heap[g]? = w.heap[g]?) : w'.ownsRow B E size v k xs := by
  refine ⟨h.1, ?_⟩
  rcases h.2 with h' | ⟨g, cap, cur, h', r1, r2, r3⟩
  · exact .inl h'
  · exact .inr ⟨g, cap, cur, h', r1, (hb g (by rw [h']; rfl)).trans r2, r3⟩
theorem own_lt (h : w.ownsRow B E size v k xs) {g : Nat} (hg : v.ownBlock = some g) : B ≤ g ∧ g < w.heap.size := by
  rcases h.2 with ⟨rfl, _⟩ | ⟨g', cap, cur, rfl, hb, hh, _⟩
  · simp [Value.ownBlock] at hg
  · have : g' = g := by simpa [Value.ownBlock] using hg
    subst this
    exact ⟨hb, (Array.getElem?_eq_some_iff.1 hh).1⟩
theorem own_form (h : w.ownsRow B E size v k xs) : ∃ A c, v = .slice A k c := by
  rcases h.2 with ⟨rfl, h0⟩ | ⟨g, cap, cur, rfl, _⟩
  · rw [h0]; exact ⟨none, 0, rfl⟩
  · exact ⟨_, _, rfl⟩
theorem own_some (h : w.ownsRow B E size v k xs) (hk : v ≠ .slice none 0 0) : ∃ g c, v = .slice (some ⟨g, 0, none⟩) k c ∧ B ≤ g ∧ g < w.heap.size := by
  rcases h.2 with ⟨rfl, h0⟩ | ⟨g, cap, cur, rfl, hb, hh, _⟩
  · exact absurd rfl hk
  · exact ⟨_, _, rfl, hb, (Array.getElem?_eq_some_iff.1 hh).1⟩
/-- The cells of an own row. -/
theorem own_cell {g c : Nat} (h : w.ownsRow B E size (.slice (some ⟨g, 0, none⟩) k c) k xs) {j : Nat} {u : Value} (hj : xs[j]? = some u) : w.cell? ⟨g, j, none⟩ = some u := by
  have := h.cells (g := g) rfl j u hj
  have hadd : (⟨g, 0, none⟩ : Addr).add j = ⟨g, j, none⟩ := by unfold Addr.add; split <;> simp_all
  rwa [hadd] at this
theorem own_frozen {g c : Nat} (h : w.ownsRow B E size (.slice (some ⟨g, 0, none⟩) k c) k xs) (o : Nat) : w.frozen? ⟨g, o, none⟩ = false := by
  rcases h.2 with ⟨h', _⟩ | ⟨g', cap, cur, h', r1, r2, r3⟩
  · cases h'
  · injection h' with h1
    injection h1 with h1
    injection h1 with h1
    subst h1
    simp [World.frozen?, r2]
theorem own_tb {g c : Nat} (h : w.ownsRow B E size (.slice (some ⟨g, 0, none⟩) k c) k xs) (T : Nat → Nat → Value) (ht : ∀ i j, i < k → j < size → xs[i * size + j]? = some (T i j)) : Tb w g k size T :=
  ⟨(own_lt h rfl).2, fun i j hi hj => own_cell h (ht i j hi hj), own_frozen h⟩
end
section
variable {P : Program} (w : World)
/-- append(v, x) of one wide element that lies in a block of its own. -/
theorem wpList_pushRow {ops : Array Oper} {rest : List Oper} {o : Oper} {a : Act} {Q : Exit → Act → World → Prop} (hgd : o.guard = none) (s x : Operand) (t : TypeId)
    (ho : o.op = .call { callee := .builtin .append, args := #[s, x], argTypes := #[t, t] })
    (B : Nat) (E : TypeId) (z : Value) (size bytes : Nat) (ht : P.underlying t = some (.slice E)) (hinfo : (P.info? E).map (fun i => (i.zero, i.size, i.bytes)) = some (some z, size, bytes)) (hzs : z.cells.size = size) (hpos : 0 < size) (hby : bytes ≤ 1000)
    (v : Value) (k : Nat) (xs : List Value) (hs : a.eval s = v) (hown : w.ownsRow B E size v k xs) (g : Nat) (C : List Value) (hx : a.eval x = .slice (some ⟨g, 0, none⟩) 1 1) (hC : C.length = size) (hcell : ∀ j u, C[j]? = some u → w.cell? ⟨g, j, none⟩ = some u) (hone : ∀ u ∈ C, u.oneCell' = true)
    (hlen : k ≤ 1048576) (hB : B ≤ w.heap.size)
    (h : ∀ A' c' w', w'.ownsRow B E size (.slice A' (k + 1) c') (k + 1) (xs ++ C) → w.grownBy w' v.ownBlock → ((Value.slice A' (k + 1) c').ownBlock = v.ownBlock ∨ (Value.slice A' (k + 1) c').ownBlock = some w.heap.size) → wpList P ops Q rest (a.put o.dst (.slice A' (k + 1) c')) w') : wpList P ops Q (o :: rest) a w := by
  obtain ⟨i, hi, hzz⟩ := Option.map_eq_some_iff.1 hinfo
  simp only [Prod.mk.injEq] at hzz
  obtain ⟨hz, hsz, hb⟩ := hzz
  refine wpList_append_own_at w hgd s x t ho B E i z size bytes ht hi hz hsz hb hzs hpos v k xs hs hown ⟨g, 0, none⟩ 1 1 C hx (by omega) ?_ hone (by unfold maxLen; omega) ?_ hB ?_
  · intro j u hu
    have hadd : (⟨g, 0, none⟩ : Addr).add j = ⟨g, j, none⟩ := by unfold Addr.add; split <;> simp_all
    rw [hadd]
    exact hcell j u hu
  · have : (k + 1) * bytes ≤ (k + 1) * 1000 := Nat.mul_le_mul_left _ hby
    omega
  · intro v' w' h2 h3 _ h5
    obtain ⟨A', c', rfl⟩ := own_form h2
    exact h A' c' w' h2 h3 h5
theorem run_pushRow (t ty : TypeId) (B : Nat) (E : TypeId) (z : Value) (size bytes : Nat) (ht : P.underlying t = some (.slice E)) (hinfo : (P.info? E).map (fun i => (i.zero, i.size, i.bytes)) = some (some z, size, bytes)) (hzs : z.cells.size = size) (hpos : 0 < size) (hby : bytes ≤ 1000)
    (v : Value) (k : Nat) (xs : List Value) (hown : w.ownsRow B E size v k xs) (g : Nat) (C : List Value) (hC : C.length = size) (hcell : ∀ j u, C[j]? = some u → w.cell? ⟨g, j, none⟩ = some u) (hone : ∀ u ∈ C, u.oneCell' = true) (hlen : k ≤ 1048576) (hB : B ≤ w.heap.size) :
    ∃ A' c' w', (Builtin.append_ #[t, t] ty #[v, .slice (some ⟨g, 0, none⟩) 1 1]).run P w = .ok (.slice A' (k + 1) c') w' ∧ w'.ownsRow B E size (.slice A' (k + 1) c') (k + 1) (xs ++ C) ∧ w.grownBy w' v.ownBlock ∧ ((Value.slice A' (k + 1) c').ownBlock = v.ownBlock ∨ (Value.slice A' (k + 1) c').ownBlock = some w.heap.size) := by
  obtain ⟨i, hi, hzz⟩ := Option.map_eq_some_iff.1 hinfo
  simp only [Prod.mk.injEq] at hzz
  obtain ⟨hz, hsz, hb⟩ := hzz
  obtain ⟨v', w', hr, h2, h3, _, h5⟩ := run_append_own_at (P := P) w B t ty E i z size bytes ht hi hz hsz hb hzs hpos v k xs hown ⟨g, 0, none⟩ 1 1 C (by omega) (by
    intro j u hu
    have hadd : (⟨g, 0, none⟩ : Addr).add j = ⟨g, j, none⟩ := by unfold Addr.add; split <;> simp_all
    rw [hadd]
    exact hcell j u hu) hone (by unfold maxLen; omega) (by
    have : (k + 1) * bytes ≤ (k + 1) * 1000 := Nat.mul_le_mul_left _ hby
    omega) hB
  obtain ⟨A', c', rfl⟩ := own_form h2
  exact ⟨A', c', w', hr, h2, h3, h5⟩
end
/-- What a chunk's exports are: nil, or a map from references to strings. -/
def Mx (w : World) (M : Option Nat) (f : Value → Option Value) : Prop :=
  (M = none → ∀ k, f k = none) ∧ (∀ b, M = some b → ∃ n, MapF Try.prog w b 43 n f) ∧ ∀ k v, f k = some v → ∃ a, v = .string a
theorem Mx.below {w w' : World} {M : Option Nat} {f : Value → Option Value} {B : Nat} (h : Mx w M f) (hb : Below B w w') (hB : ∀ b, M = some b → b < B) : Mx w' M f :=
  ⟨h.1, fun b hm => by obtain ⟨n, hn⟩ := h.2.1 b hm; exact ⟨n, hn.below hb (hB b hm)⟩, h.2.2⟩
/-- The context in block x: n chunks, chunk i with the exports F i. -/
def Cx (w : World) (x n : Nat) (F : Nat → Value → Option Value) : Prop :=
  x < w.heap.size ∧ ∃ K c, K < w.heap.size ∧ w.cell? ⟨x, 17, none⟩ = some (.slice (some ⟨K, 0, none⟩) n c) ∧ ∀ i, i < n → ∃ p M, w.cell? ⟨K, i * 22 + 4, none⟩ = some (.iface 75 (.pointer (some ⟨p, 0, none⟩))) ∧ Js w p M ∧ (∀ b, M = some b → b < w.heap.size) ∧ Mx w M (F i)
theorem Cx.later {w w' : World} {x n : Nat} {F : Nat → Value → Option Value} (h : Cx w x n F) (hb : Below w.heap.size w w') : Cx w' x n F := by
  obtain ⟨hx, K, c, hK, h1, h2⟩ := h
  refine ⟨Nat.lt_of_lt_of_le hx hb.size, K, c, Nat.lt_of_lt_of_le hK hb.size, (hb.cell (p := ⟨x, 17, none⟩) hx).trans h1, fun i hi => ?_⟩
  obtain ⟨p, M, a1, a2, a3, a4⟩ := h2 i hi
  exact ⟨p, M, (hb.cell (p := ⟨K, i * 22 + 4, none⟩) hK).trans a1, a2.below hb a2.1, fun b hm => Nat.lt_of_lt_of_le (a3 b hm) hb.size, a4.below hb a3⟩
theorem keyed43 : Keyed Try.prog 43 := Keyed.of_law (deep_law_laid (by kernel_rfl) (m := 5) (by decide) (by decide +kernel) (by kernel_rfl) (by kernel_rfl))
theorem key_ref (x y : Int) (hx : 0 ≤ x ∧ x ≤ 4294967295) (hy : 0 ≤ y ∧ y ≤ 4294967295) : KeyV Try.prog 43 (.agg #[.int .u32 x, .int .u32 y]) := by
  have hw : (Lit.int .u32 x).wf = true := WalkArith.wf_u32 (by omega)
  have hw0 : (Lit.int .u32 y).wf = true := WalkArith.wf_u32 (by omega)
  have k1 : Try.prog.keyType 43 = true := by kernel_rfl
  have k2 : (Value.agg #[.int .u32 x, .int .u32 y]).formed Try.prog 43 = true := by kernel_rfl
  have k3 : Try.prog.cellsOf 43 = 2 := by kernel_rfl
  have k4 : Try.prog.cellsOf 34 = 1 := by kernel_rfl
  have k5 : 1 ≤ Try.prog.types.size := Nat.le_of_ble_eq_true (by kernel_rfl)
  obtain ⟨m, hm⟩ : ∃ m, Try.prog.types.size + 1 = m + 1 + 1 := ⟨Try.prog.types.size - 1, by omega⟩
  unfold KeyV keyOf
  rw [k1, k2, hm]
  simp [Try.underlying43, Program.keyLits, Try.underlying34, k3, k4, Value.cells, hw, hw0]
theorem zero9 (w : World) : (zeroValue 9).run Try.prog w = .ok (.string ByteArray.empty) w := by kernel_rfl
end Go.Proofs.Ytfcpjckecjjmjaa.SoE
