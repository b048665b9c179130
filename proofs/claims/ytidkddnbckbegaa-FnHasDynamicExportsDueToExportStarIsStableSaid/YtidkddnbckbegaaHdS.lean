/- FnHasDynamicExportsDueToExportStarIsStable: what lies where. -/
import Derived.Test.YtidkddnbckbegaaRows
import Derived.Test.YtidkddnbckbegaaMem
import Derived.Test.YtidkddnbckbegaaSl
import Derived.Test.YtidkddnbckbegaaHdC
import Derived.Test.YtidkddnbckbegaaMapK
import Derived.Test.YtidkddnbckbegaaFxs
import Derived.Carry
import Derived.WalkKit
import Derived.ProofKit
import Derived.OpenShut
import Derived.Below
import Derived.WalkLawsBesides
import Derived.Lib.Hide
import Derived.Outline
import Derived.RegionTactic
import Derived.Deep.QuietTactic
import Derived.BigQuiet
import Derived.WalkSpells
import Derived.Deep.OwnRows
import Derived.IntWalk
import Derived.Deep.DeepMust
namespace Go.Proofs.Ytidkddnbckbegaa.HdS
open Go.RowKit Mem Sl
set_option linter.unusedVariables false
open Args Fvs Fxs HdP HdA HdC MapK Go.Maps

theorem keyed23 : Keyed Try.prog 23 := int_keyed Try.underlying23
theorem zero4 (w : World) : (zeroValue 4).run Try.prog w = .ok (.bool false) w := by simp [Try.zeroValue4]
theorem key_u32 (u : Nat) (h : u ≤ 4096) : KeyV Try.prog 23 (.int .u32 (u : Int)) := by
  have hw : (Lit.int .u32 (u : Int)).wf = true := by simp [Lit.wf, IntKind.min, IntKind.max, IntKind.bits, IntKind.signed] <;> omega
  unfold KeyV keyOf
  simp [Try.underlying23, mapKey, hw]
/-- The graph. -/
structure Gs (n : Nat) (Z : Nat → List Int) (R rc ix : Nat → Nat) (F c : Nat) (w : World) : Prop where
  cf : w.cell? ⟨c, 10, none⟩ = some (.slice (some ⟨F, 0, none⟩) n n)
  f2 : ∀ i, i < n → w.cell? ⟨F, i * 24 + 2, none⟩ = some (.iface 84 (.pointer (some ⟨R i, 0, none⟩)))
  f22 : ∀ i, i < n → w.cell? ⟨F, i * 24 + 22, none⟩ = some (.int .u8 0)
  r35 : ∀ i, i < n → w.cell? ⟨R i, 35, none⟩ = some (.slice (some ⟨rc i, 0, none⟩) (Z i).length (Z i).length)
  r38 : ∀ i, i < n → w.cell? ⟨R i, 38, none⟩ = some (.slice (some ⟨ix i, 0, none⟩) (Z i).length (Z i).length)
  rcd : ∀ i, i < n → ∀ j, j < (Z i).length → w.cell? ⟨rc i, j * 15 + 10, none⟩ = some (.int .u32 (flip ((Z i).getD j 0)))
  ixd : ∀ i, i < n → ∀ j : Nat, j < (Z i).length → w.cell? ⟨ix i, j, none⟩ = some (.int .u32 (j : Int))
/-- The kinds. -/
structure Ks (n : Nat) (K : Nat → Int) (R : Nat → Nat) (w : World) : Prop where
  cell : ∀ i, i < n → w.cell? ⟨R i, 62, none⟩ = some (.int .u8 (K i))
  fz : ∀ i, i < n → w.frozen? ⟨R i, 62, none⟩ = false
/-- The visited ones. -/
structure Vs (n : Nat) (V : Nat → Bool) (G : Nat) (w : World) : Prop where
  mp : ∃ cnt f, MapF Try.prog w G 23 cnt f ∧ ∀ u, u < n → (f (.int .u32 (u : Int))).getD (.bool false) = .bool (V u)
/-- What lies apart. -/
structure Geo (n : Nat) (R rc ix : Nat → Nat) (F c G : Nat) : Prop where
  RR : ∀ i j, i < n → j < n → R i = R j → i = j
  Rc : ∀ i, i < n → R i ≠ c
  RF : ∀ i, i < n → R i ≠ F
  Rrc : ∀ i j, i < n → j < n → R i ≠ rc j
  Rix : ∀ i j, i < n → j < n → R i ≠ ix j
  RG : ∀ i, i < n → R i ≠ G
  Gc : c ≠ G
  GF : F ≠ G
  Grc : ∀ i, i < n → rc i ≠ G
  Gix : ∀ i, i < n → ix i ≠ G
/-- What a visit may change. -/
def Pm (n : Nat) (R : Nat → Nat) (G : Nat) (j : Nat) : Prop := j = G ∨ ∃ i, i < n ∧ j = R i
section
variable {n : Nat} {Z : Nat → List Int} {R rc ix : Nat → Nat} {F c G s : Nat} {K : Nat → Int} {V : Nat → Bool} {w w' : World}
theorem Gs.of_cells (h : Gs n Z R rc ix F c w) (e : ∀ b o v, w.cell? ⟨b, o, none⟩ = some v → (b = c ∨ b = F ∨ (∃ i, i < n ∧ (b = rc i ∨ b = ix i ∨ (b = R i ∧ o ≠ 62)))) → w'.cell? ⟨b, o, none⟩ = some v) : Gs n Z R rc ix F c w' :=
  ⟨e _ _ _ h.cf (.inl rfl), fun i hi => e _ _ _ (h.f2 i hi) (.inr (.inl rfl)), fun i hi => e _ _ _ (h.f22 i hi) (.inr (.inl rfl)), fun i hi => e _ _ _ (h.r35 i hi) (.inr (.inr ⟨i, hi, .inr (.inr ⟨rfl, by decide⟩)⟩)),
    fun i hi => e _ _ _ (h.r38 i hi) (.inr (.inr ⟨i, hi, .inr (.inr ⟨rfl, by decide⟩)⟩)), fun i hi j hj => e _ _ _ (h.rcd i hi j hj) (.inr (.inr ⟨i, hi, .inl rfl⟩)), fun i hi j hj => e _ _ _ (h.ixd i hi j hj) (.inr (.inr ⟨i, hi, .inr (.inl rfl)⟩))⟩
theorem Gs.later (h : Gs n Z R rc ix F c w) (hb : Below w.heap.size w w') : Gs n Z R rc ix F c w' := h.of_cells fun _ _ _ hv _ => cell_later hb hv
theorem Ks.later (h : Ks n K R w) (hb : Below w.heap.size w w') : Ks n K R w' :=
  ⟨fun i hi => cell_later hb (h.cell i hi), fun i hi => by rw [← h.fz i hi]; exact hb.frozen (p := ⟨R i, 62, none⟩) (cell_lt (h.cell i hi))⟩
theorem Vs.later (h : Vs n V G w) (hb : Below w.heap.size w w') : Vs n V G w' := by
  obtain ⟨cnt, f, h1, h2⟩ := h.mp
  exact ⟨cnt, f, h1.below hb h1.lt, h2⟩
theorem Gs.map (h : Gs n Z R rc ix F c w) (q : Geo n R rc ix F c G) (hg : w.grownBy w' (some G)) : Gs n Z R rc ix F c w' := h.of_cells fun b o v hv hb => by
  have hne : b ≠ G := by
    rcases hb with rfl | rfl | ⟨i, hi, rfl | rfl | ⟨rfl, _⟩⟩
    · exact q.Gc
    · exact q.GF
    · exact q.Grc i hi
    · exact q.Gix i hi
    · exact q.RG i hi
  exact (World.cell?_of_block (a := ⟨b, o, none⟩) (hg.block b (cell_lt hv) (fun e => hne (by injection e)))).trans hv
theorem Ks.map (h : Ks n K R w) (q : Geo n R rc ix F c G) (hg : w.grownBy w' (some G)) : Ks n K R w' := by
  have hb : ∀ i, i < n → w'.heap[R i]? = w.heap[R i]? := fun i hi => hg.block (R i) (cell_lt (h.cell i hi)) (fun e => q.RG i hi (by injection e))
  exact ⟨fun i hi => (World.cell?_of_block (a := ⟨R i, 62, none⟩) (hb i hi)).trans (h.cell i hi), fun i hi => by rw [← h.fz i hi]; simp [World.frozen?, hb i hi]⟩
theorem Gs.set (h : Gs n Z R rc ix F c w) (q : Geo n R rc ix F c G) (hs : s < n) (u : Value) : Gs n Z R rc ix F c (w.setCell ⟨R s, 62, none⟩ u) := h.of_cells fun b o v hv hb => by
  refine (World.cell?_setCell_other _ _ _ _ (fun e => ?_)).trans hv
  injection e with e1 e2 e3
  rcases hb with rfl | rfl | ⟨i, hi, rfl | rfl | ⟨rfl, ho⟩⟩
  · first | exact q.Rc s hs e1 | exact q.Rc s hs e1.symm
  · first | exact q.RF s hs e1 | exact q.RF s hs e1.symm
  · first | exact q.Rrc s i hs hi e1 | exact q.Rrc s i hs hi e1.symm
  · first | exact q.Rix s i hs hi e1 | exact q.Rix s i hs hi e1.symm
  · first | exact ho e2 | exact ho e2.symm
theorem Ks.set (h : Ks n K R w) (q : Geo n R rc ix F c G) (hs : s < n) (x : Int) : Ks n (up K s x) R (w.setCell ⟨R s, 62, none⟩ (.int .u8 x)) := by
  refine ⟨fun i hi => ?_, fun i hi => frozen_set _ _ _ _ _ (h.fz i hi)⟩
  by_cases e : i = s
  · subst e
    rw [up_self]
    exact cell_self _ (by rw [h.cell i hi]; rfl)
  · rw [up_ne _ _ e]
    exact (World.cell?_setCell_other _ _ _ _ (fun h => by injection h with h1; first | exact e (q.RR i s hi hs h1) | exact e (q.RR s i hs hi h1).symm)).trans (h.cell i hi)
theorem Fx.of_map (hg : w.grownBy w' (some G)) : Fx (Pm n R G) w w' := ⟨hg.os, hg.tape, hg.output, hg.size, fun j hj hp => hg.block j hj (fun e => hp (.inl (by injection e)))⟩
theorem Vs.mark (hs : s < n) {cnt' : Nat} {f : Value → Option Value} (hf : ∀ u, u < n → (f (.int .u32 (u : Int))).getD (.bool false) = .bool (V u)) (hm : MapF Try.prog w' G 23 cnt' (put f (.int .u32 (s : Int)) (.bool true))) : Vs n (upv V s) G w' := by
  refine ⟨_, _, hm, fun u hu => ?_⟩
  by_cases e : u = s
  · subst e; rw [put_self, upv_self]; rfl
  · rw [put_other _ _ (fun h => e (by injection h with _ h; exact Int.ofNat.inj h)), upv_ne _ e]
    exact hf u hu
theorem Vs.look (h : Vs n V G w) (hs : s < n) (h4 : n ≤ 4096) {x : Bool} (hx : V s = x) : (Instr.lookup 33 (.map (some G)) (.int .u32 (s : Int)) false).run Try.prog w = .ok (.bool x) w := by
  obtain ⟨cnt, f, h1, h2⟩ := h.mp
  have h3 := h1.look Try.underlying33 keyed23 (key_u32 s (by omega)) (zero4 w)
  rw [h2 s hs, hx] at h3
  exact h3
/-- What a visit gives. -/
def Hd (n : Nat) (Z : Nat → List Int) (R rc ix : Nat → Nat) (F c G : Nat) (K : Nat → Int) (k : Nat) (V : Nat → Bool) (s : Nat) (w : World) (e : Ending) (w' : World) : Prop :=
  ∃ b, e = .returned (.bool b) ∧ b = (go K Z (k + 1) V s).1 ∧ Gs n Z R rc ix F c w' ∧ Fx (Pm n R G) w w' ∧
    (b = false → Ks n K R w' ∧ Vs n (go K Z (k + 1) V s).2 G w' ∧ ∀ x, V x = true → (go K Z (k + 1) V s).2 x = true) ∧
    (b = true → ∃ K', Ks n K' R w' ∧ dyn (K' s) = true ∧ (dyn (K s) = true → ∀ i, i < n → K' i = K i))
/-- Before the j-th star. -/
structure In (n : Nat) (Z : Nat → List Int) (R rc ix : Nat → Nat) (F c G : Nat) (K : Nat → Int) (k : Nat) (V : Nat → Bool) (s : Nat) (w : World) (j : Nat) (V' : Nat → Bool) (wr : World) : Prop where
  gs : Gs n Z R rc ix F c wr
  ks : Ks n K R wr
  vs : Vs n V' G wr
  le : ∀ x, upv V s x = true → V' x = true
  eq : goL (go K Z (k + 1)) s ((Z s).drop j) V' = goL (go K Z (k + 1)) s (Z s) (upv V s)
  fx : Fx (Pm n R G) w wr
end
end Go.Proofs.Ytidkddnbckbegaa.HdS
