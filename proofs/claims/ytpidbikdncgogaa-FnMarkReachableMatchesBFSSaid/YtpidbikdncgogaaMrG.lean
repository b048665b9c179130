/- FnMarkReachableMatchesBFS: the graph as it lies. -/
import Derived.Test.YtpidbikdncgogaaRows
import Derived.Test.YtpidbikdncgogaaMem
import Derived.Test.YtpidbikdncgogaaSl
import Derived.Test.YtpidbikdncgogaaMrB
import Derived.Test.YtpidbikdncgogaaMrP
import Derived.Carry
import Derived.WalkKit
import Derived.ProofKit
import Derived.OpenShut
import Derived.Below
import Derived.WalkLawsBesides
import Derived.Lib.Hide
import Derived.Outline
import Derived.RegionTactic
import Derived.Deep.QuietTactic
import Derived.BigQuiet
import Derived.WalkSpells
import Derived.Deep.OwnRows
import Derived.IntWalk
import Derived.Deep.DeepMust
namespace Go.Proofs.Ytpidbikdncgogaa.MrG
open Go.RowKit Mem Sl
set_option linter.unusedVariables false
open Args Fvs Fxs Argn Tab MrI MrA MrC MrS MrB
open MrP (INF Gr Path Sound Rel Chain Vis Mid Bfs)

/-- The edges. -/
def Adj (d : Dat) (u x : Nat) : Prop := d.css u = (x : Int) ∨ (∃ j, j < d.rl u ∧ d.rt u j = (x : Int)) ∨ ∃ j k, j < d.pl u ∧ k < d.dl u j ∧ d.df u j k = (x : Int) ∧ x ≠ u
def gr (n : Nat) (d : Dat) : Gr := ⟨n, d.lv, Adj d⟩
/-- What does not change. -/
structure Gs (n : Nat) (d : Dat) (H : Nat → Fh) (O c q : Nat) (cs : Bool) (w : World) : Prop where
  c10 : w.cell? ⟨c, 10, none⟩ = some (.slice (some ⟨O, 0, none⟩) n n)
  c0 : w.cell? ⟨c, 0, none⟩ = some (.pointer (some ⟨q, 0, none⟩))
  q0 : w.cell? ⟨q, 79, none⟩ = some (.bool cs)
  row : ∀ i, i < n → Row4 w O i (H i) (d.lv i)
  body : ∀ i, i < n → Body w d i (H i)
/-- The distances and the bits. -/
structure Ds (n bit : Nat) (H : Nat → Fh) (O : Nat) (D : Nat → Nat) (w : World) : Prop where
  dist : ∀ i, i < n → w.cell? ⟨O, i * 24 + 20, none⟩ = some (.int .u32 (D i : Int))
  fz : ∀ i, i < n → w.frozen? ⟨O, i * 24 + 20, none⟩ = false
  bits : ∀ i, i < n → Fv w (H i).E 32 (fun x => .int .u8 (bv (decide (D i ≠ INF)) bit x))
/-- What lies apart. -/
structure Geo (n : Nat) (d : Dat) (H : Nat → Fh) (O c q : Nat) : Prop where
  EE : ∀ i j, i < n → j < n → (H i).E = (H j).E → i = j
  EO : ∀ i, i < n → (H i).E ≠ O
  Ec : ∀ i, i < n → (H i).E ≠ c
  Eq : ∀ i, i < n → (H i).E ≠ q
  EN : ∀ i j, i < n → j < n → ∀ x, Nb (H j) (d.pl j) x → (H i).E ≠ x
  Oc : O ≠ c
  Oq : O ≠ q
  ON : ∀ j, j < n → ∀ x, Nb (H j) (d.pl j) x → O ≠ x
def Pm (n : Nat) (H : Nat → Fh) (O j : Nat) : Prop := j = O ∨ ∃ i, i < n ∧ j = (H i).E
section
variable {n bit u : Nat} {d : Dat} {H : Nat → Fh} {O c q : Nat} {cs : Bool} {D : Nat → Nat} {w w' : World}
theorem Gs.later (g : Gs n d H O c q cs w) (hb : Below w.heap.size w w') : Gs n d H O c q cs w' :=
  ⟨cell_later hb g.c10, cell_later hb g.c0, cell_later hb g.q0, fun i hi => ⟨cell_later hb (g.row i hi).f0, cell_later hb (g.row i hi).f2, cell_later hb (g.row i hi).f22, cell_later hb (g.row i hi).f23⟩, fun i hi => (g.body i hi).later hb⟩
theorem Ds.later (g : Ds n bit H O D w) (hb : Below w.heap.size w w') : Ds n bit H O D w' :=
  ⟨fun i hi => cell_later hb (g.dist i hi), fun i hi => by rw [← g.fz i hi]; exact hb.frozen (p := ⟨O, i * 24 + 20, none⟩) (cell_lt (g.dist i hi)), fun i hi => (g.bits i hi).below hb (g.bits i hi).lt⟩
/-- A store of a distance. -/
theorem Gs.dist (g : Gs n d H O c q cs w) (a : Geo n d H O c q) (hu : u < n) (v : Value) : Gs n d H O c q cs (w.setCell ⟨O, u * 24 + 20, none⟩ v) := by
  have far : ∀ b o vv, b ≠ O → w.cell? ⟨b, o, none⟩ = some vv → (w.setCell ⟨O, u * 24 + 20, none⟩ v).cell? ⟨b, o, none⟩ = some vv := fun b o vv hb hv => (World.cell?_of_block (a := ⟨b, o, none⟩) (Below.heap_setCell _ _ _ _ hb)).trans hv
  have near : ∀ i x vv, x ≠ 20 → x < 24 → w.cell? ⟨O, i * 24 + x, none⟩ = some vv → (w.setCell ⟨O, u * 24 + 20, none⟩ v).cell? ⟨O, i * 24 + x, none⟩ = some vv := fun i x vv hx hl hv => (World.cell?_setCell_other _ _ _ _ (by intro hh; injection hh with _ hh _; omega)).trans hv
  refine ⟨far _ _ _ (Ne.symm a.Oc) g.c10, far _ _ _ (Ne.symm a.Oc) g.c0, far _ _ _ (Ne.symm a.Oq) g.q0, fun i hi => ?_, fun i hi => ?_⟩
  · have r := g.row i hi
    exact ⟨near i 0 _ (by decide) (by decide) r.f0, near i 2 _ (by decide) (by decide) r.f2, near i 22 _ (by decide) (by decide) r.f22, near i 23 _ (by decide) (by decide) r.f23⟩
  · exact (g.body i hi).fx (Fx.setCell (P := fun b => b = O) (Fx.refl _ _) (p := ⟨O, u * 24 + 20, none⟩) rfl v) (fun x hx e => a.ON i hi x hx e.symm)
/-- The bits of a file are set. -/
theorem Gs.bits (g : Gs n d H O c q cs w) (a : Geo n d H O c q) (hu : u < n) (hf : Fx (fun j => j = (H u).E) w w') : Gs n d H O c q cs w' := by
  have far : ∀ b o vv, b ≠ (H u).E → w.cell? ⟨b, o, none⟩ = some vv → w'.cell? ⟨b, o, none⟩ = some vv := fun b o vv hb hv => (hf.cell (cell_lt hv) hb).trans hv
  refine ⟨far _ _ _ (Ne.symm (a.Ec u hu)) g.c10, far _ _ _ (Ne.symm (a.Ec u hu)) g.c0, far _ _ _ (Ne.symm (a.Eq u hu)) g.q0, fun i hi => ?_, fun i hi => ?_⟩
  · have r := g.row i hi
    have ho := Ne.symm (a.EO u hu)
    exact ⟨far _ _ _ ho r.f0, far _ _ _ ho r.f2, far _ _ _ ho r.f22, far _ _ _ ho r.f23⟩
  · exact (g.body i hi).fx hf (fun x hx e => a.EN u i hu hi x hx e.symm)
/-- Both: file u is marked at distance dd. -/
theorem Ds.mark (g : Ds n bit H O D w) (a : Geo n d H O c q) (hu : u < n) {dd : Nat} (hd : dd ≠ INF) (he : Fv w' (H u).E 32 (fun x => .int .u8 (bv true bit x))) (hf : Fx (fun j => j = (H u).E) (w.setCell ⟨O, u * 24 + 20, none⟩ (.int .u32 (dd : Int))) w') : Ds n bit H O (MrP.up D u dd) w' := by
  have ho := Ne.symm (a.EO u hu)
  refine ⟨fun i hi => ?_, fun i hi => ?_, fun i hi => ?_⟩
  · by_cases e : i = u
    · subst e
      rw [MrP.up_self]
      have h1 : (w.setCell ⟨O, i * 24 + 20, none⟩ (.int .u32 (dd : Int))).cell? ⟨O, i * 24 + 20, none⟩ = some (.int .u32 (dd : Int)) := cell_self _ (by rw [g.dist i hi]; rfl)
      exact (hf.cell (cell_lt h1) ho).trans h1
    · rw [MrP.up_ne _ _ e]
      have h1 : (w.setCell ⟨O, u * 24 + 20, none⟩ (.int .u32 (dd : Int))).cell? ⟨O, i * 24 + 20, none⟩ = some (.int .u32 (D i : Int)) := (World.cell?_setCell_other _ _ _ _ (by intro hh; injection hh with _ hh _; omega)).trans (g.dist i hi)
      exact (hf.cell (cell_lt h1) ho).trans h1
  · have hl : O < (w.setCell ⟨O, u * 24 + 20, none⟩ (.int .u32 (dd : Int))).heap.size := by simpa using cell_lt (g.dist i hi)
    rw [hf.frozen hl ho]
    exact frozen_set _ _ _ _ _ (g.fz i hi)
  · by_cases e : i = u
    · subst e
      rw [MrP.up_self]
      have : decide (dd ≠ INF) = true := by simpa using hd
      rw [this]
      exact he
    · rw [MrP.up_ne _ _ e]
      have h1 := (g.bits i hi).far (p := ⟨O, u * 24 + 20, none⟩) (a.EO i hi) (.int .u32 (dd : Int))
      exact fv_fx h1 hf (fun hh => e (a.EE i u hi hu hh))
/-- What a visit does. -/
def Mk (n bit : Nat) (d : Dat) (H : Nat → Fh) (O c q : Nat) (cs : Bool) (s : Nat) (D : Nat → Nat) (dd u : Nat) (w : World) (e : Ending) (w' : World) : Prop :=
  e = .returned (.tuple #[]) ∧ ∃ E, Gs n d H O c q cs w' ∧ Ds n bit H O E w' ∧ Fx (Pm n H O) w w' ∧ Vis (gr n d) D dd u E ∧ Sound (gr n d) s E
end
end Go.Proofs.Ytpidbikdncgogaa.MrG
