/- Named package-level variables: they read behind the call as before it, if below the old heap's size nothing has turned; a laid slice of integers. Plain. -/
import Derived.Test.YtalpfbbceggcaaaDoorArgs
import Derived.WalkKit
import Derived.ProofKit
import Derived.Carry
import Derived.ChangeOld
import Derived.ChangeVars
import Derived.LaidMore
namespace Go.Proofs.YtalpfbbceggcaaaDoor.Vars
open Go.ChangeShapes Go.WideShapes Go.ChangeAt Go.RowKit Args

theorem ints_of_laid {H : Type} {enc : TypeId × Value → H} {P : Program} {w : World} {base : Nat} {spare : Nat → Bool} {held : Bool} {t e : TypeId} {k : IntKind} {fuel : Nat} {cs : List Value} {ys : List Int} {ps : List MemPlace}
    (ht : P.underlying t = some (.slice e)) (he : P.underlying e = some (.int k)) (hc : P.cellsOf e = 1)
    (h : DataW.trod enc P w base spare held fuel t cs = some (.slice (lits k ys) [], ps)) (hy : ys ≠ []) :
    ∃ A c, cs = [.slice A ys.length c] ∧ IsInts k w A ys.length c ys := by
  rcases open_ints ht he hc h with ⟨_, hx⟩ | ⟨x, l, cp, zs, hcs, _, hl, hm, hz, hx, hcell, hwz⟩
  · simp at hx
  · simp only [Prod.mk.injEq, DataW.slice.injEq] at hx
    obtain ⟨⟨h1, h2⟩, _⟩ := hx
    have inj : ∀ a b : List Int, lits (H := H) k a = lits k b → a = b := by
      intro a
      induction a with
      | nil => intro b hb; cases b <;> simp [lits] at hb ⊢
      | cons x a ih =>
        intro b hb
        cases b with
        | nil => simp [lits] at hb
        | cons y b =>
          simp only [lits, List.map_cons, List.cons.injEq, DataW.lit.injEq, Lit.int.injEq, true_and] at hb
          rw [hb.1, ih b (by simpa [lits] using hb.2)]
    have hyz : ys = zs.take l := inj _ _ h1
    have hd : zs.drop l = [] := (inj [] _ (by simpa [lits] using h2)).symm
    have hzl : zs.length ≤ l := by simpa using hd
    have hge : l ≤ zs.length := by rw [hz]; split <;> omega
    have hzl' : zs.length = l := by omega
    have hys : ys = zs := by rw [hyz, ← hzl', List.take_length]
    subst hys
    clear hyz hd h1 h2 inj h
    refine ⟨some x, cp, by rw [hcs, hzl'], by omega, hm, rfl, hwz, (fun h => by cases h), fun _ => ?_⟩
    have hpos : 0 < ys.length := List.length_pos_iff.2 hy
    obtain ⟨b, off, spot⟩ := x
    have h0 := hcell 0 hpos
    have hspot : spot = none := by simpa [Addr.add] using World.cell?_spot h0
    subst hspot
    refine ⟨b, off, rfl, by simpa [Addr.add] using cell_lt h0, fun i hi => ?_⟩
    have hi' := hcell i hi
    have hadd : (⟨b, off, none⟩ : Addr).add i = ⟨b, off + i, none⟩ := by
      unfold Addr.add; split <;> simp_all
    rwa [hadd] at hi'
/-- The types of the named variables can be read. -/
def varsOk (P : Program) : List String → Bool
  | [] => true
  | n :: ns => (match (P.globalNamed n).bind fun g => (P.globals[g]?).map (·.type) with
      | some t => P.readableRec t && decide (t < P.types.size)
      | none => false) && varsOk P ns
theorem var_lt {P : Program} {w : World} {n : String} {g : Nat} {cs : Array Value} (hg : P.globalNamed n = some g) (h : w.var? P n = some cs) : g < w.heap.size := by
  simp only [World.var?, hg, Option.bind_some] at h
  rcases Nat.lt_or_ge g w.heap.size with hlt | hge
  · exact hlt
  · rw [Array.getElem?_eq_none hge] at h; cases h
theorem var_below {P : Program} {w w' : World} {n : String} {g : Nat} {cs : Array Value} (hg : P.globalNamed n = some g) (h : w.var? P n = some cs) (hb : Below w.heap.size w w') : w'.var? P n = some cs := by
  have hlt := var_lt hg h
  simp only [World.var?, hg, Option.bind_some] at h ⊢
  rw [hb.block g hlt]
  exact h
theorem below_vars {H : Type} {enc : TypeId × Value → H} {P : Program} {W W' : World} (hl : laidOutB P = true) : ∀ {ns : List String} {ds : List (DataW H)} {ps : List MemPlace}, varsOk P ns = true →
    DataW.TrodVars enc P W (fun _ => true) ns ds ps → Below W.heap.size W W' → DataW.TrodVars enc P W' (fun b => decide (b < W.heap.size)) ns ds ps
  | [], [], _, _, h, _ => h
  | [], _ :: _, _, _, h, _ => by simp [DataW.TrodVars] at h
  | _ :: _, [], _, _, h, _ => by simp [DataW.TrodVars] at h
  | n :: ns, d :: ds, ps, hok, h, hb => by
    obtain ⟨g, t, cs, fuel, p, q, h1, h2, h3, h4, hs, e⟩ := h
    simp only [varsOk, h1, Option.bind_some, h2, Bool.and_eq_true, decide_eq_true_eq] at hok
    have hlt : ∀ x ∈ p, x.block < W.heap.size := DataW.trod_lt fuel _ _ _ h4
    have ht := Below.trod hl hok.1.1 hok.1.2 (v := .agg cs) (show DataW.Trod enc P W 0 (fun _ => true) true t (.agg cs) d p from ⟨fuel, h4⟩) hb hlt
    obtain ⟨fuel', h4'⟩ := ht
    exact ⟨g, t, cs, fuel', p, q, h1, h2, var_below h1 h3 hb, h4', below_vars hl hok.2 hs hb, e⟩
end Go.Proofs.YtalpfbbceggcaaaDoor.Vars
