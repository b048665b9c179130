/- FnCookedAndRawTemplateContentsWhole: plain: what a raw text says. -/
import Derived.Test.YtalpfbbceggcaaaDoorCwV
import Derived.WalkKit
import Derived.ProofKit
import Derived.OpenShut
import Derived.Below
import Derived.WalkLawsBesides
import Derived.Lib.Hide
import Derived.Outline
import Derived.RegionTactic
import Derived.Deep.QuietTactic
import Derived.BigQuiet
import Derived.WalkSpells
import Derived.Deep.OwnRows
import Derived.IntWalk
import Derived.Deep.DeepMust
namespace Go.Proofs.YtalpfbbceggcaaaDoor.CwS
open CwP
set_option linter.unusedVariables false
/-- The raw text b says the units us. -/
inductive Dec : List Int → List Int → Prop
  | nil : Dec [] []
  | lc (l : List Int) {b us : List Int} : (l = [92, 10] ∨ l = [92, 226, 128, 168] ∨ l = [92, 226, 128, 169]) → Dec b us → Dec (l ++ b) us
  | pc (u : Int) (p : List Int) {b us : List Int} : Frm u p → 0 ≤ u → u ≤ 65535 → Dec b us → Dec (p ++ b) (u :: us)
theorem Dec.append {a us b vs : List Int} (h : Dec a us) (k : Dec b vs) : Dec (a ++ b) (us ++ vs) := by
  induction h with
  | nil => exact k
  | lc l hl _ ih => rw [List.append_assoc]; exact .lc l hl ih
  | pc u p hF h0 h1 _ ih => rw [List.append_assoc]; exact .pc u p hF h0 h1 ih
theorem dec_one (u m : Int) (h0 : 0 ≤ u) (h1 : u ≤ 65535) : Dec (lcR m ++ pcR u m) [u] := by
  have hp : Dec (pcR u m) [u] := by have := Dec.pc u (pcR u m) (frm_of u m) h0 h1 .nil; rwa [List.append_nil] at this
  rcases lcR_cases m with e | e | e | e <;> rw [e]
  · exact hp
  · exact .lc _ (.inl rfl) hp
  · exact .lc _ (.inr (.inl rfl)) hp
  · exact .lc _ (.inr (.inr rfl)) hp
theorem dec_enc (U M : List Int) (hU : ∀ i, 0 ≤ U.getD i 0 ∧ U.getD i 0 ≤ 65535) : ∀ k, k ≤ U.length → Dec (encR U M k) (U.take k)
  | 0, _ => by simpa [encR] using Dec.nil
  | k + 1, h => by
    rw [encR_succ, show U.take (k + 1) = U.take k ++ [U.getD k 0] by
      rw [List.take_add_one]
      simp [List.getD, List.getElem?_eq_getElem (show k < U.length by omega)]]
    exact (dec_enc U M hU k (by omega)).append (dec_one _ _ (hU k).1 (hU k).2)
end Go.Proofs.YtalpfbbceggcaaaDoor.CwS
