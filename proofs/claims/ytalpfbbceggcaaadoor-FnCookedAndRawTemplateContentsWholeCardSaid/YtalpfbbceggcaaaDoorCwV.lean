/- FnCookedAndRawTemplateContentsWhole: plain: the texts are bytes. -/
import Derived.Test.YtalpfbbceggcaaaDoorCwP
namespace Go.Proofs.YtalpfbbceggcaaaDoor.CwV
open CwP
set_option linter.unusedVariables false
def By (c : Int) : Prop := 0 ≤ c ∧ c ≤ 255
theorem hd_b {v : Int} (h0 : 0 ≤ v) (h1 : v ≤ 15) (up : Bool) : By (hd v up) := by unfold hd By; split <;> (try split) <;> omega
theorem hx_b (u : Int) (up : Bool) : ∀ n, ∀ c ∈ hx u up n, By c
  | 0, c, h => by simp [hx] at h
  | n + 1, c, h => by
    simp only [hx, List.mem_cons] at h
    rcases h with rfl | h
    · exact hd_b (Int.emod_nonneg _ (by decide)) (by have := Int.emod_lt_of_pos (u / (16 ^ n : Nat)) (show (0 : Int) < 16 by decide); omega) up
    · exact hx_b u up n c h
theorem utf_b {u : Int} (h0 : 0 ≤ u) (h1 : u ≤ 65535) : ∀ c ∈ utf u, By c := fun c hc => by
  unfold utf at hc
  unfold By
  split at hc
  · simp at hc; omega
  · split at hc <;> simp at hc <;> omega
theorem u4_b (u : Int) (up : Bool) : ∀ c ∈ u4 u up, By c := fun c h => by
  simp only [u4, List.mem_append, List.mem_cons, List.not_mem_nil, or_false] at h
  rcases h with (rfl | rfl) | h
  · unfold By; omega
  · unfold By; omega
  · exact hx_b _ _ _ c h
theorem ub_b (u : Int) (up : Bool) (z : Nat) : ∀ c ∈ ub u up z, By c := fun c h => by
  simp only [ub, List.mem_append, List.mem_cons, List.not_mem_nil, or_false, List.mem_replicate] at h
  rcases h with (((rfl | rfl | rfl) | ⟨_, rfl⟩) | h) | rfl
  · unfold By; omega
  · unfold By; omega
  · unfold By; omega
  · unfold By; omega
  · exact hx_b _ _ _ c h
  · unfold By; omega
theorem pcE_b {u m : Int} (h0 : 0 ≤ u) (h1 : u ≤ 65535) : ∀ c ∈ pcE u m, By c := by
  intro c hc
  unfold pcE at hc
  by_cases h1 : m % 8 = 1
  · rw [if_pos h1] at hc
    split at hc
    · simp only [List.mem_append, List.mem_cons, List.not_mem_nil, or_false] at hc
      rcases hc with (rfl | rfl) | hc
      · unfold By; omega
      · unfold By; omega
      · exact hx_b _ _ _ c hc
    · exact ub_b _ _ _ c hc
  rw [if_neg h1] at hc
  by_cases h2 : m % 8 = 2
  · rw [if_pos h2] at hc; exact u4_b _ _ c hc
  rw [if_neg h2] at hc
  by_cases h3 : m % 8 = 3
  · rw [if_pos h3] at hc; exact ub_b _ _ _ c hc
  rw [if_neg h3] at hc
  by_cases h4 : m % 8 = 4
  · rw [if_pos h4] at hc
    split at hc
    · simp only [List.mem_cons, List.not_mem_nil, or_false] at hc
      rcases hc with rfl | rfl
      · unfold By; omega
      · unfold By esc; repeat' split
        all_goals omega
    · split at hc
      · simp only [List.mem_cons] at hc
        rcases hc with rfl | hc
        · unfold By; omega
        · exact utf_b h0 (by omega) c hc
      · exact u4_b _ _ c hc
  rw [if_neg h4] at hc
  by_cases h5 : m % 8 = 5
  · rw [if_pos h5] at hc
    split at hc
    · split at hc
      · simp at hc; unfold By; omega
      · simp at hc; unfold By; omega
    · exact u4_b _ _ c hc
  rw [if_neg h5] at hc
  split at hc
  · rename_i hr
    unfold rawA at hr
    simp only [decide_eq_true_eq] at hr
    simp at hc
    unfold By
    omega
  · split at hc
    · exact utf_b h0 (by omega) c hc
    · exact u4_b _ _ c hc
theorem pcR_b {u m : Int} (h0 : 0 ≤ u) (h1 : u ≤ 65535) : ∀ c ∈ pcR u m, By c := by
  intro c hc
  unfold pcR at hc
  split at hc
  · simp at hc; unfold By; omega
  · exact pcE_b h0 h1 c hc
theorem lcR_b (m : Int) : ∀ c ∈ lcR m, By c := by
  intro c hc
  unfold By
  rcases lcR_cases m with e | e | e | e <;> rw [e] at hc <;> simp at hc <;> omega
theorem lcE_b (m : Int) : ∀ c ∈ lcE m, By c := by
  intro c hc
  unfold By
  unfold lcE at hc
  repeat' split at hc
  all_goals simp at hc
  all_goals omega
theorem encE_b {U M : List Int} (hU : ∀ i, 0 ≤ U.getD i 0 ∧ U.getD i 0 ≤ 65535) : ∀ k, ∀ c ∈ encE U M k, By c
  | 0, c, hc => by simp [encE] at hc
  | k + 1, c, hc => by
    rw [encE_succ] at hc
    simp only [List.mem_append] at hc
    rcases hc with hc | hc | hc
    · exact encE_b hU k c hc
    · exact lcE_b _ c hc
    · exact pcE_b (hU k).1 (hU k).2 c hc
theorem encR_b {U M : List Int} (hU : ∀ i, 0 ≤ U.getD i 0 ∧ U.getD i 0 ≤ 65535) : ∀ k, ∀ c ∈ encR U M k, By c
  | 0, c, hc => by simp [encR] at hc
  | k + 1, c, hc => by
    rw [encR_succ] at hc
    simp only [List.mem_append] at hc
    rcases hc with hc | hc | hc
    · exact encR_b hU k c hc
    · exact lcR_b _ c hc
    · exact pcR_b (hU k).1 (hU k).2 c hc
end Go.Proofs.YtalpfbbceggcaaaDoor.CwV
