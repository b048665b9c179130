/- FnCookedAndRawTemplateContentsWhole: plain: the pieces of an encoded text. -/
import Derived.WalkKit
namespace Go.Proofs.YtalpfbbceggcaaaDoor.CwP
set_option linter.unusedVariables false
/-- A hexadecimal digit. -/
def hd (v : Int) (up : Bool) : Int := if v < 10 then 48 + v else if up = true then 55 + v else 87 + v
/-- n digits of u. -/
def hx (u : Int) (up : Bool) : Nat → List Int
  | 0 => []
  | n + 1 => hd (u / (16 ^ n : Nat) % 16) up :: hx u up n
def hl (u : Int) : Nat := if u < 16 then 1 else if u < 256 then 2 else if u < 4096 then 3 else 4
def u4 (u : Int) (up : Bool) : List Int := [92, 117] ++ hx u up 4
def ub (u : Int) (up : Bool) (z : Nat) : List Int := [92, 117, 123] ++ List.replicate z 48 ++ hx u up (hl u) ++ [125]
def utf (u : Int) : List Int := if u < 128 then [u] else if u < 2048 then [192 + u / 64, 128 + u % 64] else [224 + u / 4096, 128 + u / 64 % 64, 128 + u % 64]
def rawA (u : Int) : Bool := decide (32 ≤ u ∧ u ≤ 126 ∧ u ≠ 92 ∧ u ≠ 34 ∧ u ≠ 39 ∧ u ≠ 96 ∧ u ≠ 36)
def sur (u : Int) : Bool := decide (55296 ≤ u ∧ u ≤ 57343)
def idn (u : Int) : Bool := decide ((32 ≤ u ∧ u ≤ 126 ∧ ¬ (48 ≤ u ∧ u ≤ 57) ∧ u ≠ 98 ∧ u ≠ 102 ∧ u ≠ 110 ∧ u ≠ 114 ∧ u ≠ 116 ∧ u ≠ 118 ∧ u ≠ 120 ∧ u ≠ 117) ∨ (128 ≤ u ∧ ¬ (55296 ≤ u ∧ u ≤ 57343) ∧ u ≠ 8232 ∧ u ≠ 8233))
def esc (u : Int) : Int := if u = 8 then 98 else if u = 9 then 116 else if u = 10 then 110 else if u = 11 then 118 else if u = 12 then 102 else if u = 13 then 114 else 0
def up8 (m : Int) : Bool := decide (m / 8 % 2 = 1)
/-- The line continuation ahead of a unit: as it is encoded; as it is wanted raw. -/
def lcE (m : Int) : List Int :=
  if m / 64 % 2 = 1 then
    (if m / 128 % 2 * 2 + m / 32 % 2 = 0 then [92, 10] else if m / 128 % 2 * 2 + m / 32 % 2 = 1 then [92, 13] else if m / 128 % 2 * 2 + m / 32 % 2 = 2 then [92, 13, 10] else if up8 m = true then [92, 226, 128, 169] else [92, 226, 128, 168])
  else []
def lcR (m : Int) : List Int :=
  if m / 64 % 2 = 1 then
    (if m / 128 % 2 * 2 + m / 32 % 2 = 3 then (if up8 m = true then [92, 226, 128, 169] else [92, 226, 128, 168]) else [92, 10])
  else []
/-- The text of a unit. -/
def pcE (u m : Int) : List Int :=
  if m % 8 = 1 then (if u < 256 then [92, 120] ++ hx u (up8 m) 2 else ub u (up8 m) 0)
  else if m % 8 = 2 then u4 u (up8 m)
  else if m % 8 = 3 then ub u (up8 m) (m / 16 % 4).toNat
  else if m % 8 = 4 then (if esc u ≠ 0 then [92, esc u] else if idn u = true then 92 :: utf u else u4 u (up8 m))
  else if m % 8 = 5 then (if u = 10 then (if up8 m = true then [13, 10] else [13]) else u4 u (up8 m))
  else if rawA u = true then [u] else if 128 ≤ u ∧ sur u = false then utf u else u4 u (up8 m)
def pcR (u m : Int) : List Int := if m % 8 = 5 ∧ u = 10 then [10] else pcE u m
def mo (M : List Int) (i : Nat) : Int := if M.length = 0 then 0 else M.getD (i % M.length) 0
def encE (U M : List Int) (k : Nat) : List Int := (List.range k).flatMap fun i => lcE (mo M i) ++ pcE (U.getD i 0) (mo M i)
def encR (U M : List Int) (k : Nat) : List Int := (List.range k).flatMap fun i => lcR (mo M i) ++ pcR (U.getD i 0) (mo M i)
theorem encE_succ (U M : List Int) (k : Nat) : encE U M (k + 1) = encE U M k ++ (lcE (mo M k) ++ pcE (U.getD k 0) (mo M k)) := by unfold encE; rw [List.range_succ, List.flatMap_append]; simp
theorem encR_succ (U M : List Int) (k : Nat) : encR U M (k + 1) = encR U M k ++ (lcR (mo M k) ++ pcR (U.getD k 0) (mo M k)) := by unfold encR; rw [List.range_succ, List.flatMap_append]; simp
/-- CR and CRLF read as LF. -/
def nrm : List Int → List Int
  | [] => []
  | [c] => [if c = 13 then 10 else c]
  | c :: d :: t => if c = 13 then (if d = 10 then 10 :: nrm t else 10 :: nrm (d :: t)) else c :: nrm (d :: t)
theorem nrm_cons (c : Int) (t : List Int) (h : c ≠ 13) : nrm (c :: t) = c :: nrm t := by
  cases t with
  | nil => simp [nrm, h]
  | cons d t => rw [nrm, if_neg h]
theorem nrm_plain : ∀ (a b : List Int), (∀ c ∈ a, c ≠ 13) → nrm (a ++ b) = a ++ nrm b
  | [], b, _ => rfl
  | c :: a, b, h => by rw [List.cons_append, nrm_cons c _ (h c (by simp)), nrm_plain a b (fun c hc => h c (by simp [hc]))]; rfl
theorem nrm_cr (b : List Int) (h : b.head? ≠ some 10) : nrm (13 :: b) = 10 :: nrm b := by
  cases b with
  | nil => simp [nrm]
  | cons d t =>
    have : d ≠ 10 := fun e => h (by simp [e])
    rw [nrm, if_pos rfl, if_neg this]
theorem nrm_crlf (b : List Int) : nrm (13 :: 10 :: b) = 10 :: nrm b := by rw [nrm, if_pos rfl, if_pos rfl]
theorem hd_ne {v : Int} (h0 : 0 ≤ v) (up : Bool) : 48 ≤ hd v up := by unfold hd; split <;> (try split) <;> omega
theorem hx_ge (u : Int) (up : Bool) : ∀ n, ∀ c ∈ hx u up n, 48 ≤ c
  | 0, c, h => by simp [hx] at h
  | n + 1, c, h => by
    simp only [hx, List.mem_cons] at h
    rcases h with rfl | h
    · exact hd_ne (Int.emod_nonneg _ (by decide)) up
    · exact hx_ge u up n c h
theorem u4_ge (u : Int) (up : Bool) : ∀ c ∈ u4 u up, 48 ≤ c := fun c h => by
  simp only [u4, List.mem_append, List.mem_cons, List.not_mem_nil, or_false] at h
  rcases h with (rfl | rfl) | h
  · omega
  · omega
  · exact hx_ge _ _ _ c h
theorem ub_ge (u : Int) (up : Bool) (z : Nat) : ∀ c ∈ ub u up z, 48 ≤ c := fun c h => by
  simp only [ub, List.mem_append, List.mem_cons, List.not_mem_nil, or_false, List.mem_replicate] at h
  rcases h with (((rfl | rfl | rfl) | ⟨_, rfl⟩) | h) | rfl
  · omega
  · omega
  · omega
  · omega
  · exact hx_ge _ _ _ c h
  · omega
theorem utf_ge {u : Int} (h : 32 ≤ u) : ∀ c ∈ utf u, 32 ≤ c := fun c hc => by
  unfold utf at hc
  split at hc
  · simp at hc; omega
  · split at hc <;> simp at hc <;> omega
/-- A unit's text holds no CR but where LF is written as one; it does not begin with LF. -/
theorem pcE_plain (u m : Int) (h : ¬ (m % 8 = 5 ∧ u = 10)) : ∀ c ∈ pcE u m, 32 ≤ c := by
  have a4 : ∀ c ∈ u4 u (up8 m), 32 ≤ c := fun c hc => by have := u4_ge u (up8 m) c hc; omega
  have ab : ∀ z, ∀ c ∈ ub u (up8 m) z, 32 ≤ c := fun z c hc => by have := ub_ge u (up8 m) z c hc; omega
  intro c hc
  unfold pcE at hc
  by_cases h1 : m % 8 = 1
  · rw [if_pos h1] at hc
    split at hc
    · simp only [List.mem_append, List.mem_cons, List.not_mem_nil, or_false] at hc
      rcases hc with (rfl | rfl) | hc
      · omega
      · omega
      · have := hx_ge _ _ _ c hc; omega
    · exact ab _ c hc
  rw [if_neg h1] at hc
  by_cases h2 : m % 8 = 2
  · rw [if_pos h2] at hc; exact a4 c hc
  rw [if_neg h2] at hc
  by_cases h3 : m % 8 = 3
  · rw [if_pos h3] at hc; exact ab _ c hc
  rw [if_neg h3] at hc
  by_cases h4 : m % 8 = 4
  · rw [if_pos h4] at hc
    split at hc
    · simp only [List.mem_cons, List.not_mem_nil, or_false] at hc
      rcases hc with rfl | rfl
      · omega
      · unfold esc at *; split <;> (try split) <;> (try split) <;> (try split) <;> (try split) <;> (try split) <;> first | omega | simp_all
    · split at hc
      · rename_i hi
        simp only [List.mem_cons] at hc
        rcases hc with rfl | hc
        · omega
        · refine utf_ge ?_ c hc
          unfold idn at hi
          simp only [decide_eq_true_eq] at hi
          omega
      · exact a4 c hc
  rw [if_neg h4] at hc
  by_cases h5 : m % 8 = 5
  · rw [if_pos h5, if_neg (fun e => h ⟨h5, e⟩)] at hc
    exact a4 c hc
  rw [if_neg h5] at hc
  split at hc
  · rename_i hr
    unfold rawA at hr
    simp only [decide_eq_true_eq] at hr
    simp at hc
    omega
  · split at hc
    · exact utf_ge (by omega) c hc
    · exact a4 c hc
theorem pcE_ne (u m : Int) : pcE u m ≠ [] := by
  unfold pcE u4 ub utf
  repeat (first | split | simp)
theorem pc_head (u m : Int) (b : List Int) : (pcE u m ++ b).head? ≠ some 10 := by
  by_cases h : m % 8 = 5 ∧ u = 10
  · unfold pcE
    rw [if_neg (by omega), if_neg (by omega), if_neg (by omega), if_neg (by omega), if_pos h.1, if_pos h.2]
    split <;> simp
  · have hp := pcE_plain u m h
    cases he : pcE u m with
    | nil => exact absurd he (pcE_ne u m)
    | cons c t =>
      rw [he] at hp
      have := hp c (by simp)
      simp
      omega
theorem lcE_form (m : Int) : lcE m = [] ∨ ∃ t, lcE m = 92 :: t := by
  unfold lcE
  by_cases h : m / 64 % 2 = 1
  · rw [if_pos h]
    right
    split
    · exact ⟨_, rfl⟩
    · split
      · exact ⟨_, rfl⟩
      · split
        · exact ⟨_, rfl⟩
        · split <;> exact ⟨_, rfl⟩
  · rw [if_neg h]; exact .inl rfl
theorem lc_head (m : Int) (b : List Int) (h : b.head? ≠ some 10) : (lcE m ++ b).head? ≠ some 10 := by
  rcases lcE_form m with e | ⟨t, e⟩
  · rw [e]; exact h
  · rw [e]; simp
theorem nrm_lc (m : Int) (b : List Int) (h : b.head? ≠ some 10) : nrm (lcE m ++ b) = lcR m ++ nrm b := by
  unfold lcE lcR
  by_cases h1 : m / 64 % 2 = 1
  · rw [if_pos h1, if_pos h1]
    have hk : m / 128 % 2 * 2 + m / 32 % 2 = 0 ∨ m / 128 % 2 * 2 + m / 32 % 2 = 1 ∨ m / 128 % 2 * 2 + m / 32 % 2 = 2 ∨ m / 128 % 2 * 2 + m / 32 % 2 = 3 := by omega
    generalize m / 128 % 2 * 2 + m / 32 % 2 = k at hk ⊢
    rcases hk with rfl | rfl | rfl | rfl
    · exact nrm_plain [92, 10] b (by simp)
    · show nrm (92 :: (13 :: b)) = _
      rw [nrm_cons _ _ (by decide), nrm_cr b h]; rfl
    · show nrm (92 :: (13 :: 10 :: b)) = _
      rw [nrm_cons _ _ (by decide), nrm_crlf b]; rfl
    · cases up8 m
      · exact nrm_plain [92, 226, 128, 168] b (by simp)
      · exact nrm_plain [92, 226, 128, 169] b (by simp)
  · rw [if_neg h1, if_neg h1]; rfl
theorem nrm_pc (u m : Int) (b : List Int) (h : b.head? ≠ some 10) : nrm (pcE u m ++ b) = pcR u m ++ nrm b := by
  by_cases hc : m % 8 = 5 ∧ u = 10
  · unfold pcR
    rw [if_pos hc]
    unfold pcE
    rw [if_neg (by omega), if_neg (by omega), if_neg (by omega), if_neg (by omega), if_pos hc.1, if_pos hc.2]
    cases up8 m
    · exact nrm_cr b h
    · exact nrm_crlf b
  · unfold pcR
    rw [if_neg hc]
    exact nrm_plain _ b (fun c hc' => by have := pcE_plain u m hc c hc'; omega)
theorem nrm_enc (U M : List Int) : ∀ (k : Nat) (b : List Int), b.head? ≠ some 10 → nrm (encE U M k ++ b) = encR U M k ++ nrm b
  | 0, b, _ => rfl
  | k + 1, b, h => by
    rw [encE_succ, encR_succ, List.append_assoc, List.append_assoc, nrm_enc U M k _ (lc_head _ _ (pc_head _ _ _)), nrm_lc _ _ (pc_head _ _ _), nrm_pc _ _ _ h]
    simp
/-- The wanted raw text is the encoded text with its line breaks read as LF. -/
theorem nrm_whole (U M : List Int) (k : Nat) : nrm (encE U M k) = encR U M k := by
  have := nrm_enc U M k [] (by simp)
  simpa [nrm] using this
/-- The forms in which a unit stands in the raw text. -/
inductive Frm (u : Int) : List Int → Prop
  | x (up : Bool) : u < 256 → Frm u ([92, 120] ++ hx u up 2)
  | u4 (up : Bool) : Frm u (u4 u up)
  | ub (up : Bool) (z : Nat) : z ≤ 3 → Frm u (ub u up z)
  | esc : esc u ≠ 0 → Frm u [92, esc u]
  | idn : idn u = true → Frm u (92 :: utf u)
  | lf : u = 10 → Frm u [10]
  | raw : rawA u = true → Frm u [u]
  | utf : 128 ≤ u → sur u = false → Frm u (utf u)
theorem frm_of (u m : Int) : Frm u (pcR u m) := by
  by_cases hc : m % 8 = 5 ∧ u = 10
  · unfold pcR; rw [if_pos hc]; exact .lf hc.2
  · unfold pcR; rw [if_neg hc]
    unfold pcE
    by_cases h1 : m % 8 = 1
    · rw [if_pos h1]
      split
      · rename_i h; exact .x _ h
      · exact .ub _ 0 (by omega)
    rw [if_neg h1]
    by_cases h2 : m % 8 = 2
    · rw [if_pos h2]; exact .u4 _
    rw [if_neg h2]
    by_cases h3 : m % 8 = 3
    · rw [if_pos h3]; exact .ub _ _ (by omega)
    rw [if_neg h3]
    by_cases h4 : m % 8 = 4
    · rw [if_pos h4]
      split
      · rename_i h; exact .esc h
      · split
        · rename_i h; exact .idn h
        · exact .u4 _
    rw [if_neg h4]
    by_cases h5 : m % 8 = 5
    · rw [if_pos h5, if_neg (fun e => hc ⟨h5, e⟩)]; exact .u4 _
    rw [if_neg h5]
    split
    · rename_i h; exact .raw h
    · split
      · rename_i h; exact .utf h.1 h.2
      · exact .u4 _
/-- The forms of a line continuation in the raw text. -/
theorem lcR_cases (m : Int) : lcR m = [] ∨ lcR m = [92, 10] ∨ lcR m = [92, 226, 128, 168] ∨ lcR m = [92, 226, 128, 169] := by
  unfold lcR
  repeat (first | split | simp)
end Go.Proofs.YtalpfbbceggcaaaDoor.CwP
