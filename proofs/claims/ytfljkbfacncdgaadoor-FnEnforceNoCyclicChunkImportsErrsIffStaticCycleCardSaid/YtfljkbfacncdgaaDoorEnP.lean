/- Ranks of a graph; what a depth-first search and Kahn's peeling say of them. Plain. -/
namespace Go.Proofs.YtfljkbfacncdgaaDoor.EnP
/-- The static edges: the first m of them. -/
structure Gr where
  n : Nat
  m : Nat
  fr : Nat → Nat
  t : Nat → Nat
  dy : Nat → Bool
def E (g : Gr) (u v : Nat) : Prop := ∃ i, i < g.m ∧ g.fr i = u ∧ g.t i = v ∧ g.dy i = false
def Fits (g : Gr) : Prop := ∀ i, i < g.m → g.fr i < g.n ∧ g.t i < g.n
def IsRank (g : Gr) (ρ : Nat → Nat) : Prop := ∀ u v, E g u v → ρ v < ρ u
def Ranked (g : Gr) : Prop := ∃ ρ, IsRank g ρ
/-- The static followers of u among the first k edges. -/
def adjL (g : Gr) : Nat → Nat → List Nat
  | 0, _ => []
  | k + 1, u => if g.fr k = u ∧ g.dy k = false then adjL g k u ++ [g.t k] else adjL g k u
theorem adjL_mem {g : Gr} {u v : Nat} : ∀ {k : Nat}, v ∈ adjL g k u ↔ ∃ i, i < k ∧ g.fr i = u ∧ g.t i = v ∧ g.dy i = false
  | 0 => by simp [adjL]
  | k + 1 => by
    have ih := adjL_mem (g := g) (u := u) (v := v) (k := k)
    unfold adjL
    by_cases h : g.fr k = u ∧ g.dy k = false
    · rw [if_pos h, List.mem_append, ih]
      constructor
      · rintro (⟨i, hi, h1⟩ | h1)
        · exact ⟨i, by omega, h1⟩
        · simp at h1; exact ⟨k, by omega, h.1, h1.symm, h.2⟩
      · rintro ⟨i, hi, h1, h2, h3⟩
        by_cases e : i = k
        · subst e; right; simp [h2]
        · left; exact ⟨i, by omega, h1, h2, h3⟩
    · rw [if_neg h, ih]
      constructor
      · rintro ⟨i, hi, h1⟩; exact ⟨i, by omega, h1⟩
      · rintro ⟨i, hi, h1, h2, h3⟩
        by_cases e : i = k
        · subst e; exact absurd ⟨h1, h3⟩ h
        · exact ⟨i, by omega, h1, h2, h3⟩
/-- The colours under the search. -/
def Blk (g : Gr) (col : Nat → Nat) : Prop := ∃ (fin : Nat → Nat) (N : Nat), ∀ u, col u = 2 → fin u < N ∧ ∀ v, E g u v → col v = 2 ∧ fin v < fin u
def Pre (g : Gr) (col : Nat → Nat) (u : Nat) : Prop := ∀ ρ, IsRank g ρ → ∀ x, col x = 1 → ρ u < ρ x
def up (f : Nat → Nat) (i x : Nat) : Nat → Nat := fun j => if j = i then x else f j
theorem up_self (f : Nat → Nat) (i x : Nat) : up f i x i = x := if_pos rfl
theorem up_ne (f : Nat → Nat) {i j : Nat} (x : Nat) (h : j ≠ i) : up f i x j = f j := if_neg h
/-- What a call that answers false may do to the colours. -/
structure Fwd (col col' : Nat → Nat) : Prop where
  grey : ∀ x, col' x = 1 ↔ col x = 1
  blk : ∀ x, col x = 2 → col' x = 2
theorem Fwd.refl (col : Nat → Nat) : Fwd col col := ⟨fun _ => Iff.rfl, fun _ h => h⟩
theorem Fwd.trans {a b c : Nat → Nat} (h : Fwd a b) (k : Fwd b c) : Fwd a c := ⟨fun x => (k.grey x).trans (h.grey x), fun x hx => k.blk x (h.blk x hx)⟩
theorem no_rank_grey {g : Gr} {col : Nat → Nat} {u : Nat} (h : Pre g col u) (hc : col u = 1) : ¬ Ranked g := fun ⟨ρ, hρ⟩ => absurd (h ρ hρ u hc) (Nat.lt_irrefl _)
theorem blk_grey {g : Gr} {col : Nat → Nat} {u : Nat} (h : Blk g col) (hc : col u = 0) : Blk g (up col u 1) := by
  obtain ⟨fin, N, hb⟩ := h
  refine ⟨fin, N, fun x hx => ?_⟩
  have hxu : x ≠ u := by rintro rfl; rw [up_self] at hx; omega
  rw [up_ne _ _ hxu] at hx
  obtain ⟨h1, h2⟩ := hb x hx
  refine ⟨h1, fun v hv => ?_⟩
  obtain ⟨h3, h4⟩ := h2 v hv
  have hvu : v ≠ u := by rintro rfl; omega
  exact ⟨by rw [up_ne _ _ hvu]; exact h3, h4⟩
/-- The call at a follower of u, u grey. -/
theorem pre_step {g : Gr} {col col' : Nat → Nat} {u v : Nat} (h : Pre g col u) (hf : Fwd (up col u 1) col') (he : E g u v) : Pre g col' v := by
  intro ρ hρ x hx
  have h1 := hρ u v he
  have hx' := (hf.grey x).1 hx
  by_cases e : x = u
  · subst e; exact h1
  · rw [up_ne _ _ e] at hx'
    exact Nat.lt_trans h1 (h ρ hρ x hx')
/-- All followers are black: u becomes black. -/
theorem blk_done {g : Gr} {col' : Nat → Nat} {u : Nat} (hb : Blk g col') (hall : ∀ v, E g u v → col' v = 2) (hu : col' u = 1) : Blk g (up col' u 2) := by
  obtain ⟨fin, N, hb⟩ := hb
  refine ⟨up fin u N, N + 1, fun x hx => ?_⟩
  by_cases e : x = u
  · subst e
    rw [up_self]
    refine ⟨Nat.lt_succ_self _, fun v hv => ?_⟩
    have h2 := hall v hv
    have hvx : v ≠ x := by rintro rfl; omega
    rw [up_ne _ _ hvx, up_ne _ _ hvx]
    exact ⟨h2, (hb v h2).1⟩
  · rw [up_ne _ _ e] at hx
    obtain ⟨h1, h2⟩ := hb x hx
    rw [up_ne _ _ e]
    refine ⟨Nat.lt_succ_of_lt h1, fun v hv => ?_⟩
    obtain ⟨h3, h4⟩ := h2 v hv
    have hvu : v ≠ u := by rintro rfl; omega
    rw [up_ne _ _ hvu, up_ne _ _ hvu]
    exact ⟨h3, h4⟩
theorem fwd_done {col col' : Nat → Nat} {u : Nat} (hf : Fwd (up col u 1) col') (hc : col u = 0) : Fwd col (up col' u 2) := by
  refine ⟨fun x => ?_, fun x hx => ?_⟩
  · by_cases e : x = u
    · subst e; rw [up_self, hc]; simp
    · rw [up_ne _ _ e]
      have := hf.grey x
      rw [up_ne _ _ e] at this
      exact this
  · by_cases e : x = u
    · subst e; rw [up_self]
    · rw [up_ne _ _ e]
      exact hf.blk x (by rw [up_ne _ _ e]; exact hx)
theorem ranked_of_black {g : Gr} {col : Nat → Nat} (hf : Fits g) (hb : Blk g col) (hall : ∀ u, u < g.n → col u = 2) : Ranked g := by
  obtain ⟨fin, N, hb⟩ := hb
  refine ⟨fin, fun u v he => ?_⟩
  have hu : u < g.n := by obtain ⟨i, hi, h1, _⟩ := he; rw [← h1]; exact (hf i hi).1
  exact ((hb u (hall u hu)).2 v he).2
/-- Kahn's end: who is left has a source that is left. -/
theorem no_rank_left {g : Gr} (Q : List Nat) (hleft : ∃ w, w < g.n ∧ w ∉ Q) (h : ∀ w, w < g.n → w ∉ Q → ∃ u, u < g.n ∧ u ∉ Q ∧ E g u w) : ¬ Ranked g := by
  rintro ⟨ρ, hρ⟩
  -- ranks are bounded over the graph
  have hbd : ∀ k, ∃ B, ∀ w, w < k → ρ w ≤ B := by
    intro k
    induction k with
    | zero => exact ⟨0, fun w hw => absurd hw (Nat.not_lt_zero w)⟩
    | succ k ih =>
      obtain ⟨B, hB⟩ := ih
      refine ⟨B + ρ k, fun w hw => ?_⟩
      by_cases e : w = k
      · subst e; omega
      · have := hB w (by omega); omega
  obtain ⟨B, hB⟩ := hbd g.n
  have key : ∀ k w, w < g.n → w ∉ Q → B - ρ w < k → False := by
    intro k
    induction k with
    | zero => intro w _ _ hk; omega
    | succ k ih =>
      intro w hw hq hk
      obtain ⟨u, hu, huq, he⟩ := h w hw hq
      have h1 := hρ u w he
      have h2 := hB u hu
      exact ih u hu huq (by omega)
  obtain ⟨w, hw, hq⟩ := hleft
  exact key _ w hw hq (Nat.lt_succ_self _)
/-- A list without doubles below n that is shorter leaves one out. -/
theorem left_of_short : ∀ (n : Nat) (Q : List Nat), Q.Nodup → Q.length < n → ∃ w, w < n ∧ w ∉ Q
  | 0, _, _, h => absurd h (Nat.not_lt_zero _)
  | n + 1, Q, hn, h => by
    by_cases hm : n ∈ Q
    · have hl : (Q.erase n).length < n := by rw [List.length_erase_of_mem hm]; have := List.length_pos_of_mem hm; omega
      obtain ⟨w, hw, hq⟩ := left_of_short n (Q.erase n) (hn.erase n) hl
      exact ⟨w, by omega, fun hwq => hq ((List.mem_erase_of_ne (by omega)).2 hwq)⟩
    · exact ⟨n, Nat.lt_succ_self n, hm⟩
/-- A list of n without doubles, all below n, holds all. -/
theorem all_of_full (n : Nat) (Q : List Nat) (hn : Q.Nodup) (hlt : ∀ w ∈ Q, w < n) (h : n ≤ Q.length) : ∀ w, w < n → w ∈ Q := by
  intro w hw
  refine Classical.byContradiction fun hq => ?_
  have h1 : (w :: Q).Nodup := List.nodup_cons.2 ⟨hq, hn⟩
  have h2 : ∀ x ∈ w :: Q, x < n := fun x hx => by
    rcases List.mem_cons.1 hx with rfl | hx
    · exact hw
    · exact hlt x hx
  have h3 : ∀ (k : Nat) (L : List Nat), L.Nodup → (∀ x ∈ L, x < k) → L.length ≤ k := by
    intro k
    induction k with
    | zero =>
      intro L _ hL
      cases L with
      | nil => exact Nat.le_refl _
      | cons a t => exact absurd (hL a (by simp)) (Nat.not_lt_zero a)
    | succ k ih =>
      intro L hL hlt
      by_cases hm : k ∈ L
      · have := ih (L.erase k) (hL.erase k) (fun x hx => by
          have h1 := hlt x (List.mem_of_mem_erase hx)
          have h2 : x ≠ k := by rintro rfl; exact absurd hx (List.Nodup.not_mem_erase hL)
          omega)
        rw [List.length_erase_of_mem hm] at this
        omega
      · have := ih L hL (fun x hx => by
          have h1 := hlt x hx
          have h2 : x ≠ k := by rintro rfl; exact hm hx
          omega)
        omega
  have := h3 n (w :: Q) h1 h2
  simp at this
  omega
/-- Kahn's end, all peeled: the place in the queue is a rank. -/
theorem ranked_of_queue {g : Gr} (hf : Fits g) (Q : List Nat) (hall : ∀ w, w < g.n → w ∈ Q) (pos : Nat → Nat) (hp : ∀ w, w ∈ Q → pos w < Q.length) (h : ∀ u v, v ∈ Q → E g u v → pos u < pos v) : Ranked g := by
  refine ⟨fun w => Q.length - pos w, fun u v he => ?_⟩
  have hv : v < g.n := by obtain ⟨i, hi, _, h1, _⟩ := he; rw [← h1]; exact (hf i hi).2
  have h1 := h u v (hall v hv) he
  have h2 := hp v (hall v hv)
  show Q.length - pos v < Q.length - pos u
  omega
end Go.Proofs.YtfljkbfacncdgaaDoor.EnP
