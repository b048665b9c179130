/- The counts, the starts and places of the followers' table, the first queue. Plain. -/
import Derived.Test.YtfljkbfacncdgaaDoorEnQ
namespace Go.Proofs.YtfljkbfacncdgaaDoor.EnR
open EnP EnQ
def cntT (g : Gr) : Nat → Nat → Nat
  | 0, _ => 0
  | k + 1, w => cntT g k w + if g.t k = w ∧ g.dy k = false then 1 else 0
def sumU (f : Nat → Nat) : Nat → Nat
  | 0 => 0
  | k + 1 => sumU f k + f k
theorem sumU_congr {f f' : Nat → Nat} : ∀ {n}, (∀ i, i < n → f i = f' i) → sumU f n = sumU f' n
  | 0, _ => rfl
  | n + 1, h => by
    show sumU f n + f n = sumU f' n + f' n
    rw [sumU_congr (n := n) (fun i hi => h i (by omega)), h n (by omega)]
theorem sumU_one {f : Nat → Nat} {u x : Nat} : ∀ {n}, u < n → sumU (fun i => f i + if i = u then x else 0) n = sumU f n + x
  | 0, h => absurd h (Nat.not_lt_zero u)
  | n + 1, h => by
    show sumU (fun i => f i + if i = u then x else 0) n + (f n + if n = u then x else 0) = sumU f n + f n + x
    by_cases e : n = u
    · subst e
      rw [if_pos rfl, sumU_congr (f' := f) (fun i hi => by rw [if_neg (by omega)]; rfl)]
      omega
    · rw [if_neg e, sumU_one (n := n) (by omega)]
      omega
theorem remK_nil {g : Gr} {w : Nat} : ∀ k, remK g [] w k = sumU (fun u => cw g u w) k
  | 0 => rfl
  | k + 1 => by
    show remK g [] w k + (if k ∈ [] then 0 else cw g k w) = sumU (fun u => cw g u w) k + cw g k w
    rw [remK_nil k, if_neg (by simp)]
theorem cnt_adj {g : Gr} (hf : Fits g) (w : Nat) : ∀ k, k ≤ g.m → sumU (fun u => (adjL g k u).count w) g.n = cntT g k w
  | 0, _ => by
    show sumU (fun u => (adjL g 0 u).count w) g.n = 0
    have : ∀ n, sumU (fun _ => 0) n = 0 := fun n => by
      induction n with
      | zero => rfl
      | succ n ih => show sumU (fun _ => 0) n + 0 = 0; rw [ih]
    exact (sumU_congr (f' := fun _ => 0) (fun i _ => by simp [adjL])).trans (this _)
  | k + 1, hk => by
    have ih := cnt_adj hf w k (by omega)
    show _ = cntT g k w + _
    by_cases hd : g.dy k = false
    · have e : ∀ u, u < g.n → (adjL g (k + 1) u).count w = (adjL g k u).count w + if u = g.fr k then (if g.t k = w then 1 else 0) else 0 := fun u _ => by
        show (if g.fr k = u ∧ g.dy k = false then adjL g k u ++ [g.t k] else adjL g k u).count w = _
        by_cases h : u = g.fr k
        · rw [if_pos ⟨h.symm, hd⟩, if_pos h, List.count_append]
          congr 1
          rw [List.count_cons]
          simp
        · rw [if_neg (fun h' => h h'.1.symm), if_neg h]
          rfl
      rw [sumU_congr e, sumU_one (hf k (by omega)).1, ih]
      simp [hd]
    · have e : ∀ u, u < g.n → (adjL g (k + 1) u).count w = (adjL g k u).count w := fun u _ => by
        show (if g.fr k = u ∧ g.dy k = false then adjL g k u ++ [g.t k] else adjL g k u).count w = _
        rw [if_neg (fun h => hd h.2)]
      rw [sumU_congr e, ih, if_neg (fun h => hd h.2)]
      rfl
theorem rem_nil {g : Gr} (hf : Fits g) (w : Nat) : remS g [] w = cntT g g.m w := (remK_nil g.n).trans (cnt_adj hf w g.m (Nat.le_refl _))
/-- The first queue, of the members below k. -/
def q0 (ind : Nat → Int) : Nat → List Nat
  | 0 => []
  | k + 1 => if ind k = 0 then q0 ind k ++ [k] else q0 ind k
theorem q0_mem {ind : Nat → Int} {w : Nat} : ∀ {k}, w ∈ q0 ind k ↔ w < k ∧ ind w = 0
  | 0 => by simp [q0]
  | k + 1 => by
    have ih := q0_mem (ind := ind) (w := w) (k := k)
    show w ∈ (if ind k = 0 then q0 ind k ++ [k] else q0 ind k) ↔ _
    by_cases h : ind k = 0
    · rw [if_pos h, List.mem_append, ih]
      constructor
      · rintro (⟨h1, h2⟩ | h1)
        · exact ⟨by omega, h2⟩
        · simp at h1; subst h1; exact ⟨by omega, h⟩
      · rintro ⟨h1, h2⟩
        by_cases e : w = k
        · right; simp [e]
        · left; exact ⟨by omega, h2⟩
    · rw [if_neg h, ih]
      constructor
      · rintro ⟨h1, h2⟩; exact ⟨by omega, h2⟩
      · rintro ⟨h1, h2⟩
        have : w ≠ k := by rintro rfl; exact h h2
        exact ⟨by omega, h2⟩
theorem q0_nodup {ind : Nat → Int} : ∀ k, (q0 ind k).Nodup
  | 0 => List.nodup_nil
  | k + 1 => by
    have ih := q0_nodup (ind := ind) k
    show (if ind k = 0 then q0 ind k ++ [k] else q0 ind k).Nodup
    by_cases h : ind k = 0
    · rw [if_pos h]
      refine List.nodup_append.2 ⟨ih, by simp, fun a ha b hb => ?_⟩
      simp at hb
      subst hb
      have := (q0_mem.1 ha).1
      omega
    · rw [if_neg h]; exact ih
theorem ko_start {g : Gr} (hf : Fits g) {ind : Nat → Int} (h : ∀ w, w < g.n → ind w = (cntT g g.m w : Nat)) : Ko g (q0 ind g.n) 0 ind := by
  refine ⟨q0_nodup _, fun w hw => (q0_mem.1 hw).1, Nat.zero_le _, fun w hw => by rw [h w hw, List.take_zero, rem_nil hf], fun w hw => ?_, fun j v hj u hu => ?_⟩
  · rw [q0_mem]; exact ⟨fun h => h.2, fun h => ⟨hw, h⟩⟩
  · have hv := q0_mem.1 (List.mem_of_getElem? hj)
    have h1 := h v hv.1
    rw [← rem_nil hf, hv.2] at h1
    have hu' : u < g.n := by obtain ⟨i, hi, e, _⟩ := hu; rw [← e]; exact (hf i hi).1
    have := remK_zero (g := g) (S := []) (w := v) (k := g.n) (by unfold remS at h1; omega) u hu' (by simp)
    have h2 := cw_pos.2 hu
    omega
/-- Where u's followers start in the table. -/
def st (g : Gr) (v : Nat) : Nat := sumU (fun x => (adjL g g.m x).length) v
theorem st_succ (g : Gr) (v : Nat) : st g (v + 1) = st g v + (adjL g g.m v).length := rfl
theorem st_le {g : Gr} : ∀ {b a : Nat}, a ≤ b → st g a ≤ st g b
  | 0, a, h => by obtain rfl : a = 0 := by omega
                  exact Nat.le_refl _
  | b + 1, a, h => by
    by_cases e : a = b + 1
    · subst e; exact Nat.le_refl _
    · have := st_le (g := g) (b := b) (a := a) (by omega)
      rw [st_succ]; omega
theorem adj_prefix {g : Gr} {u : Nat} : ∀ {k m : Nat}, k ≤ m → ∃ r, adjL g m u = adjL g k u ++ r
  | k, 0, h => by obtain rfl : k = 0 := by omega
                  exact ⟨[], by simp⟩
  | k, m + 1, h => by
    by_cases e : k = m + 1
    · subst e; exact ⟨[], by simp⟩
    · obtain ⟨r, hr⟩ := adj_prefix (g := g) (u := u) (k := k) (m := m) (by omega)
      show ∃ r, (if g.fr m = u ∧ g.dy m = false then adjL g m u ++ [g.t m] else adjL g m u) = _
      by_cases h : g.fr m = u ∧ g.dy m = false
      · rw [if_pos h, hr]; exact ⟨r ++ [g.t m], by simp⟩
      · rw [if_neg h]; exact ⟨r, hr⟩
/-- The place that the k-th edge writes lies inside its source's part of the table. -/
theorem place_lt {g : Gr} {k : Nat} (hk : k < g.m) (hd : g.dy k = false) : (adjL g k (g.fr k)).length < (adjL g g.m (g.fr k)).length := by
  obtain ⟨r, hr⟩ := adj_prefix (g := g) (u := g.fr k) (k := k + 1) (m := g.m) (by omega)
  have h1 : adjL g (k + 1) (g.fr k) = adjL g k (g.fr k) ++ [g.t k] := if_pos ⟨rfl, hd⟩
  rw [hr, h1]
  simp
/-- The table after k edges. -/
def Tb (g : Gr) (k : Nat) (adj : Nat → Int) : Prop := ∀ u, u < g.n → ∀ (j x : Nat), (adjL g k u)[j]? = some x → adj (st g u + j) = (x : Int)
theorem tb_step {g : Gr} {k : Nat} {adj : Nat → Int} (h : Tb g k adj) (hk : k < g.m) (hd : g.dy k = false) : Tb g (k + 1) (upi adj (st g (g.fr k) + (adjL g k (g.fr k)).length) (g.t k)) := by
  intro u hu j x hj
  have hp := place_lt hk hd
  have hpre : ∀ v, (adjL g k v).length ≤ (adjL g g.m v).length := fun v => by
    obtain ⟨r, hr⟩ := adj_prefix (g := g) (u := v) (k := k) (m := g.m) (by omega)
    rw [hr]; simp
  by_cases e : u = g.fr k
  · subst e
    rw [show adjL g (k + 1) (g.fr k) = adjL g k (g.fr k) ++ [g.t k] from if_pos ⟨rfl, hd⟩] at hj
    by_cases hl : j < (adjL g k (g.fr k)).length
    · rw [List.getElem?_append_left hl] at hj
      rw [upi_ne _ _ (by omega)]
      exact h _ hu j x hj
    · rw [List.getElem?_append_right (by omega)] at hj
      have h1 := (List.getElem?_eq_some_iff.1 hj).1
      simp at h1
      have h2 : j = (adjL g k (g.fr k)).length := by omega
      subst h2
      simp at hj
      rw [upi_self, hj]
  · rw [show adjL g (k + 1) u = adjL g k u from if_neg (fun h => e h.1.symm)] at hj
    have hl := (List.getElem?_eq_some_iff.1 hj).1
    have h1 := hpre u
    have hne : st g u + j ≠ st g (g.fr k) + (adjL g k (g.fr k)).length := by
      rcases Nat.lt_or_ge u (g.fr k) with h' | h'
      · have := st_le (g := g) (a := u + 1) (b := g.fr k) h'
        rw [st_succ] at this
        omega
      · have := st_le (g := g) (a := g.fr k + 1) (b := u) (by omega)
        rw [st_succ] at this
        omega
    rw [upi_ne _ _ hne]
    exact h u hu j x hj
end Go.Proofs.YtfljkbfacncdgaaDoor.EnR
