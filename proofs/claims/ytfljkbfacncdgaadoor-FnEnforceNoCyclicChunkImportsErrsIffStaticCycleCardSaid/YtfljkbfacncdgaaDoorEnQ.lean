/- Kahn's peeling, step by step. Plain. -/
import Derived.Test.YtfljkbfacncdgaaDoorEnP
namespace Go.Proofs.YtfljkbfacncdgaaDoor.EnQ
open EnP
/-- How many edges lead from u to w. -/
def cw (g : Gr) (u w : Nat) : Nat := (adjL g g.m u).count w
theorem cw_pos {g : Gr} {u w : Nat} : 0 < cw g u w ↔ E g u w := by
  unfold cw E
  rw [List.count_pos_iff, adjL_mem]
/-- The edges into w whose source is not in S, sources below k. -/
def remK (g : Gr) (S : List Nat) (w : Nat) : Nat → Nat
  | 0 => 0
  | k + 1 => remK g S w k + if k ∈ S then 0 else cw g k w
def remS (g : Gr) (S : List Nat) (w : Nat) : Nat := remK g S w g.n
theorem remK_app {g : Gr} {S : List Nat} {v w : Nat} (hv : v ∉ S) : ∀ k, remK g (S ++ [v]) w k + (if v < k then cw g v w else 0) = remK g S w k
  | 0 => by simp [remK]
  | k + 1 => by
    have ih := remK_app (g := g) (w := w) hv k
    show remK g (S ++ [v]) w k + (if k ∈ S ++ [v] then 0 else cw g k w) + _ = remK g S w k + (if k ∈ S then 0 else cw g k w)
    by_cases e : k = v
    · subst e
      rw [if_neg hv, if_pos (List.mem_append.2 (.inr (by simp))), if_pos (Nat.lt_succ_self k)]
      rw [if_neg (Nat.lt_irrefl k)] at ih
      omega
    · have h1 : (k ∈ S ++ [v]) = (k ∈ S) := by simp [e]
      have h2 : (v < k + 1) = (v < k) := by apply propext; omega
      simp only [h1, h2]
      omega
theorem remS_app {g : Gr} {S : List Nat} {v w : Nat} (hv : v ∉ S) (hn : v < g.n) : remS g (S ++ [v]) w + cw g v w = remS g S w := by
  have := remK_app (g := g) (w := w) hv g.n
  rw [if_pos hn] at this
  exact this
theorem remK_pos {g : Gr} {S : List Nat} {w : Nat} : ∀ {k}, 0 < remK g S w k → ∃ u, u < k ∧ u ∉ S ∧ 0 < cw g u w
  | 0, h => absurd h (Nat.lt_irrefl 0)
  | k + 1, h => by
    have h : 0 < remK g S w k + (if k ∈ S then 0 else cw g k w) := h
    by_cases hk : k ∈ S
    · rw [if_pos hk] at h
      obtain ⟨u, h1, h2⟩ := remK_pos (k := k) h
      exact ⟨u, by omega, h2⟩
    · rw [if_neg hk] at h
      by_cases hc : 0 < cw g k w
      · exact ⟨k, Nat.lt_succ_self k, hk, hc⟩
      · obtain ⟨u, h1, h2⟩ := remK_pos (k := k) (by have : cw g k w = 0 := by omega
                                                    rw [this] at h; exact h)
        exact ⟨u, by omega, h2⟩
theorem remK_zero {g : Gr} {S : List Nat} {w : Nat} : ∀ {k}, remK g S w k = 0 → ∀ u, u < k → u ∉ S → cw g u w = 0
  | 0, _, u, hu, _ => absurd hu (Nat.not_lt_zero u)
  | k + 1, h, u, hu, hs => by
    have h : remK g S w k + (if k ∈ S then 0 else cw g k w) = 0 := h
    by_cases e : u = k
    · subst e
      rw [if_neg hs] at h
      omega
    · exact remK_zero (k := k) (Nat.add_eq_zero_iff.1 h).1 u (by omega) hs
/-- Between two members. -/
structure Ko (g : Gr) (Q : List Nat) (h : Nat) (ind : Nat → Int) : Prop where
  nodup : Q.Nodup
  lt : ∀ w ∈ Q, w < g.n
  hle : h ≤ Q.length
  ix : ∀ w, w < g.n → ind w = (remS g (Q.take h) w : Nat)
  mem : ∀ w, w < g.n → (w ∈ Q ↔ ind w = 0)
  src : ∀ (j v : Nat), Q[j]? = some v → ∀ u, E g u v → ∃ k, k < j ∧ Q[k]? = some u
/-- Inside a member v, p of its followers handled. -/
structure Ka (g : Gr) (Q : List Nat) (h v p : Nat) (ind : Nat → Int) : Prop where
  nodup : Q.Nodup
  lt : ∀ w ∈ Q, w < g.n
  at_ : Q[h]? = some v
  ix : ∀ w, w < g.n → ind w = (remS g (Q.take (h + 1)) w + ((adjL g g.m v).drop p).count w : Nat)
  mem : ∀ w, w < g.n → (w ∈ Q ↔ ind w = 0)
  src : ∀ (j v : Nat), Q[j]? = some v → ∀ u, E g u v → ∃ k, k < j ∧ Q[k]? = some u
def upi (f : Nat → Int) (i : Nat) (x : Int) : Nat → Int := fun j => if j = i then x else f j
theorem upi_self (f : Nat → Int) (i : Nat) (x : Int) : upi f i x i = x := if_pos rfl
theorem upi_ne (f : Nat → Int) {i j : Nat} (x : Int) (h : j ≠ i) : upi f i x j = f j := if_neg h
theorem take_succ_of {Q : List Nat} {h v : Nat} (hv : Q[h]? = some v) : Q.take (h + 1) = Q.take h ++ [v] := by
  rw [List.take_add_one, hv]; rfl
theorem not_mem_take {Q : List Nat} {h v : Nat} (hn : Q.Nodup) (hv : Q[h]? = some v) : v ∉ Q.take h := by
  intro hm
  obtain ⟨i, hi, e⟩ := List.mem_iff_getElem.1 hm
  rw [List.length_take] at hi
  have h1 : Q[i]? = some v := by
    rw [List.getElem_take] at e
    rw [← e]; exact List.getElem?_eq_getElem (by omega)
  have := (List.getElem?_inj (by omega) hn).1 (h1.trans hv.symm)
  omega
theorem Ko.enter {g : Gr} {Q : List Nat} {h v : Nat} {ind : Nat → Int} (k : Ko g Q h ind) (hv : Q[h]? = some v) : Ka g Q h v 0 ind := by
  refine ⟨k.nodup, k.lt, hv, fun w hw => ?_, k.mem, k.src⟩
  rw [k.ix w hw, take_succ_of hv]
  have hvm : v ∈ Q := List.mem_of_getElem? hv
  have := remS_app (g := g) (w := w) (not_mem_take k.nodup hv) (k.lt v hvm)
  rw [List.drop_zero]
  show ((remS g (Q.take h) w : Nat) : Int) = ((remS g (Q.take h ++ [v]) w + cw g v w : Nat) : Int)
  rw [this]
theorem Ka.leave {g : Gr} {Q : List Nat} {h v : Nat} {ind : Nat → Int} {p : Nat} (k : Ka g Q h v p ind) (hp : (adjL g g.m v).length ≤ p) : Ko g Q (h + 1) ind := by
  refine ⟨k.nodup, k.lt, (List.getElem?_eq_some_iff.1 k.at_).1, fun w hw => ?_, k.mem, k.src⟩
  rw [k.ix w hw, List.drop_of_length_le hp]
  simp
theorem count_drop {L : List Nat} {p x w : Nat} (hx : L[p]? = some x) : (L.drop p).count w = (if x = w then 1 else 0) + (L.drop (p + 1)).count w := by
  have hp := (List.getElem?_eq_some_iff.1 hx).1
  have e : L.drop p = x :: L.drop (p + 1) := by
    rw [List.drop_eq_getElem_cons hp]
    congr 1
    have := List.getElem?_eq_getElem hp
    rw [this] at hx
    exact Option.some.inj hx
  rw [e, List.count_cons]
  simp only [beq_iff_eq]
  omega
/-- A follower is handled; it is not yet peeled. -/
theorem Ka.step {g : Gr} {Q : List Nat} {h v p x : Nat} {ind : Nat → Int} (k : Ka g Q h v p ind) (hx : (adjL g g.m v)[p]? = some x) (hxn : x < g.n) (hne : ind x - 1 ≠ 0) : Ka g Q h v (p + 1) (upi ind x (ind x - 1)) := by
  have hi : ∀ w, w < g.n → upi ind x (ind x - 1) w = (remS g (Q.take (h + 1)) w + ((adjL g g.m v).drop (p + 1)).count w : Nat) := fun w hw => by
    have h1 := k.ix w hw
    have h2 := count_drop (w := w) hx
    by_cases e : w = x
    · subst e
      rw [upi_self]
      rw [if_pos rfl] at h2
      omega
    · rw [upi_ne _ _ e]
      rw [if_neg (fun h => e h.symm)] at h2
      omega
  refine ⟨k.nodup, k.lt, k.at_, hi, fun w hw => ?_, k.src⟩
  by_cases e : w = x
  · subst e
    rw [upi_self]
    have h1 := k.ix w hw
    have h2 := count_drop (w := w) hx
    rw [if_pos rfl] at h2
    constructor
    · intro hm; have := (k.mem w hw).1 hm; omega
    · intro h0; exact absurd h0 hne
  · rw [upi_ne _ _ e]; exact k.mem w hw
/-- A follower is handled and joins the queue. -/
theorem Ka.join {g : Gr} {Q : List Nat} {h v p x : Nat} {ind : Nat → Int} (k : Ka g Q h v p ind) (hf : Fits g) (hx : (adjL g g.m v)[p]? = some x) (hxn : x < g.n) (h0 : ind x - 1 = 0) : Ka g (Q ++ [x]) h v (p + 1) (upi ind x (ind x - 1)) := by
  have hlt := (List.getElem?_eq_some_iff.1 k.at_).1
  have hxq : x ∉ Q := fun hm => by have := (k.mem x hxn).1 hm; omega
  have htk : (Q ++ [x]).take (h + 1) = Q.take (h + 1) := by rw [List.take_append_of_le_length (by omega)]
  have hi : ∀ w, w < g.n → upi ind x (ind x - 1) w = (remS g (Q.take (h + 1)) w + ((adjL g g.m v).drop (p + 1)).count w : Nat) := fun w hw => by
    have h1 := k.ix w hw
    have h2 := count_drop (w := w) hx
    by_cases e : w = x
    · subst e
      rw [upi_self]
      rw [if_pos rfl] at h2
      omega
    · rw [upi_ne _ _ e]
      rw [if_neg (fun h => e h.symm)] at h2
      omega
  refine ⟨List.nodup_append.2 ⟨k.nodup, by simp, fun a ha b hb => by simp at hb; subst hb; rintro rfl; exact hxq ha⟩, fun w hw => ?_, by rw [List.getElem?_append_left hlt]; exact k.at_, fun w hw => by rw [htk]; exact hi w hw, fun w hw => ?_, fun j y hj u hu => ?_⟩
  · rcases List.mem_append.1 hw with hw | hw
    · exact k.lt w hw
    · simp at hw; subst hw; exact hxn
  · by_cases e : w = x
    · subst e
      rw [upi_self]
      simp [h0]
    · rw [upi_ne _ _ e]
      have : (w ∈ Q ++ [x]) = (w ∈ Q) := by simp [e]
      rw [this]
      exact k.mem w hw
  · by_cases hj' : j < Q.length
    · rw [List.getElem?_append_left hj'] at hj
      obtain ⟨i, hi', e⟩ := k.src j y hj u hu
      exact ⟨i, hi', by rw [List.getElem?_append_left (by omega)]; exact e⟩
    · rw [List.getElem?_append_right (by omega)] at hj
      have hjy : x = y := by
        have h1 := (List.getElem?_eq_some_iff.1 hj).1
        simp at h1
        have h2 : j - Q.length = 0 := by omega
        rw [h2] at hj
        simpa using hj
      subst hjy
      have h1 := hi x hxn
      rw [upi_self] at h1
      have hr : remK g (Q.take (h + 1)) x g.n = 0 := by unfold remS at h1; omega
      have hun : u < g.n := by obtain ⟨i, hi', e1, _⟩ := hu; rw [← e1]; exact (hf i hi').1
      have hut : u ∈ Q.take (h + 1) := Classical.byContradiction fun hn => by
        have := remK_zero hr u hun hn
        have h3 := cw_pos.2 hu
        omega
      obtain ⟨i, hi', e⟩ := List.mem_iff_getElem.1 hut
      rw [List.length_take] at hi'
      refine ⟨i, by omega, ?_⟩
      rw [List.getElem?_append_left (by omega)]
      rw [List.getElem_take] at e
      rw [← e]
      exact List.getElem?_eq_getElem (by omega)
/-- The end of the peeling. -/
theorem Ko.end_ {g : Gr} {Q : List Nat} {ind : Nat → Int} (k : Ko g Q Q.length ind) (hf : Fits g) : (Q.length < g.n ↔ ¬ Ranked g) := by
  constructor
  · intro hl
    refine no_rank_left Q (left_of_short g.n Q k.nodup hl) (fun w hw hq => ?_)
    have h1 := k.ix w hw
    rw [List.take_length] at h1
    have h2 : ind w ≠ 0 := fun h => hq ((k.mem w hw).2 h)
    obtain ⟨u, hu, hs, hc⟩ := remK_pos (g := g) (S := Q) (w := w) (k := g.n) (by unfold remS at h1; omega)
    exact ⟨u, hu, hs, cw_pos.1 hc⟩
  · intro hr
    refine Classical.byContradiction fun hl => hr ?_
    have hall := all_of_full g.n Q k.nodup k.lt (by omega)
    refine ranked_of_queue hf Q hall (fun w => Q.idxOf w) (fun w hw => List.idxOf_lt_length_of_mem hw) (fun u v hv he => ?_)
    have hvl := List.idxOf_lt_length_of_mem hv
    have hva : Q[Q.idxOf v]? = some v := by rw [List.getElem?_eq_getElem hvl, List.getElem_idxOf hvl]
    obtain ⟨i, hi, e⟩ := k.src _ v hva u he
    have hil : i < Q.length := (List.getElem?_eq_some_iff.1 e).1
    have hul := List.idxOf_lt_length_of_mem (List.mem_of_getElem? e)
    have hua : Q[Q.idxOf u]? = some u := by rw [List.getElem?_eq_getElem hul, List.getElem_idxOf hul]
    have := (List.getElem?_inj hil k.nodup).1 (e.trans hua.symm)
    show Q.idxOf u < Q.idxOf v
    omega
end Go.Proofs.YtfljkbfacncdgaaDoor.EnQ
