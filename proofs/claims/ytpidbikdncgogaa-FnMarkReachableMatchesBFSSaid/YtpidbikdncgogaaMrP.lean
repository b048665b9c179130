/- FnMarkReachableMatchesBFS: paths and distances. Plain. -/
import Derived.WalkKit
namespace Go.Proofs.Ytpidbikdncgogaa.MrP
set_option linter.unusedVariables false
/-- No distance yet. -/
def INF : Nat := 4294967295
structure Gr where
  n : Nat
  live : Nat → Bool
  adj : Nat → Nat → Prop
/-- A path of k steps through live files. -/
inductive Path (g : Gr) (s : Nat) : Nat → Nat → Prop
  | zero : g.live s = true → Path g s 0 s
  | step {k u v : Nat} : Path g s k u → g.adj u v → g.live v = true → Path g s (k + 1) v
section
variable {g : Gr} {s : Nat}
theorem Path.live {k v : Nat} (h : Path g s k v) : g.live v = true := by cases h <;> assumption
def Sound (g : Gr) (s : Nat) (D : Nat → Nat) : Prop := ∀ v, D v ≠ INF → Path g s (D v) v
def Rel (g : Gr) (D : Nat → Nat) (v : Nat) : Prop := ∀ x, g.adj v x → g.live x = true → D x ≤ D v + 1
theorem path_le {D : Nat → Nat} (h0 : g.live s = true → D s ≤ 0) (hr : ∀ v, D v ≠ INF → Rel g D v) {k v : Nat} (p : Path g s k v) : k < INF → D v ≤ k := by
  induction p with
  | zero h => intro _; exact h0 h
  | step p hv hl ih =>
    intro hk
    have h1 := ih (by omega)
    have h2 := hr _ (by omega) _ hv hl
    omega
theorem dist_eq {D E : Nat → Nat} (hd : ∀ v, D v ≤ INF) (he : ∀ v, E v ≤ INF) (sd : Sound g s D) (se : Sound g s E) (d0 : g.live s = true → D s ≤ 0) (e0 : g.live s = true → E s ≤ 0)
    (rd : ∀ v, D v ≠ INF → Rel g D v) (re : ∀ v, E v ≠ INF → Rel g E v) (v : Nat) : D v = E v := by
  have h1 : D v ≠ INF → E v ≤ D v := fun h => path_le e0 re (sd v h) (by have := hd v; omega)
  have h2 : E v ≠ INF → D v ≤ E v := fun h => path_le d0 rd (se v h) (by have := he v; omega)
  have h3 := hd v
  have h4 := he v
  by_cases a : D v = INF
  · by_cases b : E v = INF
    · omega
    · have := h2 b; omega
  · have := h1 a
    by_cases b : E v = INF
    · omega
    · have := h2 b; omega
/-! ### The search -/
def up (D : Nat → Nat) (u d : Nat) : Nat → Nat := fun x => if x = u then d else D x
theorem up_self (D : Nat → Nat) (u d : Nat) : up D u d u = d := if_pos rfl
theorem up_ne (D : Nat → Nat) {u x : Nat} (d : Nat) (h : x ≠ u) : up D u d x = D x := if_neg h
def sum (D : Nat → Nat) : Nat → Nat
  | 0 => 0
  | n + 1 => sum D n + D n
theorem sum_mono {D E : Nat → Nat} (h : ∀ v, E v ≤ D v) : ∀ n, sum E n ≤ sum D n
  | 0 => Nat.le_refl _
  | n + 1 => by have := sum_mono h n; have := h n; show sum E n + E n ≤ sum D n + D n; omega
theorem sum_up {D : Nat → Nat} {u d : Nat} : ∀ {n}, u < n → d < D u → sum (up D u d) n < sum D n
  | 0, h, _ => absurd h (Nat.not_lt_zero u)
  | n + 1, h, hd => by
    show sum (up D u d) n + up D u d n < sum D n + D n
    by_cases e : u = n
    · subst e
      rw [up_self]
      have : sum (up D u d) u = sum D u := by
        have aux : ∀ m, m ≤ u → sum (up D u d) m = sum D m := by
          intro m
          induction m with
          | zero => intro _; rfl
          | succ m ih => intro hm; show sum (up D u d) m + up D u d m = sum D m + D m; rw [ih (by omega), up_ne _ _ (by omega)]
        exact aux u (Nat.le_refl _)
      omega
    · have := sum_up (D := D) (u := u) (d := d) (n := n) (by omega) hd
      rw [up_ne _ _ (by omega)]
      omega
/-- Every smaller distance stands at some file. -/
def Chain (n d : Nat) (D : Nat → Nat) : Prop := ∀ i, i < d → ∃ v, v < n ∧ D v = i
def cnt (D : Nat → Nat) (k : Nat) : Nat → Nat
  | 0 => 0
  | n + 1 => cnt D k n + if D n < k then 1 else 0
theorem cnt_le (D : Nat → Nat) (k : Nat) : ∀ n, cnt D k n ≤ n
  | 0 => Nat.le_refl _
  | n + 1 => by have := cnt_le D k n; show cnt D k n + (if D n < k then 1 else 0) ≤ n + 1; split <;> omega
theorem cnt_mono (D : Nat → Nat) (k : Nat) : ∀ n, cnt D k n ≤ cnt D (k + 1) n
  | 0 => Nat.le_refl _
  | n + 1 => by
    have := cnt_mono D k n
    show cnt D k n + (if D n < k then 1 else 0) ≤ cnt D (k + 1) n + (if D n < k + 1 then 1 else 0)
    split <;> split <;> omega
theorem cnt_step (D : Nat → Nat) (k : Nat) : ∀ {n v}, v < n → D v = k → cnt D k n + 1 ≤ cnt D (k + 1) n
  | 0, v, h, _ => absurd h (Nat.not_lt_zero v)
  | n + 1, v, h, hv => by
    show cnt D k n + (if D n < k then 1 else 0) + 1 ≤ cnt D (k + 1) n + (if D n < k + 1 then 1 else 0)
    by_cases e : v = n
    · subst e
      have := cnt_mono D k v
      rw [if_neg (by omega), if_pos (by omega)]
      omega
    · have := cnt_step D k (n := n) (v := v) (by omega) hv
      split <;> split <;> omega
theorem chain_le {n d : Nat} {D : Nat → Nat} (h : Chain n d D) : d ≤ n := by
  have aux : ∀ k, k ≤ d → k ≤ cnt D k n := by
    intro k
    induction k with
    | zero => intro _; exact Nat.zero_le _
    | succ k ih =>
      intro hk
      obtain ⟨v, hv, e⟩ := h k (by omega)
      have := cnt_step D k hv e
      have := ih (by omega)
      omega
  exact Nat.le_trans (aux d (Nat.le_refl _)) (cnt_le D d n)
/-- What a visit of u at distance d does to the distances. -/
structure Vis (g : Gr) (D : Nat → Nat) (d u : Nat) (E : Nat → Nat) : Prop where
  mono : ∀ v, E v ≤ D v
  hit : g.live u = true → E u ≤ d
  low : ∀ v, E v < D v → d ≤ E v
  rel : ∀ v, E v < D v → Rel g E v
theorem vis_none {D : Nat → Nat} {d u : Nat} (h : g.live u = true → D u ≤ d) : Vis g D d u D := ⟨fun _ => Nat.le_refl _, h, fun v hv => absurd hv (Nat.lt_irrefl _), fun v hv => absurd hv (Nat.lt_irrefl _)⟩
/-- Within the visit of u: the stars before have been seen. -/
structure Mid (g : Gr) (s : Nat) (D : Nat → Nat) (d u : Nat) (done : Nat → Prop) (E : Nat → Nat) : Prop where
  mono : ∀ v, E v ≤ up D u d v
  eu : E u = d
  low : ∀ v, E v < up D u d v → d + 1 ≤ E v
  rel : ∀ v, v ≠ u → E v < up D u d v → Rel g E v
  done : ∀ x, done x → g.live x = true → E x ≤ d + 1
  snd : Sound g s E
theorem mid_start {D : Nat → Nat} {d u : Nat} (sd : Sound g s D) (hp : Path g s d u) : Mid g s D d u (fun _ => False) (up D u d) :=
  ⟨fun _ => Nat.le_refl _, up_self _ _ _, fun v hv => absurd hv (Nat.lt_irrefl _), fun v _ hv => absurd hv (Nat.lt_irrefl _), fun _ h => h.elim, fun v hv => by
    by_cases e : v = u
    · subst e; rw [up_self]; exact hp
    · rw [up_ne _ _ e] at hv ⊢; exact sd v hv⟩
theorem Mid.weaker {D E : Nat → Nat} {d u : Nat} {p q : Nat → Prop} (h : Mid g s D d u p E) (hq : ∀ x, q x → p x) : Mid g s D d u q E := ⟨h.mono, h.eu, h.low, h.rel, fun x hx => h.done x (hq x hx), h.snd⟩
theorem Mid.step {D E E' : Nat → Nat} {d u x : Nat} {p : Nat → Prop} (h : Mid g s D d u p E) (v : Vis g E (d + 1) x E') (sd : Sound g s E') : Mid g s D d u (fun y => p y ∨ y = x) E' := by
  have hu : E' u = d := by
    have h1 := v.mono u
    have h2 := h.eu
    rcases Nat.lt_or_ge (E' u) (E u) with h3 | h3
    · have := v.low u h3; omega
    · omega
  refine ⟨fun y => Nat.le_trans (v.mono y) (h.mono y), hu, fun y hy => ?_, fun y hne hy => ?_, fun y hy hl => ?_, sd⟩
  · rcases Nat.lt_or_ge (E' y) (E y) with h3 | h3
    · exact v.low y h3
    · have := v.mono y
      have := h.low y (by omega)
      omega
  · rcases Nat.lt_or_ge (E' y) (E y) with h3 | h3
    · exact v.rel y h3
    · have h4 := v.mono y
      intro z hz hl
      have h5 := h.rel y hne (by omega) z hz hl
      have h6 := v.mono z
      omega
  · rcases hy with hy | rfl
    · exact Nat.le_trans (v.mono y) (h.done y hy hl)
    · exact v.hit hl
theorem Mid.skip {D E : Nat → Nat} {d u x : Nat} {p : Nat → Prop} (h : Mid g s D d u p E) (hx : g.live x = true → E x ≤ d + 1) : Mid g s D d u (fun y => p y ∨ y = x) E :=
  ⟨h.mono, h.eu, h.low, h.rel, fun y hy hl => by rcases hy with hy | rfl; exact h.done y hy hl; exact hx hl, h.snd⟩
theorem Mid.vis {D E : Nat → Nat} {d u : Nat} {p : Nat → Prop} (h : Mid g s D d u p E) (hd : d < D u) (hp : ∀ x, g.adj u x → p x) : Vis g D d u E := by
  have hle : ∀ v, up D u d v ≤ D v := fun v => by unfold up; split; · subst_vars; omega
                                                  · exact Nat.le_refl _
  refine ⟨fun v => Nat.le_trans (h.mono v) (hle v), fun _ => Nat.le_of_eq h.eu, fun v hv => ?_, fun v hv => ?_⟩
  · by_cases e : v = u
    · subst e; rw [h.eu]; exact Nat.le_refl _
    · have := h.low v (by rw [up_ne _ _ e]; exact hv); omega
  · by_cases e : v = u
    · subst e
      intro x hx hl
      rw [h.eu]
      exact h.done x (hp x hx) hl
    · exact h.rel v e (by rw [up_ne _ _ e]; exact hv)
theorem Mid.chain {n d u : Nat} {D E : Nat → Nat} {p : Nat → Prop} (h : Mid g s D d u p E) (hc : Chain n d D) (hu : u < n) (hd : d < D u) : Chain n (d + 1) E := by
  intro i hi
  by_cases e : i = d
  · subst e; exact ⟨u, hu, h.eu⟩
  · obtain ⟨v, hv, hvi⟩ := hc i (by omega)
    have hne : v ≠ u := by rintro rfl; omega
    refine ⟨v, hv, ?_⟩
    have h1 := h.mono v
    rw [up_ne _ _ hne] at h1
    rcases Nat.lt_or_ge (E v) (D v) with h3 | h3
    · have := h.low v (by rw [up_ne _ _ hne]; exact h3); omega
    · omega
theorem Mid.sum {n d u : Nat} {D E : Nat → Nat} {p : Nat → Prop} (h : Mid g s D d u p E) (hu : u < n) (hd : d < D u) : sum E n < sum D n := Nat.lt_of_le_of_lt (sum_mono h.mono n) (sum_up hu hd)
theorem Mid.path {d u x : Nat} {D E : Nat → Nat} {p : Nat → Prop} (h : Mid g s D d u p E) (hi : d < INF) (hx : g.adj u x) (hl : g.live x = true) : Path g s (d + 1) x := by
  have := h.snd u (by rw [h.eu]; omega)
  rw [h.eu] at this
  exact this.step hx hl
/-! ### Breadth first -/
structure Bfs (g : Gr) (s : Nat) (D : Nat → Nat) (q : List Nat) (h : Nat) (part : Nat → Prop) : Prop where
  snd : Sound g s D
  inf : ∀ v, D v ≤ INF
  nd : q.Nodup
  mem : ∀ v, v ∈ q ↔ D v ≠ INF
  ltn : ∀ v, v ∈ q → v < g.n
  idx : ∀ (i v : Nat), q[i]? = some v → D v ≤ i
  srt : ∀ (i j : Nat) (u v : Nat), i ≤ j → q[i]? = some u → q[j]? = some v → D u ≤ D v
  bnd : ∀ (u v : Nat), q[h]? = some u → v ∈ q → D v ≤ D u + 1
  rel : ∀ (i v : Nat), i < h → q[i]? = some v → Rel g D v
  cur : ∀ (u : Nat), q[h]? = some u → ∀ x, part x → g.live x = true → D x ≤ D u + 1
  seed : g.live s = true → D s ≤ 0
theorem nodup_len : ∀ {n : Nat} {q : List Nat}, q.Nodup → (∀ v, v ∈ q → v < n) → q.length ≤ n := by
  intro n
  induction n with
  | zero =>
    intro q hq h
    cases q with
    | nil => exact Nat.le_refl _
    | cons a r => exact absurd (h a (by simp)) (Nat.not_lt_zero a)
  | succ n ih =>
    intro q hq h
    by_cases e : n ∈ q
    · have h1 : (q.erase n).Nodup := hq.erase n
      have h2 := ih h1 (fun v hv => by
        have h3 := h v (List.mem_of_mem_erase hv)
        have h4 : v ≠ n := by rintro rfl; exact (hq.not_mem_erase) hv
        omega)
      have h5 := List.length_erase_of_mem e
      omega
    · have := ih hq (fun v hv => by have := h v hv; have : v ≠ n := by rintro rfl; exact e hv
                                    omega)
      omega
section
variable {D : Nat → Nat} {q : List Nat} {h : Nat} {part : Nat → Prop}
theorem Bfs.len (b : Bfs g s D q h part) : q.length ≤ g.n := nodup_len b.nd b.ltn
theorem bfs_dead (hl : g.live s = false) : Bfs g s (fun _ => INF) [] 0 (fun _ => False) :=
  ⟨fun v hv => absurd rfl hv, fun _ => Nat.le_refl _, List.nodup_nil, by simp, by simp, by simp, by simp, by simp, by simp, by simp, fun h => by rw [hl] at h; cases h⟩
theorem bfs_live (hl : g.live s = true) (hs : s < g.n) : Bfs g s (up (fun _ => INF) s 0) [s] 0 (fun _ => False) := by
  have h0 : ∀ v, up (fun _ => INF) s 0 v ≠ INF ↔ v = s := fun v => by
    unfold up
    split
    · rename_i e; exact ⟨fun _ => e, fun _ => by unfold INF; decide⟩
    · rename_i e; exact ⟨fun hh => absurd rfl hh, fun hh => absurd hh e⟩
  refine ⟨fun v hv => ?_, fun v => ?_, by simp, fun v => ?_, fun v hv => ?_, fun i v hv => ?_, fun i j u v hij hu hv => ?_, fun u v hu hv => ?_, fun i v hi => absurd hi (Nat.not_lt_zero i), fun u _ x hx => hx.elim, fun _ => by rw [up_self]; exact Nat.le_refl _⟩
  · obtain rfl := (h0 v).1 hv
    rw [up_self]; exact .zero hl
  · unfold up; split; exact Nat.zero_le _; exact Nat.le_refl _
  · rw [h0]; simp
  · simp at hv; subst hv; exact hs
  · have : i = 0 := by have := (List.getElem?_eq_some_iff.1 hv).1; simp at this; omega
    subst this; simp at hv; subst hv; rw [up_self]; exact Nat.le_refl _
  · have : j = 0 := by have := (List.getElem?_eq_some_iff.1 hv).1; simp at this; omega
    obtain rfl : i = 0 := by omega
    subst this; simp at hu hv; subst hu; subst hv; exact Nat.le_refl _
  · simp at hu hv; subst hu; subst hv; omega
/-- x is dead, or has a distance. -/
theorem Bfs.seen (b : Bfs g s D q h part) (hh : h < q.length) {x : Nat} (hx : g.live x = false ∨ D x ≠ INF) : Bfs g s D q h (fun y => part y ∨ y = x) :=
  ⟨b.snd, b.inf, b.nd, b.mem, b.ltn, b.idx, b.srt, b.bnd, b.rel, fun u hu y hy hl => by
    rcases hy with hy | rfl
    · exact b.cur u hu y hy hl
    · rcases hx with hx | hx
      · rw [hx] at hl; cases hl
      · exact b.bnd u y hu ((b.mem y).2 hx), b.seed⟩
theorem Bfs.push (b : Bfs g s D q h part) {u x : Nat} (hu : q[h]? = some u) (hn : g.n ≤ 65536) (hx : g.adj u x) (hl : g.live x = true) (hi : D x = INF) (hxn : x < g.n) : Bfs g s (up D x (D u + 1)) (q ++ [x]) h (fun y => part y ∨ y = x) := by
  have hlen := b.len
  have hh := (List.getElem?_eq_some_iff.1 hu).1
  have hdu : D u ≤ h := b.idx h u hu
  have hxq : x ∉ q := fun hm => (b.mem x).1 hm hi
  have huq : u ∈ q := List.mem_of_getElem? hu
  have hux : u ≠ x := by rintro rfl; exact hxq huq
  have hne : ∀ i v, q[i]? = some v → v ≠ x := fun i v hv => by rintro rfl; exact hxq (List.mem_of_getElem? hv)
  have hInf : D u + 1 < INF := by unfold INF; omega
  have app : ∀ i v, (q ++ [x])[i]? = some v → q[i]? = some v ∨ (i = q.length ∧ v = x) := fun i v hv => by
    rcases Nat.lt_or_ge i q.length with h1 | h1
    · rw [List.getElem?_append_left h1] at hv; exact .inl hv
    · rw [List.getElem?_append_right h1] at hv
      have h2 : i - q.length = 0 := by have := (List.getElem?_eq_some_iff.1 hv).1; simp at this; omega
      rw [h2] at hv
      simp at hv
      exact .inr ⟨by omega, hv.symm⟩
  have le : ∀ v, up D x (D u + 1) v ≤ D v := fun v => by
    unfold up
    split
    · subst_vars; rw [hi]; omega
    · exact Nat.le_refl _
  refine ⟨fun v hv => ?_, fun v => ?_, ?_, fun v => ?_, fun v hv => ?_, fun i v hv => ?_, fun i j a c hij ha hc => ?_, fun a c ha hc => ?_, fun i v hih hv => ?_, fun a ha y hy hly => ?_, fun hl' => Nat.le_trans (le s) (b.seed hl')⟩
  · by_cases e : v = x
    · subst e
      rw [up_self]
      exact (b.snd u (by omega)).step hx hl
    · rw [up_ne _ _ e] at hv ⊢; exact b.snd v hv
  · exact Nat.le_trans (le v) (b.inf v)
  · rw [List.nodup_append]
    exact ⟨b.nd, by simp, by simp; intro a ha e; subst e; exact hxq ha⟩
  · rw [List.mem_append, b.mem v]
    by_cases e : v = x
    · subst e; rw [up_self]; simp; omega
    · rw [up_ne _ _ e]; simp [e]
  · rcases List.mem_append.1 hv with hv | hv
    · exact b.ltn v hv
    · simp at hv; subst hv; exact hxn
  · rcases app i v hv with h1 | ⟨h1, rfl⟩
    · rw [up_ne _ _ (hne i v h1)]; exact b.idx i v h1
    · rw [up_self]; omega
  · rcases app i a ha with h1 | ⟨h1, rfl⟩
    · rw [up_ne _ _ (hne i a h1)]
      rcases app j c hc with h2 | ⟨h2, rfl⟩
      · rw [up_ne _ _ (hne j c h2)]; exact b.srt i j a c hij h1 h2
      · rw [up_self]; exact b.bnd u a hu (List.mem_of_getElem? h1)
    · rcases app j c hc with h2 | ⟨h2, rfl⟩
      · have := (List.getElem?_eq_some_iff.1 h2).1; omega
      · exact Nat.le_refl _
  · rcases app h a ha with h1 | ⟨h1, rfl⟩
    · rw [hu] at h1; injection h1 with h1; subst h1
      rw [up_ne _ _ hux]
      rcases List.mem_append.1 hc with h2 | h2
      · obtain ⟨i, hi'⟩ := List.mem_iff_getElem?.1 h2
        rw [up_ne _ _ (hne i c hi')]; exact b.bnd u c hu h2
      · simp at h2; subst h2; rw [up_self]; exact Nat.le_refl _
    · omega
  · rcases app i v hv with h1 | ⟨h1, rfl⟩
    · intro y hy hly
      rw [up_ne _ _ (hne i v h1)]
      exact Nat.le_trans (le y) (b.rel i v hih h1 y hy hly)
    · omega
  · rcases app h a ha with h1 | ⟨h1, rfl⟩
    · rw [hu] at h1; injection h1 with h1; subst h1
      rw [up_ne _ _ hux]
      rcases hy with hy | rfl
      · exact Nat.le_trans (le y) (b.cur u hu y hy hly)
      · rw [up_self]; exact Nat.le_refl _
    · omega
theorem Bfs.next (b : Bfs g s D q h part) {u : Nat} (hu : q[h]? = some u) (hp : ∀ x, g.adj u x → part x) : Bfs g s D q (h + 1) (fun _ => False) :=
  ⟨b.snd, b.inf, b.nd, b.mem, b.ltn, b.idx, b.srt, fun a v ha hv => by
    have h1 := b.bnd u v hu hv
    have h2 := b.srt h (h + 1) u a (Nat.le_succ h) hu ha
    omega, fun i v hi hv => by
    by_cases e : i = h
    · subst e
      rw [hu] at hv; injection hv with hv; subst hv
      exact fun x hx hl => b.cur u hu x (hp x hx) hl
    · exact b.rel i v (by omega) hv, fun _ _ _ hx => hx.elim, b.seed⟩
theorem Bfs.done (b : Bfs g s D q q.length part) : ∀ v, D v ≠ INF → Rel g D v := fun v hv => by
  obtain ⟨i, hi⟩ := List.mem_iff_getElem?.1 ((b.mem v).2 hv)
  exact b.rel i v (List.getElem?_eq_some_iff.1 hi).1 hi
end
/-- The search's result, at the start. -/
theorem vis_rel {D : Nat → Nat} (h : Vis g (fun _ => INF) 0 s D) : ∀ v, D v ≠ INF → Rel g D v := fun v hv => h.rel v (by have := h.mono v; omega)
end
end Go.Proofs.Ytpidbikdncgogaa.MrP
