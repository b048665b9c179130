/- The state of the modules under a pass: what a visit may change. Plain. -/
import Derived.Test.YtbcplamfejihjaaGreatMem
namespace Go.Proofs.YtbcplamfejihjaaGreat.TlP
open Go.RowKit
/-- A module's raw words: parent, depth, pass, record. -/
structure Q where
  par : Int
  dep : Int
  pas : Int
  iri : Int
def idx (x : Int) : Int := 4294967295 - x
def U (x : Int) : Prop := 0 ≤ x ∧ x ≤ 4294967295
def upd (st : Nat → Q) (s : Nat) (q : Q) : Nat → Q := fun i => if i = s then q else st i
theorem upd_self (st : Nat → Q) (s : Nat) (q : Q) : upd st s q s = q := if_pos rfl
theorem upd_ne (st : Nat → Q) {s i : Nat} (q : Q) (h : i ≠ s) : upd st s q i = st i := if_neg h
def sumN (f : Nat → Nat) : Nat → Nat
  | 0 => 0
  | k + 1 => sumN f k + f k
theorem sumN_le {f g : Nat → Nat} : ∀ {n : Nat}, (∀ i, i < n → f i ≤ g i) → sumN f n ≤ sumN g n
  | 0, _ => Nat.le_refl _
  | n + 1, h => Nat.add_le_add (sumN_le fun i hi => h i (by omega)) (h n (by omega))
theorem sumN_lt {f g : Nat → Nat} : ∀ {n : Nat}, (∀ i, i < n → f i ≤ g i) → ∀ s, s < n → f s < g s → sumN f n < sumN g n
  | 0, _, s, hs, _ => by omega
  | n + 1, h, s, hs, hl => by
    show sumN f n + f n < sumN g n + g n
    have h0 := sumN_le (f := f) (g := g) (n := n) fun i hi => h i (by omega)
    have h1 := h n (by omega)
    by_cases e : s = n
    · subst e; omega
    · have := sumN_lt (f := f) (g := g) (n := n) (fun i hi => h i (by omega)) s (by omega) hl
      omega
variable (n : Nat) (ok tla : Nat → Bool)
def Inv (st : Nat → Q) : Prop := ∀ i, i < n → U (st i).par ∧ (0 ≤ (st i).dep ∧ (st i).dep ≤ 4294967294) ∧ U (st i).pas ∧ U (st i).iri ∧ (tla i = true → idx (st i).par = i → idx (st i).dep = 1)
def wt (i : Nat) (q : Q) : Nat := (idx q.dep).toNat + if tla i = true ∧ idx q.par ≠ i then 8589934592 else 0
def phi (st : Nat → Q) : Nat := sumN (fun i => wt tla i (st i)) n
def unv (pass : Int) (st : Nat → Q) : Nat := sumN (fun i => if ok i = true ∧ (st i).pas ≠ pass then 1 else 0) n
def J (pass : Int) (st : Nat → Q) (dc : Bool) : Prop := ∀ i, i < n → ok i = true → tla i = true → ((st i).pas = pass → dc = true) ∧ ((st i).pas ≠ pass → idx (st i).par ≠ i)
def NoT : Prop := ∀ i, i < n → ¬ (ok i = true ∧ tla i = true)
structure Rel (pass : Int) (st : Nat → Q) (dc : Bool) (st' : Nat → Q) (dc' : Bool) : Prop where
  keep : ∀ i, i < n → (st i).pas = pass → st' i = st i
  pasx : ∀ i, i < n → (st' i).pas = (st i).pas ∨ (st' i).pas = pass
  phi : phi n tla st' ≤ phi n tla st
  ch : dc' = true → dc = true ∨ TlP.phi n tla st' < TlP.phi n tla st
  mono : dc = true → dc' = true
  none : NoT n ok tla → (∀ i, i < n → (st i).dep = 0) → (∀ i, i < n → (st' i).dep = 0) ∧ dc' = dc
  jj : J n ok tla pass st dc → J n ok tla pass st' dc'
variable {n ok tla} {pass : Int} {st st' st'' : Nat → Q} {dc dc' dc'' : Bool}
theorem Rel.refl (st : Nat → Q) (dc : Bool) : Rel n ok tla pass st dc st dc :=
  ⟨fun _ _ _ => rfl, fun _ _ => .inl rfl, Nat.le_refl _, fun h => .inl h, fun h => h, fun _ h => ⟨h, rfl⟩, fun h => h⟩
theorem Rel.trans (h : Rel n ok tla pass st dc st' dc') (h' : Rel n ok tla pass st' dc' st'' dc'') : Rel n ok tla pass st dc st'' dc'' := by
  refine ⟨fun i hi hp => ?_, fun i hi => ?_, Nat.le_trans h'.phi h.phi, fun hd => ?_, fun hd => h'.mono (h.mono hd), fun hn hd => ?_, fun hj => h'.jj (h.jj hj)⟩
  · have e := h.keep i hi hp
    rw [h'.keep i hi (by rw [e]; exact hp), e]
  · rcases h'.pasx i hi with e | e
    · rw [e]; exact h.pasx i hi
    · exact .inr e
  · have h1 := h.phi
    have h2 := h'.phi
    rcases h'.ch hd with e | e
    · rcases h.ch e with e | e
      · exact .inl e
      · exact .inr (by omega)
    · exact .inr (by omega)
  · obtain ⟨a, b⟩ := h.none hn hd
    obtain ⟨c, d⟩ := h'.none hn a
    exact ⟨c, d.trans b⟩
theorem wt_upd (s : Nat) (q : Q) (hs : s < n) (hle : wt tla s q ≤ wt tla s (st s)) : phi n tla (upd st s q) ≤ phi n tla st := by
  refine sumN_le fun i _ => ?_
  by_cases e : i = s
  · subst e; simpa only [upd_self] using hle
  · simp only [upd_ne st q e]; exact Nat.le_refl _
theorem wt_upd_lt (s : Nat) (q : Q) (hs : s < n) (hl : wt tla s q < wt tla s (st s)) : phi n tla (upd st s q) < phi n tla st := by
  refine sumN_lt (fun i _ => ?_) s hs (by simpa only [upd_self] using hl)
  by_cases e : i = s
  · subst e; simp only [upd_self]; omega
  · simp only [upd_ne st q e]; exact Nat.le_refl _
theorem unv_lt {s : Nat} (h : Rel n ok tla pass st dc st' dc') (hs : s < n) (hok : ok s = true) (h0 : (st s).pas ≠ pass) (h1 : (st' s).pas = pass) : unv n ok pass st' < unv n ok pass st := by
  refine sumN_lt (fun i hi => ?_) s hs ?_
  · rcases h.pasx i hi with e | e
    · rw [e]; exact Nat.le_refl _
    · rw [if_neg (by rw [e]; simp)]; exact Nat.zero_le _
  · show (if ok s = true ∧ (st' s).pas ≠ pass then 1 else 0) < (if ok s = true ∧ (st s).pas ≠ pass then 1 else 0)
    rw [if_neg (by rw [h1]; simp), if_pos ⟨hok, h0⟩]; exact Nat.one_pos
/-- A visit begins: the pass is written; a live await makes the module its own parent. -/
def own (tla : Nat → Bool) (s : Nat) (q : Q) : Bool := tla s && decide (idx q.par ≠ s)
def ent (tla : Nat → Bool) (pass : Int) (s : Nat) (q : Q) : Q := if own tla s q = true then ⟨4294967295 - s, 4294967294, pass, q.iri⟩ else ⟨q.par, q.dep, pass, q.iri⟩
theorem own_iff {s : Nat} {q : Q} : own tla s q = true ↔ tla s = true ∧ idx q.par ≠ s := by simp [own]
theorem ent_pas (s : Nat) (q : Q) : (ent tla pass s q).pas = pass := by unfold ent; split <;> rfl
theorem Rel.enter {s : Nat} (hi : Inv n tla st) (hs : s < n) (hn : n ≤ 65536) (hok : ok s = true) (hp : (st s).pas ≠ pass) (hpu : U pass) :
    Rel n ok tla pass st dc (upd st s (ent tla pass s (st s))) (dc || own tla s (st s)) ∧ Inv n tla (upd st s (ent tla pass s (st s))) ∧ (tla s = true → idx (ent tla pass s (st s)).par = s) := by
  obtain ⟨i1, i2, i3, i4, i5⟩ := hi s hs
  have hpar : tla s = true → idx (ent tla pass s (st s)).par = s := by
    intro ht
    unfold ent
    by_cases h : own tla s (st s) = true
    · rw [if_pos h]; show 4294967295 - (4294967295 - (s : Int)) = s; omega
    · rw [if_neg h]
      show idx (st s).par = s
      exact Classical.byContradiction fun h' => h (own_iff.2 ⟨ht, h'⟩)
  refine ⟨⟨fun i hin hpi => ?_, fun i hin => ?_, ?_, fun hd => ?_, fun hd => by rw [hd]; rfl, fun hno hz => ?_, fun hj => ?_⟩, fun i hin => ?_, hpar⟩
  · exact upd_ne _ _ (fun e => hp (by rw [← e]; exact hpi))
  · by_cases e : i = s
    · subst e; rw [upd_self]; exact .inr (ent_pas i _)
    · rw [upd_ne _ _ e]; exact .inl rfl
  · refine wt_upd s _ hs ?_
    unfold ent
    by_cases h : own tla s (st s) = true
    · rw [if_pos h]
      have h' := own_iff.1 h
      unfold wt
      rw [if_pos h', if_neg (by rintro ⟨_, h2⟩; apply h2; show 4294967295 - (4294967295 - (s : Int)) = s; omega)]
      show (4294967295 - (4294967294 : Int)).toNat + 0 ≤ _
      omega
    · rw [if_neg h]; exact Nat.le_refl _
  · by_cases h : own tla s (st s) = true
    · refine .inr (wt_upd_lt s _ hs ?_)
      unfold ent
      rw [if_pos h]
      have h' := own_iff.1 h
      unfold wt
      rw [if_pos h', if_neg (by rintro ⟨_, h2⟩; apply h2; show 4294967295 - (4294967295 - (s : Int)) = s; omega)]
      show (4294967295 - (4294967294 : Int)).toNat + 0 < _
      omega
    · left; simpa [h] using hd
  · have hno' : own tla s (st s) = false := by
      cases h : own tla s (st s) with
      | false => rfl
      | true => exact absurd ⟨hok, (own_iff.1 h).1⟩ (hno s hs)
    refine ⟨fun i hin => ?_, by rw [hno', Bool.or_false]⟩
    by_cases e : i = s
    · subst e; rw [upd_self]; unfold ent; rw [hno']; exact hz i hin
    · rw [upd_ne _ _ e]; exact hz i hin
  · intro i hin hoi hti
    obtain ⟨j1, j2⟩ := hj i hin hoi hti
    by_cases e : i = s
    · subst e
      rw [upd_self, ent_pas]
      refine ⟨fun _ => ?_, fun h => absurd rfl h⟩
      rw [own_iff.2 ⟨hti, j2 hp⟩, Bool.or_true]
    · rw [upd_ne _ _ e]
      exact ⟨fun h => by rw [j1 h]; rfl, j2⟩
  · by_cases e : i = s
    · subst e
      rw [upd_self]
      unfold ent
      by_cases h : own tla i (st i) = true
      · rw [if_pos h]
        exact ⟨⟨by show (0 : Int) ≤ 4294967295 - i; omega, by show 4294967295 - (i : Int) ≤ 4294967295; omega⟩, ⟨by show (0 : Int) ≤ 4294967294; omega, by show (4294967294 : Int) ≤ 4294967294; omega⟩, hpu, i4, fun _ _ => by show 4294967295 - (4294967294 : Int) = 1; omega⟩
      · rw [if_neg h]
        exact ⟨i1, i2, hpu, i4, i5⟩
    · rw [upd_ne _ _ e]; exact hi i hin
/-- A shallower parent is found. -/
theorem Rel.shallow {s t : Nat} {st0 : Nat → Q} {dc0 : Bool} {x y : Int} (h : Rel n ok tla pass st0 dc0 st dc) (hi : Inv n tla st) (hs : s < n) (ht : t < n) (h0 : (st0 s).pas ≠ pass) (h1 : (st s).pas = pass) (hpar : tla s = true → idx (st s).par = s) (hx : U x) (hy : U y)
    (hlt : idx (st t).dep < idx (st s).dep - 1) :
    Rel n ok tla pass st0 dc0 (upd st s ⟨x, 4294967295 - (idx (st t).dep + 1), pass, y⟩) true ∧ Inv n tla (upd st s ⟨x, 4294967295 - (idx (st t).dep + 1), pass, y⟩) ∧ tla s = false := by
  obtain ⟨i1, i2, i3, i4, i5⟩ := hi s hs
  obtain ⟨_, t2, _⟩ := hi t ht
  unfold idx at hlt
  have hts : tla s = false := by
    cases hts : tla s with
    | false => rfl
    | true =>
      have := i5 hts (hpar hts)
      unfold idx at this
      omega
  have hw : wt tla s ⟨x, 4294967295 - (idx (st t).dep + 1), pass, y⟩ < wt tla s (st s) := by
    unfold wt
    rw [hts]
    simp
    unfold idx
    omega
  refine ⟨⟨fun i hin hpi => ?_, fun i hin => ?_, ?_, fun _ => ?_, fun _ => rfl, fun hno hz => ?_, fun hj => ?_⟩, fun i hin => ?_, hts⟩
  · rw [upd_ne _ _ (fun e => h0 (by rw [← e]; exact hpi))]; exact h.keep i hin hpi
  · by_cases e : i = s
    · subst e; rw [upd_self]; exact .inr rfl
    · rw [upd_ne _ _ e]; exact h.pasx i hin
  · exact Nat.le_trans (wt_upd s _ hs (Nat.le_of_lt hw)) h.phi
  · exact .inr (Nat.lt_of_lt_of_le (wt_upd_lt s _ hs hw) h.phi)
  · exfalso
    have hz' := (h.none hno hz).1
    rw [hz' t ht, hz' s hs] at hlt
    omega
  · have hj' := h.jj hj
    intro i hin hoi hti
    have hne : i ≠ s := by rintro rfl; rw [hts] at hti; cases hti
    rw [upd_ne _ _ hne]
    exact ⟨fun _ => rfl, (hj' i hin hoi hti).2⟩
  · by_cases e : i = s
    · subst e
      rw [upd_self]
      refine ⟨hx, ?_, h1 ▸ i3, hy, fun h => by rw [hts] at h; cases h⟩
      show 0 ≤ 4294967295 - (idx (st t).dep + 1) ∧ 4294967295 - (idx (st t).dep + 1) ≤ 4294967294
      unfold idx
      omega
    · rw [upd_ne _ _ e]; exact hi i hin
end Go.Proofs.YtbcplamfejihjaaGreat.TlP
