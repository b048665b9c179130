/- A region in whatever order, by what is known of each slot's value, and one thing more of the frame and the world. Plain. -/
import Derived.Test.YtbcplamfejihjaaGreatInv
namespace Go.Proofs.YtbcplamfejihjaaGreat.Invx
open Go.RowKit Go.Proofs.YtbcplamfejihjaaGreat.Inv
section
variable {P : Program} {ops : Array Oper} {md : Region.Mode} {Q : Exit → Act → World → Prop}
/-- A region in whatever order, by what is known of each slot's value: each operation once. -/
theorem wp_region_valsx {id : Nat} {a : Act} {w : World} (hm : P.follows .mixedOrders = true) (I : List Nat) (V : Nat → Value → World → Prop) (G : World → Prop) (X : Act → World → Prop)
    (n : Nat) (hn : a.tmps.size = n) (hok : okOrd n I ops = true)
    (mono : ∀ t v (w w' : World), V t v w → Below w.heap.size w w' → V t v w')
    (start : G w.drew) (startX : X a w.drew) (startV : ∀ t ∈ I, V t (a.tmps.getD t undef) w.drew)
    (step : ∀ o ∈ ops.toList, ∀ (a' : Act) (w' : World), G w' → X a' w' → a'.tmps.size = n → (∀ t ∈ tmpsOf o, V t (a'.tmps.getD t undef) w') → o.wp P a' w' (fun a'' w'' => ∃ v, a'' = a'.put o.dst v ∧ (∀ d, o.dst = some d → V d v w'') ∧ Below w'.heap.size w' w'' ∧ G w'' ∧ X a'' w'') Q)
    (fin : ∀ (a' : Act) (w' : World), G w' → X a' w' → a'.defers = a.defers → a'.tmps.size = a.tmps.size → (∀ t, (∀ i, dstAt ops i ≠ some t) → a'.tmps[t]? = a.tmps[t]?) → (∀ i d, dstAt ops i = some d → V d (a'.tmps.getD d undef) w') → Q .normal a' w') :
    (Code.region id ops true).wp P Q a w := by
  refine wp_region_inv hm (fun listed a' w' => G w' ∧ X a' w' ∧ a'.defers = a.defers ∧ a'.tmps.size = a.tmps.size ∧ (∀ t, (∀ i, dstAt ops i ≠ some t) → a'.tmps[t]? = a.tmps[t]?) ∧ (∀ t ∈ I, V t (a'.tmps.getD t undef) w') ∧ ∀ i d, dstAt ops i = some d → listed[i]? = some true → V d (a'.tmps.getD d undef) w') ?_ ?_ ?_
  · refine ⟨start, startX, rfl, rfl, fun _ _ => rfl, startV, fun i d hd hl => ?_⟩
    rw [Array.getElem?_replicate] at hl
    split at hl <;> simp at hl
  · rintro listed a' w' i hs ⟨hG, hX, hdf, hsz', hkeep, hI, hV⟩ hi
    have hil : i < ops.size := by
      simp only [Region.ready, List.mem_filter, List.mem_range] at hi; exact hi.1
    have ho : ops[i]? = some ops[i] := by simp [hil]
    obtain ⟨h1, h2, h3, h4⟩ := okOrd_at hok ho
    have hst := step ops[i] (by simp) a' w' hG hX (hsz'.trans hn) (fun t ht => by
      rcases h3 t ht with h | ⟨e, he, hb, hd⟩
      · exact hI t h
      · refine hV e.on t hd ?_
        simp only [Region.ready, List.mem_filter, ho, Option.map_some, Option.getD_some, Bool.and_eq_true, Array.all_eq_true'] at hi
        have := hi.2.2 e (by simpa using he)
        have hlt : e.on < listed.size := by have := h2 e he hb; omega
        simp [hb, Array.getD, hlt] at this
        simp [hlt, this])
    unfold wpOp
    simp only [ho]
    rw [if_pos (by simp [Region.wanted, h1])]
    left
    refine Oper.wp_mono ?_ hst
    rintro a'' w'' ⟨v, rfl, hv, hb, hG', hX'⟩
    cases hd : ops[i].dst with
    | none =>
      refine ⟨hG', by simpa [hd] using hX', hdf, hsz', hkeep, fun t ht => mono _ _ _ _ (hI t ht) hb, fun j d hjd hl => ?_⟩
      have hji : j ≠ i := by
        rintro rfl
        simp [dstAt, ho, hd] at hjd
      have : listed[j]? = some true := by
        rw [Array.getElem?_setIfInBounds_ne (Ne.symm hji)] at hl; exact hl
      exact mono _ _ _ _ (hV j d hjd this) hb
    | some d0 =>
      have hd0 : dstAt ops i = some d0 := by simp [dstAt, ho, hd]
      obtain ⟨h5, hd0lt, h6⟩ := h4 d0 hd
      rw [← hn] at hd0lt
      have hput : ∀ t, t ≠ d0 → (a'.put (some d0) v).tmps.getD t undef = a'.tmps.getD t undef := by
        intro t ht
        simp [Act.put, Array.getD_eq_getD_getElem?, Array.getElem?_setIfInBounds_ne (Ne.symm ht)]
      refine ⟨hG', by simpa [hd] using hX', ?_, ?_, fun t ht => ?_, fun t ht => ?_, fun j d hjd hl => ?_⟩
      · simpa [Act.put] using hdf
      · simpa [Act.put] using hsz'
      · have hne : t ≠ d0 := fun e => ht i (e ▸ hd0)
        simp only [Act.put]
        rw [Array.getElem?_setIfInBounds_ne (Ne.symm hne)]
        exact hkeep t ht
      · have hne : t ≠ d0 := fun e => h5 (e ▸ ht)
        rw [hput t hne]
        exact mono _ _ _ _ (hI t ht) hb
      · by_cases hji : j = i
        · subst hji
          rw [hd0] at hjd
          injection hjd with hjd
          subst hjd
          have : (a'.put (some d0) v).tmps.getD d0 undef = v := by
            simp [Act.put, Array.getD_eq_getD_getElem?, hsz', hd0lt]
          rw [this]
          exact hv d0 hd
        · have hne : d ≠ d0 := by
            rintro rfl
            have hjl : j < ops.size := by
              rcases Nat.lt_or_ge j ops.size with h | h
              · exact h
              · simp [dstAt, h] at hjd
            exact h6 j hjl hji hjd
          rw [hput d hne]
          rw [Array.getElem?_setIfInBounds_ne (Ne.symm hji)] at hl
          exact mono _ _ _ _ (hV j d hjd hl) hb
  · rintro listed a' w' hs ⟨hG, hX, hdf, hsz', hkeep, hI, hV⟩ hr
    have hall := ready_nil hok hs hr
    refine fin a' w' hG hX hdf hsz' hkeep fun i d hd => hV i d hd (hall i ?_)
    rcases Nat.lt_or_ge i ops.size with h | h
    · exact h
    · simp [dstAt, h] at hd
end
end Go.Proofs.YtbcplamfejihjaaGreat.Invx
