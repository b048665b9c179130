/- A region that draws its order, walked by what is known of each slot: each operation once. Plain. -/
import Derived.WalkKit
import Derived.Orders
import Derived.Below
namespace Go.Proofs.YtfljkbfacncdgaaDoor.Inv
open Go.RowKit
section
variable {P : Program} {ops : Array Oper} {Q : Exit → Act → World → Prop} {md : Region.Mode}
theorem unlisted_set (listed : Array Bool) (i : Nat) (h : listed[i]? = some false) : (listed.setIfInBounds i true).toList.count false + 1 ≤ listed.toList.count false := by
  obtain ⟨l⟩ := listed
  simp at h ⊢
  induction l generalizing i with
  | nil => simp at h
  | cons b l ih =>
    cases i with
    | zero => simp at h; subst h; simp
    | succ i =>
      simp at h
      have := ih i h
      simp [List.count_cons]
      omega
theorem ready_false {listed : Array Bool} {i : Nat} (hs : listed.size = ops.size) (h : i ∈ Region.ready md ops listed) : listed[i]? = some false := by
  simp only [Region.ready, List.mem_filter, List.mem_range, Bool.and_eq_true] at h
  obtain ⟨h1, h2, _⟩ := h
  have : i < listed.size := by omega
  simp [Array.getD, this] at h2
  simp [this, h2]
/-- A region in whatever order: an invariant over what has been done. -/
theorem wpAny_inv (Inv : Array Bool → Act → World → Prop)
    (step : ∀ listed a w i, listed.size = ops.size → Inv listed a w → i ∈ Region.ready md ops listed → wpOp P ops Q i (Inv (listed.setIfInBounds i true)) a w)
    (fin : ∀ listed a w, listed.size = ops.size → Inv listed a w → Region.ready md ops listed = [] → Q .normal a w) :
    ∀ fuel listed a w, listed.size = ops.size → listed.toList.count false ≤ fuel → Inv listed a w → wpAny P md ops Q fuel listed a w := by
  intro fuel
  induction fuel with
  | zero =>
    intro listed a w hs hc hi
    have hr : Region.ready md ops listed = [] := by
      cases hr : Region.ready md ops listed with
      | nil => rfl
      | cons x xs =>
        have h1 := ready_false hs (show x ∈ Region.ready md ops listed by rw [hr]; simp)
        have h2 : false ∈ listed.toList := by
          rw [Array.getElem?_eq_some_iff] at h1
          obtain ⟨h, e⟩ := h1
          rw [← e]; simp
        have := List.count_pos_iff.2 h2
        omega
    exact ⟨hr, fin listed a w hs hi hr⟩
  | succ fuel ih =>
    intro listed a w hs hc hi
    refine ⟨fun hr => fin listed a w hs hi hr, fun i him => ?_⟩
    have h1 := ready_false hs him
    have h2 := unlisted_set listed i h1
    refine wpOp_mono (fun a' w' hi' => ?_) (step listed a w i hs hi him)
    exact ih _ a' w' (by simpa using hs) (by omega) hi'
theorem wp_region_inv {id : Nat} {a : Act} {w : World} (hm : P.follows .mixedOrders = true) (Inv : Array Bool → Act → World → Prop)
    (start : Inv (Array.replicate ops.size false) a w.drew)
    (step : ∀ listed a w i, listed.size = ops.size → Inv listed a w → i ∈ Region.ready .any ops listed → wpOp P ops Q i (Inv (listed.setIfInBounds i true)) a w)
    (fin : ∀ listed a w, listed.size = ops.size → Inv listed a w → Region.ready .any ops listed = [] → Q .normal a w) : (Code.region id ops true).wp P Q a w :=
  wp_region_any hm (wpAny_inv Inv step fin _ _ _ _ (by simp) (by simp) start)

/-- The slots that an operation reads. -/
def tmpsOf (o : Oper) : List Nat := o.op.operands.toList.filterMap fun | .tmp t => some t | _ => none
def dstAt (ops : Array Oper) (j : Nat) : Option Nat := (ops[j]?).bind (·.dst)
/-- No guards; edges point backwards; each slot that is read is of the list I or written by an operation on which this one waits; each slot is written once and none of I. -/
def okOrd (n : Nat) (I : List Nat) (ops : Array Oper) : Bool :=
  (List.range ops.size).all fun i => match ops[i]? with
    | none => false
    | some o => o.guard.isNone && o.after.toList.all (fun e => !Region.binds .any e || decide (e.on < i)) &&
        (tmpsOf o).all (fun t => I.contains t || o.after.toList.any (fun e => Region.binds .any e && (dstAt ops e.on == some t))) &&
        (match o.dst with | none => true | some d => !I.contains d && decide (d < n) && (List.range ops.size).all fun j => j == i || dstAt ops j != some d)
theorem okOrd_at {n : Nat} {I : List Nat} (h : okOrd n I ops = true) {i : Nat} {o : Oper} (ho : ops[i]? = some o) :
    o.guard = none ∧ (∀ e ∈ o.after.toList, Region.binds .any e = true → e.on < i) ∧ (∀ t ∈ tmpsOf o, t ∈ I ∨ ∃ e ∈ o.after.toList, Region.binds .any e = true ∧ dstAt ops e.on = some t) ∧
    (∀ d, o.dst = some d → d ∉ I ∧ d < n ∧ ∀ j, j < ops.size → j ≠ i → dstAt ops j ≠ some d) := by
  have hlt : i < ops.size := (Array.getElem?_eq_some_iff.1 ho).1
  have h1 := List.all_eq_true.1 h i (List.mem_range.2 hlt)
  simp only [ho, Bool.and_eq_true] at h1
  obtain ⟨⟨⟨h1, h2⟩, h3⟩, h4⟩ := h1
  refine ⟨by simpa using h1, fun e he hb => ?_, fun t ht => ?_, fun d hd => ?_⟩
  · have := List.all_eq_true.1 h2 e he
    simpa [hb] using this
  · have := List.all_eq_true.1 h3 t ht
    simp only [Bool.or_eq_true, List.contains_iff_mem, List.any_eq_true, Bool.and_eq_true, beq_iff_eq] at this
    exact this
  · simp only [hd, Bool.and_eq_true, Bool.not_eq_true', List.contains_eq_mem, decide_eq_false_iff_not, decide_eq_true_eq] at h4
    refine ⟨h4.1.1, h4.1.2, fun j hj hne => ?_⟩
    have := List.all_eq_true.1 h4.2 j (List.mem_range.2 hj)
    simpa [hne] using this
theorem ready_nil {n : Nat} {I : List Nat} (h : okOrd n I ops = true) {listed : Array Bool} (hs : listed.size = ops.size) (hr : Region.ready .any ops listed = []) : ∀ i, i < ops.size → listed[i]? = some true := by
  intro i
  induction i using Nat.strongRecOn with
  | _ i ih =>
    intro hi
    have hlt : i < listed.size := by omega
    cases hv : listed[i] with
    | true => simp [hlt, hv]
    | false =>
      exfalso
      have ho : ops[i]? = some ops[i] := by simp [hi]
      obtain ⟨h1, h2, h3, h4⟩ := okOrd_at h ho
      have : i ∈ Region.ready .any ops listed := by
        simp only [Region.ready, List.mem_filter, List.mem_range, Bool.and_eq_true]
        refine ⟨hi, by simp [Array.getD, hlt, hv], ?_⟩
        simp only [ho, Option.map_some, Option.getD_some, Array.all_eq_true']
        intro e he
        cases hb : Region.binds .any e with
        | false => simp
        | true =>
          have hlt' := h2 e (by simpa using he) hb
          have := ih e.on hlt' (by omega)
          have hl : e.on < listed.size := by omega
          simp only [Bool.not_true, Bool.false_or]
          rw [Array.getElem?_eq_some_iff] at this
          obtain ⟨_, e'⟩ := this
          simp [Array.getD, hl, e']
      rw [hr] at this
      cases this
/-- A region in whatever order, by what is known of each slot's value: each operation once. -/
theorem wp_region_vals {id : Nat} {a : Act} {w : World} (hm : P.follows .mixedOrders = true) (I : List Nat) (V : Nat → Value → World → Prop) (G : World → Prop)
    (n : Nat) (hn : a.tmps.size = n) (hok : okOrd n I ops = true)
    (mono : ∀ t v (w w' : World), V t v w → Below w.heap.size w w' → V t v w')
    (start : G w.drew) (startV : ∀ t ∈ I, V t (a.tmps.getD t undef) w.drew)
    (step : ∀ o ∈ ops.toList, ∀ (a' : Act) (w' : World), G w' → (∀ t ∈ tmpsOf o, V t (a'.tmps.getD t undef) w') → o.wp P a' w' (fun a'' w'' => ∃ v, a'' = a'.put o.dst v ∧ (∀ d, o.dst = some d → V d v w'') ∧ Below w'.heap.size w' w'' ∧ G w'') Q)
    (fin : ∀ (a' : Act) (w' : World), G w' → a'.defers = a.defers → a'.tmps.size = a.tmps.size → (∀ t, (∀ i, dstAt ops i ≠ some t) → a'.tmps[t]? = a.tmps[t]?) → (∀ i d, dstAt ops i = some d → V d (a'.tmps.getD d undef) w') → Q .normal a' w') :
    (Code.region id ops true).wp P Q a w := by
  refine wp_region_inv hm (fun listed a' w' => G w' ∧ a'.defers = a.defers ∧ a'.tmps.size = a.tmps.size ∧ (∀ t, (∀ i, dstAt ops i ≠ some t) → a'.tmps[t]? = a.tmps[t]?) ∧ (∀ t ∈ I, V t (a'.tmps.getD t undef) w') ∧ ∀ i d, dstAt ops i = some d → listed[i]? = some true → V d (a'.tmps.getD d undef) w') ?_ ?_ ?_
  · refine ⟨start, rfl, rfl, fun _ _ => rfl, startV, fun i d hd hl => ?_⟩
    rw [Array.getElem?_replicate] at hl
    split at hl <;> simp at hl
  · rintro listed a' w' i hs ⟨hG, hdf, hsz', hkeep, hI, hV⟩ hi
    have hil : i < ops.size := by
      simp only [Region.ready, List.mem_filter, List.mem_range] at hi; exact hi.1
    have ho : ops[i]? = some ops[i] := by simp [hil]
    obtain ⟨h1, h2, h3, h4⟩ := okOrd_at hok ho
    have hst := step ops[i] (by simp) a' w' hG (fun t ht => by
      rcases h3 t ht with h | ⟨e, he, hb, hd⟩
      · exact hI t h
      · refine hV e.on t hd ?_
        simp only [Region.ready, List.mem_filter, ho, Option.map_some, Option.getD_some, Bool.and_eq_true, Array.all_eq_true'] at hi
        have := hi.2.2 e (by simpa using he)
        have hlt : e.on < listed.size := by have := h2 e he hb; omega
        simp [hb, Array.getD, hlt] at this
        simp [hlt, this])
    unfold wpOp
    simp only [ho]
    rw [if_pos (by simp [Region.wanted, h1])]
    left
    refine Oper.wp_mono ?_ hst
    rintro a'' w'' ⟨v, rfl, hv, hb, hG'⟩
    cases hd : ops[i].dst with
    | none =>
      refine ⟨hG', hdf, hsz', hkeep, fun t ht => mono _ _ _ _ (hI t ht) hb, fun j d hjd hl => ?_⟩
      have hji : j ≠ i := by
        rintro rfl
        simp [dstAt, ho, hd] at hjd
      have : listed[j]? = some true := by
        rw [Array.getElem?_setIfInBounds_ne (Ne.symm hji)] at hl; exact hl
      exact mono _ _ _ _ (hV j d hjd this) hb
    | some d0 =>
      have hd0 : dstAt ops i = some d0 := by simp [dstAt, ho, hd]
      obtain ⟨h5, hd0lt, h6⟩ := h4 d0 hd
      rw [← hn] at hd0lt
      have hput : ∀ t, t ≠ d0 → (a'.put (some d0) v).tmps.getD t undef = a'.tmps.getD t undef := by
        intro t ht
        simp [Act.put, Array.getD_eq_getD_getElem?, Array.getElem?_setIfInBounds_ne (Ne.symm ht)]
      refine ⟨hG', ?_, ?_, fun t ht => ?_, fun t ht => ?_, fun j d hjd hl => ?_⟩
      · simpa [Act.put] using hdf
      · simpa [Act.put] using hsz'
      · have hne : t ≠ d0 := fun e => ht i (e ▸ hd0)
        simp only [Act.put]
        rw [Array.getElem?_setIfInBounds_ne (Ne.symm hne)]
        exact hkeep t ht
      · have hne : t ≠ d0 := fun e => h5 (e ▸ ht)
        rw [hput t hne]
        exact mono _ _ _ _ (hI t ht) hb
      · by_cases hji : j = i
        · subst hji
          rw [hd0] at hjd
          injection hjd with hjd
          subst hjd
          have : (a'.put (some d0) v).tmps.getD d0 undef = v := by
            simp [Act.put, Array.getD_eq_getD_getElem?, hsz', hd0lt]
          rw [this]
          exact hv d0 hd
        · have hne : d ≠ d0 := by
            rintro rfl
            have hjl : j < ops.size := by
              rcases Nat.lt_or_ge j ops.size with h | h
              · exact h
              · simp [dstAt, h] at hjd
            exact h6 j hjl hji hjd
          rw [hput d hne]
          rw [Array.getElem?_setIfInBounds_ne (Ne.symm hji)] at hl
          exact mono _ _ _ _ (hV j d hjd hl) hb
  · rintro listed a' w' hs ⟨hG, hdf, hsz', hkeep, hI, hV⟩ hr
    have hall := ready_nil hok hs hr
    refine fin a' w' hG hdf hsz' hkeep fun i d hd => hV i d hd (hall i ?_)
    rcases Nat.lt_or_ge i ops.size with h | h
    · exact h
    · simp [dstAt, h] at hd
end
end Go.Proofs.YtfljkbfacncdgaaDoor.Inv
