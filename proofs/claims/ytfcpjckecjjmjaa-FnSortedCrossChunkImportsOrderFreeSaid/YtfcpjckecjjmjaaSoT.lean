/- FnSortedCrossChunkImportsOrderFree: the state of the loop over the imports. -/
import Derived.Test.YtfcpjckecjjmjaaSoN
import Derived.WalkKit
import Derived.ProofKit
import Derived.OpenShut
import Derived.Below
import Derived.WalkLawsBesides
import Derived.Lib.Hide
import Derived.Outline
import Derived.RegionTactic
import Derived.Deep.QuietTactic
import Derived.BigQuiet
import Derived.WalkSpells
import Derived.Deep.OwnRows
import Derived.IntWalk
import Derived.Deep.DeepMust
namespace Go.Proofs.Ytfcpjckecjjmjaa.SoT
open Go.RowKit Go.Sort Go.MapKept Mem Args Fvs Fxs Tab MapK SoX SoY SoG SoC SoE SoF SoI SoN
set_option linter.unusedVariables false

def rowOf (e : MapEntry) : MRow :=
  match e.key, e.val with
  | .int _ c, .slice (some a) n cap => (a.block, n, cap, c)
  | _, _ => (0, 0, 0, 0)
abbrev ck (e : MapEntry) : Int := (rowOf e).2.2.2
/-- The entries as they are when the loop begins. -/
structure Es (w : World) (b : Nat) (ps : List Ent) (es : List MapEntry) : Prop where
  form : ∀ e ∈ es, e.key = .int .u32 (ck e) ∧ e.val = .slice (some ⟨(rowOf e).1, 0, none⟩) (rowOf e).2.1 (rowOf e).2.2.1
  rng : ∀ e ∈ es, b + 1 ≤ (rowOf e).1 ∧ (rowOf e).1 < w.heap.size
  len : ∀ e ∈ es, (rowOf e).2.1 = (its ps (ck e)).length
  tab : ∀ e ∈ es, ∀ al, Tb w (rowOf e).1 (rowOf e).2.1 3 (fun q j => VI (midR al (its ps (ck e)) 0)[q]! j)
  inj : ∀ e ∈ es, ∀ e' ∈ es, (rowOf e).1 = (rowOf e').1 → ck e = ck e'
  nodup : (es.map ck).Nodup
  mem : ∀ c, c ∈ es.map ck ↔ c ∈ ps.map (·.1)
theorem its_nonempty {ps : List Ent} {c : Int} (h : c ∈ ps.map (·.1)) : 0 < (its ps c).length := by
  obtain ⟨p, hp, rfl⟩ := List.mem_map.1 h
  unfold its
  rw [List.length_map]
  exact List.length_pos_of_mem (List.mem_filter.2 ⟨hp, by simp⟩)
theorem es_of {w : World} {b : Nat} {ps : List Ent} {V : Int → Value} (h : Im w b ps V) : ∃ es : List MapEntry, (∃ esA cl, w.heap[b]? = some (.map esA cl) ∧ esA.toList = es ∧ Stamped esA cl) ∧ Es w b ps es := by
  obtain ⟨es, hA, h1, h2, h3⟩ := h.map.entries
  have key : ∀ e ∈ es, ∃ c : Int, ∃ g cap, e.key = .int .u32 c ∧ e.val = V c ∧ c ∈ ps.map (·.1) ∧ V c = .slice (some ⟨g, 0, none⟩) (its ps c).length cap ∧ rowOf e = (g, (its ps c).length, cap, c) ∧ b + 1 ≤ g ∧ g < w.heap.size := by
    intro e he
    obtain ⟨c, hc, hk, hv⟩ := h1 e he
    by_cases hm : c ∈ ps.map (·.1)
    · rw [if_pos hm] at hv
      injection hv with hv
      have hne : V c ≠ .slice none 0 0 := by
        intro h0
        rcases (h.own c).2 with ⟨_, hz⟩ | ⟨g, cap, cur, hg, _⟩
        · have := its_nonempty hm; omega
        · rw [h0] at hg; cases hg
      obtain ⟨g, cap, hg, hb, hl⟩ := own_some (h.own c) hne
      refine ⟨c, g, cap, hk, hv.symm, hm, hg, ?_, hb, hl⟩
      unfold rowOf
      rw [hk, ← hv, hg]
    · rw [if_neg hm] at hv; cases hv
  refine ⟨es, hA, ⟨fun e he => ?_, fun e he => ?_, fun e he => ?_, fun e he al => ?_, fun e he e' he' hee => ?_, ?_, fun c => ⟨fun hc => ?_, fun hc => ?_⟩⟩⟩
  · obtain ⟨c, g, cap, k1, k2, k3, k4, k5, k6, k7⟩ := key e he
    rw [show ck e = c from by rw [ck, k5], k5, k1, k2, k4]
    exact ⟨rfl, rfl⟩
  · obtain ⟨c, g, cap, k1, k2, k3, k4, k5, k6, k7⟩ := key e he
    rw [k5]; exact ⟨k6, k7⟩
  · obtain ⟨c, g, cap, k1, k2, k3, k4, k5, k6, k7⟩ := key e he
    rw [show ck e = c from by rw [ck, k5], k5]
  · obtain ⟨c, g, cap, k1, k2, k3, k4, k5, k6, k7⟩ := key e he
    rw [show ck e = c from by rw [ck, k5], k5]
    have ho := h.own c
    rw [k4] at ho
    refine own_tb ho _ (fun i j hi hj => ?_)
    obtain ⟨p, hp⟩ : ∃ p, (its ps c)[i]? = some p := ⟨_, List.getElem?_eq_getElem hi⟩
    obtain ⟨q1, q2, q3⟩ := cI_at (its ps c) i p hp
    rw [midR_at al (its ps c) 0 i p hp]
    have e : j = 0 ∨ j = 1 ∨ j = 2 := by omega
    rcases e with rfl | rfl | rfl
    · simpa [VI] using q1
    · simpa [VI] using q2
    · simpa [VI] using q3
  · obtain ⟨c, g, cap, k1, k2, k3, k4, k5, k6, k7⟩ := key e he
    obtain ⟨c', g', cap', l1, l2, l3, l4, l5, l6, l7⟩ := key e' he'
    rw [k5, l5] at hee
    rw [ck, ck, k5, l5]
    refine Classical.byContradiction fun hne => ?_
    have := h.dj c c' hne
    rw [k4, l4] at this
    rcases this with h0 | h0
    · cases h0
    · exact h0 (congrArg some hee)
  · have e : es.map (·.key) = (es.map ck).map (fun c => Value.int .u32 c) := by
      rw [List.map_map]
      refine List.map_congr_left (fun e he => ?_)
      obtain ⟨c, g, cap, k1, k2, k3, k4, k5, k6, k7⟩ := key e he
      simp only [Function.comp, ck, k5, k1]
    rw [e] at h3
    exact (List.pairwise_map.1 h3).imp (fun hne e => hne (congrArg _ e))
  · obtain ⟨e, he, rfl⟩ := List.mem_map.1 hc
    obtain ⟨c, g, cap, k1, k2, k3, k4, k5, k6, k7⟩ := key e he
    rw [ck, k5]; exact k3
  · obtain ⟨x, hx, hk, hv⟩ := h2 c (V c) (by rw [if_pos hc])
    refine List.mem_map.2 ⟨x, hx, ?_⟩
    obtain ⟨c', g, cap, k1, k2, k3, k4, k5, k6, k7⟩ := key x hx
    rw [hk] at k1
    injection k1 with _ k1
    rw [ck, k5]; exact k1.symm
def rM (R : List MRow) : List Value := R.flatMap fun x => [.slice (some ⟨x.1, 0, none⟩) x.2.1 x.2.2.1, .int .u32 x.2.2.2]
theorem rM_append (R : List MRow) (x : MRow) : rM (R ++ [x]) = rM R ++ [.slice (some ⟨x.1, 0, none⟩) x.2.1 x.2.2.1, .int .u32 x.2.2.2] := by simp [rM]
theorem rM_at : ∀ (R : List MRow) (i : Nat) (x : MRow), R[i]? = some x → (rM R)[i * 2]? = some (.slice (some ⟨x.1, 0, none⟩) x.2.1 x.2.2.1) ∧ (rM R)[i * 2 + 1]? = some (.int .u32 x.2.2.2)
  | [], i, x, h => by simp at h
  | a :: t, 0, x, h => by
    simp at h
    subst h
    exact ⟨rfl, rfl⟩
  | a :: t, i + 1, x, h => by
    have ih := rM_at t i x (by simpa using h)
    have e : rM (a :: t) = .slice (some ⟨a.1, 0, none⟩) a.2.1 a.2.2.1 :: .int .u32 a.2.2.2 :: rM t := rfl
    rw [e, show (i + 1) * 2 = i * 2 + 1 + 1 by omega, show i * 2 + 1 + 1 + 1 = (i * 2 + 1) + 1 + 1 by omega]
    simp only [List.getElem?_cons_succ]
    exact ih
/-- The state of the loop: done is done, todo is still to come. -/
structure St (w : World) (b : Nat) (ps : List Ent) (es : List MapEntry) (al : Int → Int → Int → ByteArray) (todo done : List MapEntry) (D : Int → Array IRow) (v : Value) (wr : World) : Prop where
  perm : (done ++ todo).Perm es
  own : wr.ownsRow w.heap.size 39 2 v done.length (rM (done.map rowOf))
  ne : v ≠ .slice none 0 0
  vr : v.ownBlock ≠ some (w.heap.size + 1)
  tab : ∀ e ∈ es, Tb wr (rowOf e).1 (rowOf e).2.1 3 (fun q j => VI (D (ck e))[q]! j) ∧ (D (ck e)).size = (rowOf e).2.1
  fin : ∀ e ∈ done, SortedIn ltI 0 (rowOf e).2.1 (D (ck e)) ∧ (D (ck e)).toList.Perm (midR (al (ck e)) (its ps (ck e)) (its ps (ck e)).length).toList
  ini : ∀ e ∈ todo, D (ck e) = midR (al (ck e)) (its ps (ck e)) 0
  bel : Below b w wr
section
variable {w wr w1 w2 w3 w4 w5 : World} {b : Nat} {ps : List Ent} {es todo todo' done : List MapEntry} {al : Int → Int → Int → ByteArray} {D : Int → Array IRow} {v v' : Value}
theorem St.own1 (h : St w b ps es al todo done D v wr) (hg : wr.grownBy w1 (some (w.heap.size + 1))) : w1.ownsRow w.heap.size 39 2 v done.length (rM (done.map rowOf)) :=
  own_kept h.own (fun g hg' => hg.block g (own_lt h.own hg').2 (fun e => h.vr (by rw [hg', e])))
theorem own_fx {B k : Nat} {xs : List Value} {G : Nat} (h : w1.ownsRow B 39 2 v k xs) (hG : G < B) (f : Fx (fun j => j = G) w1 w3) : w3.ownsRow B 39 2 v k xs :=
  own_kept h (fun g hg' => f.block g (own_lt h hg').2 (fun e => by have := (own_lt h hg').1; omega))
theorem St.rows (h : St w b ps es al todo done D v wr) (hE : Es w b ps es) {e : MapEntry} (he : e ∈ es) (hg : wr.grownBy w1 (some (w.heap.size + 1))) : Tb w1 (rowOf e).1 (rowOf e).2.1 3 (fun q j => VI (D (ck e))[q]! j) :=
  (h.tab e he).1.fx (P := fun j => j = w.heap.size + 1) ⟨hg.os, hg.tape, hg.output, hg.size, fun j hj hp => hg.block j hj (fun e => by injection e with e; exact hp e)⟩ (by have := (hE.rng e he).2; omega)
theorem St.bel1 (h : St w b ps es al todo done D v wr) (hg : wr.grownBy w1 (some (w.heap.size + 1))) (hb : b < w.heap.size) : Below b w w1 :=
  h.bel.trans ⟨hg.os, hg.tape, hg.output, hg.size, fun j hj => hg.block j (by have := h.bel.size; omega) (fun e => by injection e with e; omega)⟩
/-- One entry is done. -/
theorem St.turn (h : St w b ps es al todo done D v wr) (hE : Es w b ps es) (hb : b < w.heap.size) {e : MapEntry} (hp : todo.Perm (e :: todo')) (hg1 : wr.grownBy w1 (some (w.heap.size + 1))) (f : Fx (fun j => j = (rowOf e).1) w1 w3) {d' : Array IRow}
    (ht : Tb w3 (rowOf e).1 (rowOf e).2.1 3 (fun q j => VI d'[q]! j)) (hz : d'.size = (rowOf e).2.1) (hs : SortedIn ltI 0 (rowOf e).2.1 d') (hpd : d'.toList.Perm (midR (al (ck e)) (its ps (ck e)) (its ps (ck e)).length).toList)
    (al4 : Below w3.heap.size w3 w4) (hown : w5.ownsRow w.heap.size 39 2 v' (done.length + 1) (rM (done.map rowOf) ++ [.slice (some ⟨(rowOf e).1, 0, none⟩) (rowOf e).2.1 (rowOf e).2.2.1, .int .u32 (ck e)])) (hg5 : w4.grownBy w5 v.ownBlock) (hat : v'.ownBlock = v.ownBlock ∨ v'.ownBlock = some w4.heap.size) (hsz : wr.heap.size ≤ w1.heap.size) (hrs : w.heap.size + 1 < wr.heap.size) :
    St w b ps es al todo' (done ++ [e]) (upz D (ck e) d') v' w5 := by
  have hperm : (done ++ (e :: todo')).Perm es := (List.Perm.append_left done hp).symm.trans h.perm |> fun x => x
  have het : e ∈ es := hperm.mem_iff.1 (by simp)
  have hG := hE.rng e het
  have o1 := h.own1 hg1
  have o3 := own_fx o1 hG.2 f
  have ks : (es.map ck).Nodup := hE.nodup
  have nd : ((done ++ (e :: todo')).map ck).Nodup := (hperm.map ck).nodup_iff.2 ks
  have cks : ∀ x, x ∈ done ∨ x ∈ todo' → ck x ≠ ck e := by
    intro x hx hxe
    rw [List.map_append, List.map_cons] at nd
    have nd2 := List.nodup_append.1 nd
    rcases hx with hx | hx
    · exact nd2.2.2 (ck x) (List.mem_map.2 ⟨x, hx, rfl⟩) (ck e) (by simp) hxe
    · exact (List.nodup_cons.1 nd2.2.1).1 (List.mem_map.2 ⟨x, hx, hxe⟩)
  have us : upz D (ck e) d' (ck e) = d' := by unfold upz; rw [if_pos rfl]
  have un : ∀ c, c ≠ ck e → upz D (ck e) d' c = D c := fun c hc => by unfold upz; rw [if_neg hc]
  have lt5 : ∀ g, g < w.heap.size → w5.heap[g]? = w3.heap[g]? := fun g hg => by
    have h3 : g < w3.heap.size := Nat.lt_of_lt_of_le (Nat.lt_of_lt_of_le (Nat.lt_of_lt_of_le hg h.bel.size) hsz) f.size
    refine (hg5.block g (Nat.lt_of_lt_of_le h3 al4.size) (fun e' => ?_)).trans (al4.block g h3)
    have := (own_lt o3 e'.symm).1
    omega
  have tb5 : ∀ {g n : Nat} {TT : Nat → Nat → Value}, g < w.heap.size → Tb w3 g n 3 TT → Tb w5 g n 3 TT := fun {g n TT} hg htb => by
    have hb' := lt5 g hg
    refine ⟨Nat.lt_of_lt_of_le (Nat.lt_of_lt_of_le htb.lt al4.size) hg5.size, fun i j hi hj => ?_, fun o => ?_⟩
    · rw [← htb.cell i j hi hj]; simp [World.cell?, hb']
    · rw [← htb.frozen o]; simp [World.frozen?, hb']
  refine ⟨?_, ?_, ?_, ?_, fun x hx => ?_, fun x hx => ?_, fun x hx => ?_, ?_⟩
  · rw [List.append_assoc]; exact hperm
  · rw [List.length_append, List.map_append, show [e].map rowOf = [rowOf e] from rfl, rM_append]
    exact hown
  · rintro rfl
    rcases hown.2 with ⟨_, h0⟩ | ⟨g, cap, cur, h0, _⟩
    · omega
    · cases h0
  · rcases hat with e' | e'
    · rw [e']; exact h.vr
    · rw [e']; intro e2; injection e2 with e2; have := f.size; have := al4.size; omega
  · by_cases hc : ck x = ck e
    · have hxe : x = e := by
        obtain ⟨i, hi⟩ := List.mem_iff_getElem?.1 hx
        obtain ⟨j, hj⟩ := List.mem_iff_getElem?.1 het
        have h1 : (es.map ck)[i]? = some (ck x) := by rw [List.getElem?_map, hi]; rfl
        have h2 : (es.map ck)[j]? = some (ck e) := by rw [List.getElem?_map, hj]; rfl
        have hil : i < es.length := (List.getElem?_eq_some_iff.1 hi).1
        have := (List.getElem?_inj (by simpa using hil) ks).1 (h1.trans ((congrArg some hc).trans h2.symm))
        subst this
        rw [hi] at hj
        exact Option.some.inj hj
      subst hxe
      rw [us]
      exact ⟨tb5 hG.2 ht, hz⟩
    · rw [un _ hc]
      refine ⟨tb5 (hE.rng x hx).2 ((h.rows hE hx hg1).fx f (fun e' => hc (hE.inj x hx e het e'))), (h.tab x hx).2⟩
  · rcases List.mem_append.1 hx with hx | hx
    · rw [un _ (cks x (.inl hx))]
      exact h.fin x hx
    · simp only [List.mem_singleton] at hx
      subst hx
      rw [us]
      exact ⟨hs, hpd⟩
  · rw [un _ (cks x (.inr hx))]
    exact h.ini x (hp.mem_iff.2 (List.mem_cons_of_mem _ hx))
  · have b1 := h.bel1 hg1 hb
    have b3 : Below b w w3 := b1.trans ⟨f.os, f.tape, f.output, f.size, fun j hj => f.block j (by have := b1.size; omega) (fun e => by omega)⟩
    have b4 : Below b w w4 := b3.trans (al4.mono (by have := b3.size; omega))
    exact b4.trans ⟨hg5.os, hg5.tape, hg5.output, hg5.size, fun j hj => hg5.block j (by have := b4.size; omega) (fun e => by have := (own_lt o3 e.symm).1; omega)⟩
end
end Go.Proofs.Ytfcpjckecjjmjaa.SoT
