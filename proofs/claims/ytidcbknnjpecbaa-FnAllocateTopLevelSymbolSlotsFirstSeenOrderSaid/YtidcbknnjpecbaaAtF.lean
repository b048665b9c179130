/- FnAllocateTopLevelSymbolSlotsFirstSeenOrder: the renamer under stores, appends, updates. -/
import Derived.Test.YtidcbknnjpecbaaRows
import Derived.Test.YtidcbknnjpecbaaMem
import Derived.Test.YtidcbknnjpecbaaSl
import Derived.Test.YtidcbknnjpecbaaAtD
import Derived.WalkKit
import Derived.ProofKit
import Derived.OpenShut
import Derived.Below
import Derived.WalkLawsBesides
import Derived.Lib.Hide
import Derived.Outline
import Derived.RegionTactic
import Derived.Deep.QuietTactic
import Derived.BigQuiet
import Derived.WalkSpells
import Derived.Deep.OwnRows
import Derived.IntWalk
import Derived.Deep.DeepMust
namespace Go.Proofs.Ytidcbknnjpecbaa.AtF
open Go.RowKit Mem Sl
set_option linter.unusedVariables false
open Args AtA AtB AtP AtC AtD MapK Go.Proofs.Ytidcbknnjpecbaa.Arr Go.Maps

theorem sb_obj {w : World} {B g c : Nat} {L : List (Int × Int)} (h : Sb w B g c L) : ∃ cur, w.heap[g]? = some (.cells cur 83 (0, 0)) := by
  rcases h.2 with ⟨h', _⟩ | ⟨g', cap', cur, h', r1, r2, r3⟩
  · simp at h'
  · simp only [Value.slice.injEq, Option.some.injEq, Addr.mk.injEq, and_true, true_and] at h'
    obtain ⟨rfl, rfl⟩ := h'
    exact ⟨cur, r2⟩
theorem sb_ne_row {w : World} {B g c p : Nat} {t : TypeId} {xs : List Value} {L : List (Int × Int)} (h : Sb w B g c L) (hr : Row w p t xs) (ht : t ≠ 83) : p ≠ g := by
  rintro rfl
  obtain ⟨cur, hc⟩ := sb_obj h
  unfold Row at hr
  rw [hc] at hr
  injection hr with hr
  injection hr with h1 h2
  exact ht h2.symm
theorem sb_ne_map {w : World} {B g c b n : Nat} {d : TypeId} {f : Value → Option Value} {L : List (Int × Int)} (h : Sb w B g c L) (hm : MapF Try.prog w b d n f) : b ≠ g := by
  rintro rfl
  obtain ⟨cur, hc⟩ := sb_obj h
  obtain ⟨es, ck, hb, _⟩ := hm
  rw [hc] at hb
  cases hb
theorem row_ne_map {w : World} {p b n : Nat} {t d : TypeId} {xs : List Value} {f : Value → Option Value} (h : Row w p t xs) (hm : MapF Try.prog w b d n f) : b ≠ p := by
  rintro rfl
  obtain ⟨es, ck, hb, _⟩ := hm
  unfold Row at h
  rw [h] at hb
  cases hb
section
variable {w : World} {B p mb : Nat} {rb sm : Value} {A2 A3 : Option Addr} {ini : Nat → Nat} {cp : Nat → Int} {m : Md} {g0 c0 g1 c1 : Nat} {f : Value → Option Value} {cnt : Nat}
theorem set_same (L : List (Int × Int)) (k : Nat) (x : Int × Int) (h : L[k]? = some x) : L.set k x = L := by
  apply List.ext_getElem?
  intro j
  by_cases e : k = j
  · subst e
    rw [List.getElem?_set_self (List.getElem?_eq_some_iff.1 h).1, h]
  · rw [List.getElem?_set_ne e]
theorem seen0 (h : Rn w B p mb rb sm A2 A3 ini cp m g0 c0 g1 c1 f cnt) {q i : Nat} (hn : (m.o 0).Nodup) (hq : (m.o 0)[q]? = some i) (hno : i ∉ m.o 1) (hi : ¬ m.fst i < 0) (z : Int) : Rn (w.setCell ⟨g0, (ini 0 + q) * 3 + 1, none⟩ (.int .u32 z)) B p mb rb sm A2 A3 ini cp ⟨m.fst, up m.sum i z, m.o⟩ g0 c0 g1 c1 f cnt := by
  refine ⟨h.row.far (sb_ne_row h.b0 h.row (by decide)) _, ?_, ?_, h.ne, h.mp.set (sb_ne_map h.b0 h.mp) _, h.no, h.at_, h.pB, h.mB⟩
  · have q9 := h.b0.set1 (slotsL_at hq) z
    rw [← slotsL_set hn hq] at q9
    exact q9
  · show Sb _ _ _ _ (slotsL (ini 1) cp (up m.sum i z) (m.o 1))
    rw [slotsL_other hno]
    exact h.b1.far (Ne.symm h.ne) _
theorem mark0 (h : Rn w B p mb rb sm A2 A3 ini cp m g0 c0 g1 c1 f cnt) {q i : Nat} (hq : (m.o 0)[q]? = some i) {z : Int} (hz : cp i = z) : Rn (w.setCell ⟨g0, (ini 0 + q) * 3 + 2, none⟩ (.int .u32 z)) B p mb rb sm A2 A3 ini cp m g0 c0 g1 c1 f cnt := by
  have k := slotsL_at (init := ini 0) (cap := cp) (sum := m.sum) hq
  have q9 := h.b0.set2 k z
  rw [hz] at k
  rw [set_same _ _ _ k] at q9
  exact ⟨h.row.far (sb_ne_row h.b0 h.row (by decide)) _, q9, h.b1.far (Ne.symm h.ne) _, h.ne, h.mp.set (sb_ne_map h.b0 h.mp) _, h.no, h.at_, h.pB, h.mB⟩
/-- A slot more, and its number in the map. -/
theorem new0 (h : Rn w B p mb rb sm A2 A3 ini cp m g0 c0 g1 c1 f cnt) {i g' c' cnt' : Nat} {w5 w7 : World} {x t : Int} (hi : m.fst i < 0) (hno : ∀ s, i ∉ m.o s) (hB : B ≤ w.heap.size)
    (hown : w5.ownsRow B 83 3 (.slice (some ⟨g', 0, none⟩) (ini 0 + (m.o 0).length + 1) c') (ini 0 + (m.o 0).length + 1) (sl (slotsL (ini 0) cp m.sum (m.o 0)) ++ [.string ByteArray.empty, .int .u32 x, .int .u32 (cp i)]))
    (hgr : w.grownBy w5 (some g0)) (hat : g' = g0 ∨ g' = w.heap.size) (hg7 : (w5.setCell ⟨p, 1, none⟩ (.slice (some ⟨g', 0, none⟩) (ini 0 + (m.o 0).length + 1) c')).grownBy w7 (some mb))
    (hm7 : MapF Try.prog w7 mb 50 cnt' (put f (refv i) (.int .u32 ((ini 0 + (m.o 0).length : Nat) : Int)))) (ht : 0 ≤ t) :
    Rn w7 B p mb rb sm A2 A3 ini cp ⟨up m.fst i t, up m.sum i x, up m.o 0 (m.o 0 ++ [i])⟩ g' c' g1 c1 (put f (refv i) (.int .u32 ((ini 0 + (m.o 0).length : Nat) : Int))) cnt' := by
  have hpg := sb_ne_row h.b0 h.row (by decide)
  have hmp := row_ne_map h.row h.mp
  have hmg := sb_ne_map h.b0 h.mp
  have hmo := sb_ne_map h.b1 h.mp
  have hpo := sb_ne_row h.b1 h.row (by decide)
  have hpl := h.row.lt
  have hol := h.b1.lt.2
  have hml := h.mp.lt
  have hpg' : g' ≠ p := by rcases hat with rfl | rfl <;> omega
  have hog' : g1 ≠ g' := by have := h.ne; rcases hat with rfl | rfl <;> omega
  have hmg' : mb ≠ g' := by rcases hat with rfl | rfl <;> omega
  have hinj : ∀ j, refv j = refv i → j = i := by
    intro j e
    unfold refv at e
    simp at e
    omega
  have hrow5 := h.row.grown hgr (by intro e; injection e with e; exact hpg e)
  have hrow7 := ((hrow5.set 1 (.slice (some ⟨g', 0, none⟩) (ini 0 + (m.o 0).length + 1) c')).grown hg7 (by intro e; injection e with e; exact hmp e.symm))
  have hS7 : Sb w7 B g' c' (slotsL (ini 0) cp (up m.sum i x) (m.o 0 ++ [i])) := by
    rw [slotsL_new (hno 0)]
    refine Sb.grown ?_ hg7 (by intro e; injection e with e; exact hmg' e.symm)
    refine Sb.far ?_ hpg' _
    unfold Sb
    rw [List.length_append, slotsL_len, sl_append]
    exact hown
  have hO7 : Sb w7 B g1 c1 (slotsL (ini 1) cp (up m.sum i x) (m.o 1)) := by
    rw [slotsL_other (hno 1)]
    exact ((h.b1.grown hgr (by intro e; injection e with e; exact h.ne e.symm)).far (Ne.symm hpo) _).grown hg7 (by intro e; injection e with e; exact hmo e.symm)
  refine ⟨?_, ?_, ?_, Ne.symm hog', hm7, ?_, ?_, h.pB, h.mB⟩
  · simpa [up_self, up_ne, Nat.add_assoc] using hrow7
  · simpa [up_self] using hS7
  · simpa [up_ne] using hO7
  · intro j hj
    by_cases e : j = i
    · subst e; simp only [up_self] at hj; omega
    · simp only [up_ne _ _ e] at hj
      rw [put_other f _ (fun e' => e (hinj j e'))]
      exact h.no j hj
  · intro s q j hj
    by_cases es : s = 0
    · subst es
      simp only [up_self] at hj
      by_cases hq : q < (m.o 0).length
      · rw [List.getElem?_append_left hq] at hj
        have hji : j ≠ i := fun e => hno 0 (by rw [← e]; exact List.mem_of_getElem? hj)
        rw [put_other f _ (fun e' => hji (hinj j e'))]
        exact h.at_ 0 q j hj
      · have hl := (List.getElem?_eq_some_iff.1 hj).1
        simp at hl
        obtain rfl : q = (m.o 0).length := by omega
        have : j = i := by simpa using hj.symm
        subst this
        rw [put_self]
    · simp only [up_ne _ _ es] at hj
      have hji : j ≠ i := fun e => hno s (by rw [← e]; exact List.mem_of_getElem? hj)
      rw [put_other f _ (fun e' => hji (hinj j e'))]
      exact h.at_ s q j hj
theorem seen1 (h : Rn w B p mb rb sm A2 A3 ini cp m g0 c0 g1 c1 f cnt) {q i : Nat} (hn : (m.o 1).Nodup) (hq : (m.o 1)[q]? = some i) (hno : i ∉ m.o 0) (hi : ¬ m.fst i < 0) (z : Int) : Rn (w.setCell ⟨g1, (ini 1 + q) * 3 + 1, none⟩ (.int .u32 z)) B p mb rb sm A2 A3 ini cp ⟨m.fst, up m.sum i z, m.o⟩ g0 c0 g1 c1 f cnt := by
  refine ⟨h.row.far (sb_ne_row h.b1 h.row (by decide)) _, ?_, ?_, h.ne, h.mp.set (sb_ne_map h.b1 h.mp) _, h.no, h.at_, h.pB, h.mB⟩
  · show Sb _ _ _ _ (slotsL (ini 0) cp (up m.sum i z) (m.o 0))
    rw [slotsL_other hno]
    exact h.b0.far h.ne _
  · have q9 := h.b1.set1 (slotsL_at hq) z
    rw [← slotsL_set hn hq] at q9
    exact q9
theorem mark1 (h : Rn w B p mb rb sm A2 A3 ini cp m g0 c0 g1 c1 f cnt) {q i : Nat} (hq : (m.o 1)[q]? = some i) {z : Int} (hz : cp i = z) : Rn (w.setCell ⟨g1, (ini 1 + q) * 3 + 2, none⟩ (.int .u32 z)) B p mb rb sm A2 A3 ini cp m g0 c0 g1 c1 f cnt := by
  have k := slotsL_at (init := ini 1) (cap := cp) (sum := m.sum) hq
  have q9 := h.b1.set2 k z
  rw [hz] at k
  rw [set_same _ _ _ k] at q9
  exact ⟨h.row.far (sb_ne_row h.b1 h.row (by decide)) _, h.b0.far h.ne _, q9, h.ne, h.mp.set (sb_ne_map h.b1 h.mp) _, h.no, h.at_, h.pB, h.mB⟩
/-- A slot more, and its number in the map. -/
theorem new1 (h : Rn w B p mb rb sm A2 A3 ini cp m g0 c0 g1 c1 f cnt) {i g' c' cnt' : Nat} {w5 w7 : World} {x t : Int} (hi : m.fst i < 0) (hno : ∀ s, i ∉ m.o s) (hB : B ≤ w.heap.size)
    (hown : w5.ownsRow B 83 3 (.slice (some ⟨g', 0, none⟩) (ini 1 + (m.o 1).length + 1) c') (ini 1 + (m.o 1).length + 1) (sl (slotsL (ini 1) cp m.sum (m.o 1)) ++ [.string ByteArray.empty, .int .u32 x, .int .u32 (cp i)]))
    (hgr : w.grownBy w5 (some g1)) (hat : g' = g1 ∨ g' = w.heap.size) (hg7 : (w5.setCell ⟨p, 2, none⟩ (.slice (some ⟨g', 0, none⟩) (ini 1 + (m.o 1).length + 1) c')).grownBy w7 (some mb))
    (hm7 : MapF Try.prog w7 mb 50 cnt' (put f (refv i) (.int .u32 ((ini 1 + (m.o 1).length : Nat) : Int)))) (ht : 0 ≤ t) :
    Rn w7 B p mb rb sm A2 A3 ini cp ⟨up m.fst i t, up m.sum i x, up m.o 1 (m.o 1 ++ [i])⟩ g0 c0 g' c' (put f (refv i) (.int .u32 ((ini 1 + (m.o 1).length : Nat) : Int))) cnt' := by
  have hpg := sb_ne_row h.b1 h.row (by decide)
  have hmp := row_ne_map h.row h.mp
  have hmg := sb_ne_map h.b1 h.mp
  have hmo := sb_ne_map h.b0 h.mp
  have hpo := sb_ne_row h.b0 h.row (by decide)
  have hpl := h.row.lt
  have hol := h.b0.lt.2
  have hml := h.mp.lt
  have hpg' : g' ≠ p := by rcases hat with rfl | rfl <;> omega
  have hog' : g0 ≠ g' := by have := h.ne; rcases hat with rfl | rfl <;> omega
  have hmg' : mb ≠ g' := by rcases hat with rfl | rfl <;> omega
  have hinj : ∀ j, refv j = refv i → j = i := by
    intro j e
    unfold refv at e
    simp at e
    omega
  have hrow5 := h.row.grown hgr (by intro e; injection e with e; exact hpg e)
  have hrow7 := ((hrow5.set 2 (.slice (some ⟨g', 0, none⟩) (ini 1 + (m.o 1).length + 1) c')).grown hg7 (by intro e; injection e with e; exact hmp e.symm))
  have hS7 : Sb w7 B g' c' (slotsL (ini 1) cp (up m.sum i x) (m.o 1 ++ [i])) := by
    rw [slotsL_new (hno 1)]
    refine Sb.grown ?_ hg7 (by intro e; injection e with e; exact hmg' e.symm)
    refine Sb.far ?_ hpg' _
    unfold Sb
    rw [List.length_append, slotsL_len, sl_append]
    exact hown
  have hO7 : Sb w7 B g0 c0 (slotsL (ini 0) cp (up m.sum i x) (m.o 0)) := by
    rw [slotsL_other (hno 0)]
    exact ((h.b0.grown hgr (by intro e; injection e with e; exact h.ne e)).far (Ne.symm hpo) _).grown hg7 (by intro e; injection e with e; exact hmo e.symm)
  refine ⟨?_, ?_, ?_, hog', hm7, ?_, ?_, h.pB, h.mB⟩
  · simpa [up_self, up_ne, Nat.add_assoc] using hrow7
  · simpa [up_ne] using hO7
  · simpa [up_self] using hS7
  · intro j hj
    by_cases e : j = i
    · subst e; simp only [up_self] at hj; omega
    · simp only [up_ne _ _ e] at hj
      rw [put_other f _ (fun e' => e (hinj j e'))]
      exact h.no j hj
  · intro s q j hj
    by_cases es : s = 1
    · subst es
      simp only [up_self] at hj
      by_cases hq : q < (m.o 1).length
      · rw [List.getElem?_append_left hq] at hj
        have hji : j ≠ i := fun e => hno 1 (by rw [← e]; exact List.mem_of_getElem? hj)
        rw [put_other f _ (fun e' => hji (hinj j e'))]
        exact h.at_ 1 q j hj
      · have hl := (List.getElem?_eq_some_iff.1 hj).1
        simp at hl
        obtain rfl : q = (m.o 1).length := by omega
        have : j = i := by simpa using hj.symm
        subst this
        rw [put_self]
    · simp only [up_ne _ _ es] at hj
      have hji : j ≠ i := fun e => hno s (by rw [← e]; exact List.mem_of_getElem? hj)
      rw [put_other f _ (fun e' => hji (hinj j e'))]
      exact h.at_ s q j hj
end
end Go.Proofs.Ytidcbknnjpecbaa.AtF
