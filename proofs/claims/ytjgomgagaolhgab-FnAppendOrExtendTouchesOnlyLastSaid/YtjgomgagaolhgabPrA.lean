/- Slices of part ranges: appendOrExtendPartRange. -/
import Derived.Test.YtjgomgagaolhgabRows
import Derived.Test.YtjgomgagaolhgabMem
import Derived.Test.YtjgomgagaolhgabSl
import Derived.Test.YtjgomgagaolhgabArr
import Derived.Test.YtjgomgagaolhgabArrB
import Derived.OwnWalk
import Derived.Deep.MidRow
import Derived.Great.BuildSlice
import Derived.WalkKit
import Derived.ProofKit
import Derived.OpenShut
import Derived.Below
import Derived.WalkLawsBesides
import Derived.Lib.Hide
import Derived.Outline
import Derived.RegionTactic
import Derived.Deep.QuietTactic
import Derived.BigQuiet
import Derived.WalkSpells
import Derived.Deep.OwnRows
import Derived.IntWalk
import Derived.Deep.DeepMust
namespace Go.Proofs.Ytjgomgagaolhgab.PrA
open Go.RowKit Mem Sl
set_option linter.unusedVariables false
open Arr ArrB

/-- Block g is cells of type e, m of them, none frozen. -/
def Blk (w : World) (g : Nat) (e : TypeId) (m : Nat) : Prop := ∃ cur : Array Value, w.heap[g]? = some (.cells cur e (0, 0)) ∧ cur.size = m
theorem Blk.set {w : World} {g m : Nat} {e : TypeId} (h : Blk w g e m) (i : Nat) (v : Value) : Blk (w.setCell ⟨g, i, none⟩ v) g e m := by
  obtain ⟨cur, h1, h2⟩ := h
  refine ⟨cur.setIfInBounds i v, ?_, by simpa using h2⟩
  simp [World.setCell, Array.getElem?_modify, h1]
theorem Blk.drew {w : World} {g m : Nat} {e : TypeId} (h : Blk w g e m) : Blk w.drew g e m := h
theorem Blk.below {w w' : World} {g m B : Nat} {e : TypeId} (h : Blk w g e m) (hb : Below B w w') (hg : g < B) : Blk w' g e m := by
  obtain ⟨cur, h1, h2⟩ := h
  exact ⟨cur, (hb.block g hg).trans h1, h2⟩
def flat (F : Nat → Nat → Int) (n : Nat) : List Value := (List.range n).flatMap fun k => [.int .u32 (F k 0), .int .u32 (F k 1), .int .u32 (F k 2)]
theorem flat_succ (F : Nat → Nat → Int) (n : Nat) : flat F (n + 1) = flat F n ++ [.int .u32 (F n 0), .int .u32 (F n 1), .int .u32 (F n 2)] := by
  simp [flat, List.range_succ]
theorem flat_len (F : Nat → Nat → Int) (n : Nat) : (flat F n).length = n * 3 := by
  induction n with
  | zero => rfl
  | succ n ih => rw [flat_succ, List.length_append, ih]; simp; omega
theorem flat_at (F : Nat → Nat → Int) (n k j : Nat) (hk : k < n) (hj : j < 3) : (flat F n)[k * 3 + j]? = some (.int .u32 (F k j)) := by
  induction n with
  | zero => omega
  | succ n ih =>
    rw [flat_succ]
    by_cases e : k < n
    · rw [List.getElem?_append_left (by rw [flat_len]; omega)]
      exact ih e
    · obtain rfl : k = n := by omega
      rw [List.getElem?_append_right (by rw [flat_len]; omega), flat_len]
      have : j = 0 ∨ j = 1 ∨ j = 2 := by omega
      rcases this with rfl | rfl | rfl <;> simp
theorem owns_of_arr {w : World} {base g n : Nat} {F : Nat → Nat → Int} (h : Arr w g n 3 u32s F) (hb : Blk w g 88 (n * 3)) (hg : base ≤ g) (hn : n ≤ maxLen) : w.ownsRow base 88 3 (.slice (some ⟨g, 0, none⟩) n n) n (flat F n) := by
  obtain ⟨cur, h1, h2⟩ := hb
  refine ⟨flat_len F n, .inr ⟨g, n, cur, rfl, hg, h1, Nat.le_refl _, hn, h2, ?_⟩⟩
  apply List.ext_getElem?
  intro i
  by_cases hi : i < n * 3
  · have e : i = (i / 3) * 3 + i % 3 := by omega
    have hc := h.cell (i / 3) (i % 3) (by omega) (by omega)
    rw [← e, cell_of_row w g i cur 88 (0, 0) h1] at hc
    have hf := flat_at F n (i / 3) (i % 3) (by omega) (by omega)
    rw [← e] at hf
    rw [hf, List.getElem?_take, if_pos hi]
    simpa [u32s] using hc
  · rw [List.getElem?_eq_none (by simp; omega), List.getElem?_eq_none (by rw [flat_len]; omega)]
theorem arr_of_flat {w : World} {base g n cap : Nat} {F : Nat → Nat → Int} (h : w.ownsRow base 88 3 (.slice (some ⟨g, 0, none⟩) n cap) n (flat F n)) : Arr w g n 3 u32s F := by
  have hg : g < w.heap.size := by
    rcases h.2 with ⟨h0, _⟩ | ⟨g', cap', cur, h0, _, hh, _⟩
    · cases h0
    · injection h0 with h0; injection h0 with h0; injection h0 with h0 _; rw [h0]; exact (Array.getElem?_eq_some_iff.1 hh).1
  refine ⟨hg, fun k j hk hj => ?_, fun i => h.frozenAt i⟩
  rw [h.cellAt (k * 3 + j) (by omega)]
  exact flat_at F n k j hk hj
theorem owns_below {w w' : World} {base B : Nat} {E : TypeId} {size n : Nat} {v : Value} {xs : List Value} (h : w.ownsRow base E size v n xs) (hb : Below B w w') (hB : w.heap.size ≤ B) : w'.ownsRow base E size v n xs := by
  refine ⟨h.1, ?_⟩
  rcases h.2 with h0 | ⟨g, cap, cur, rfl, a, hh, b⟩
  · exact .inl h0
  · exact .inr ⟨g, cap, cur, rfl, a, (hb.block g (Nat.lt_of_lt_of_le (Array.getElem?_eq_some_iff.1 hh).1 hB)).trans hh, b⟩
theorem info88 : (Try.prog.info? 88).map (fun i => (i.zero, i.size, i.bytes)) = some (some (.agg #[.int .u32 0, .int .u32 0, .int .u32 0]), 3, 12) := by kernel_rfl
/-- What appendOrExtendPartRange leaves. -/
def Ext (B : Nat) (w : World) (n : Nat) (F : Nat → Nat → Int) (s p : Int) (e : Ending) (w' : World) : Prop :=
  ∃ g' m cap F', e = .returned (.slice (some ⟨g', 0, none⟩) m cap) ∧ Arr w' g' m 3 u32s F' ∧ Below B w w' ∧ B ≤ g' ∧
    ((m = n ∧ 0 < n ∧ F (n - 1) 0 = s ∧ F (n - 1) 2 = p ∧ F' = upd F (n - 1) 2 (p + 1)) ∨
     (m = n + 1 ∧ (0 < n → F (n - 1) 0 = s → F (n - 1) 2 ≠ p) ∧ (∀ k j, k < n → F' k j = F k j) ∧ F' n 0 = s ∧ F' n 1 = p ∧ F' n 2 = p + 1))
def app (F : Nat → Nat → Int) (n : Nat) (s p : Int) : Nat → Nat → Int := fun k j => if k < n then F k j else if j = 0 then s else if j = 1 then p else p + 1
theorem flat_app (F : Nat → Nat → Int) (n : Nat) (s p : Int) : flat (app F n s p) (n + 1) = flat F n ++ [.int .u32 s, .int .u32 p, .int .u32 (p + 1)] := by
  have h : flat (app F n s p) n = flat F n := by
    unfold flat
    rw [List.flatMap_def, List.flatMap_def]
    congr 1
    apply List.map_congr_left
    intro k hk
    have := List.mem_range.1 hk
    simp [app, this]
  rw [flat_succ, h]
  simp [app]
theorem ext_app {B g n : Nat} {w w' : World} {o : Obj} {F : Nat → Nat → Int} {s p : Int} {v' : Value} (hown' : w'.ownsRow B 88 3 v' (n + 1) (flat F n ++ [.int .u32 s, .int .u32 p, .int .u32 (p + 1)])) (hgr : (w.alloc o).grownBy w' (some g)) (hB : B ≤ g) (hlt : g < w.heap.size)
    (hno : 0 < n → F (n - 1) 0 = s → F (n - 1) 2 ≠ p) : Ext B w n F s p (.returned v') w' := by
  rw [← flat_app] at hown'
  have hal : Below B w (w.alloc o) := (Below.refl B w).alloc (by omega) o
  have hbel : Below B w w' := hal.trans (grown_below hgr hB (by simp; omega))
  rcases hown'.2 with ⟨_, h0⟩ | ⟨g', cap, cur, rfl, hb, _⟩
  · omega
  · refine ⟨g', n + 1, cap, app F n s p, rfl, arr_of_flat hown', hbel, hb, .inr ⟨rfl, hno, fun k j hk => by simp [app, hk], by simp [app], by simp [app], by simp [app]⟩⟩
set_option maxHeartbeats 1000000 in
theorem ext44 (B g n : Nat) (F : Nat → Nat → Int) (s p : Int) (w : World) (h : Arr w g n 3 u32s F) (hb : Blk w g 88 (n * 3)) (hB : B ≤ g) (hn : n ≤ 65536) (hp0 : 0 ≤ p) (hp : p < 4294967295) :
    Calls Try.prog 44 #[.slice (some ⟨g, 0, none⟩) n n, .int .u32 s, .int .u32 p] w (Ext B w n F s p) := by
  obtain ⟨i88, hi88, hz88⟩ := Option.map_eq_some_iff.1 info88
  simp only [Prod.mk.injEq] at hz88
  obtain ⟨hz, hs, hby⟩ := hz88
  have hown := owns_of_arr (base := B) h hb hB (by unfold maxLen; omega)
  have HO := Lib.hid hown
  have HZ := Lib.hid hz
  have HS := Lib.hid hs
  have HBY := Lib.hid hby
  have HI := Lib.hid hi88
  have HA := Lib.hid h
  have HLT := Lib.hid h.lt
  clear hz hs hby hi88 hb hown
  rcases Nat.eq_zero_or_pos n with h0 | h0
  · subst h0
    clear h
    go_enter Try.func44, Try.ntmps44
    go_wp2_with (refine wpList_append_own _ rfl _ _ 86 rfl B 88 i88 _ 3 12 Try.underlying86 HI.out HZ.out HS.out HBY.out rfl (by decide) _ 0 (flat F (0)) rfl (owns_below HO.out ((Below.refl _ _).alloc (Nat.le_refl _) _) (Nat.le_refl _)) ⟨w.heap.size, 0, none⟩ 1 1 [.int .u32 s, .int .u32 p, .int .u32 (p + 1)] rfl rfl (by intro j u hu; rw [Addr.add_mid]; simpa using (Row.newArr w 88 #[.int .u32 s, .int .u32 p, .int .u32 (p + 1)]).at_ (i := j) (by simpa using hu)) (by simp [Value.oneCell']) (by unfold maxLen; omega) (by omega) (by simp; have := HLT.out; omega) ?_; intro v' w' hown' hgr' hnil; have HO' := Lib.hid hown'; have HG' := Lib.hid hgr'; clear hown' hgr' hnil)
    go_ret
    exact ext_app HO'.out HG'.out hB HLT.out (fun h => by omega)
  · obtain ⟨m, rfl⟩ : ∃ m, n = m + 1 := ⟨n - 1, by omega⟩
    have c0 : w.cell? ⟨g, m * 3, none⟩ = some (.int .u32 (F m 0)) := h.cell m 0 (by omega) (by omega)
    have c2 : w.cell? ⟨g, m * 3 + 2, none⟩ = some (.int .u32 (F m 2)) := h.cell m 2 (by omega) (by omega)
    have fz := h.frozen (m * 3 + 2)
    have em : m + 1 - 1 = m := by omega
    have hm0 : decide (0 ≤ (m : Int)) = true := by simp
    clear h h0
    by_cases e0 : F m 0 = s
    · have t0 : (F m 0 == s) = true := by simp [e0]
      by_cases e2 : F m 2 = p
      · have t2 : (F m 2 == p) = true := by simp [e2]
        have HST := Lib.hid (HA.out.set (i := m) (j := 2) (by omega) (by omega) (p + 1))
        have HBL := Lib.hid ((Below.refl B w).setCell (p := ⟨g, m * 3 + 2, none⟩) hB (.int .u32 (p + 1)))
        have E := Lib.hid (And.intro e0 e2)
        clear e0 e2
        go_enter Try.func44, Try.ntmps44
        go_wp2
        go_ret
        exact ⟨g, m + 1, m + 1, upd F m 2 (p + 1), rfl, HST.out, HBL.out, hB, .inl ⟨rfl, by omega, by rw [em]; exact E.out.1, by rw [em]; exact E.out.2, by rw [em]⟩⟩
      · have t2 : (F m 2 == p) = false := by simp [e2]
        have E := Lib.hid e2
        clear e0 e2
        go_enter Try.func44, Try.ntmps44
        go_wp2_with (refine wpList_append_own _ rfl _ _ 86 rfl B 88 i88 _ 3 12 Try.underlying86 HI.out HZ.out HS.out HBY.out rfl (by decide) _ (m + 1) (flat F ((m + 1))) rfl (owns_below HO.out ((Below.refl _ _).alloc (Nat.le_refl _) _) (Nat.le_refl _)) ⟨w.heap.size, 0, none⟩ 1 1 [.int .u32 s, .int .u32 p, .int .u32 (p + 1)] rfl rfl (by intro j u hu; rw [Addr.add_mid]; simpa using (Row.newArr w 88 #[.int .u32 s, .int .u32 p, .int .u32 (p + 1)]).at_ (i := j) (by simpa using hu)) (by simp [Value.oneCell']) (by unfold maxLen; omega) (by omega) (by simp; have := HLT.out; omega) ?_; intro v' w' hown' hgr' hnil; have HO' := Lib.hid hown'; have HG' := Lib.hid hgr'; clear hown' hgr' hnil)
        go_ret
        exact ext_app HO'.out HG'.out hB HLT.out (fun _ _ => by rw [em]; exact E.out)
    · have t0 : (F m 0 == s) = false := by simp [e0]
      have E := Lib.hid e0
      clear e0
      go_enter Try.func44, Try.ntmps44
      go_wp2_with (refine wpList_append_own _ rfl _ _ 86 rfl B 88 i88 _ 3 12 Try.underlying86 HI.out HZ.out HS.out HBY.out rfl (by decide) _ (m + 1) (flat F ((m + 1))) rfl (owns_below HO.out ((Below.refl _ _).alloc (Nat.le_refl _) _) (Nat.le_refl _)) ⟨w.heap.size, 0, none⟩ 1 1 [.int .u32 s, .int .u32 p, .int .u32 (p + 1)] rfl rfl (by intro j u hu; rw [Addr.add_mid]; simpa using (Row.newArr w 88 #[.int .u32 s, .int .u32 p, .int .u32 (p + 1)]).at_ (i := j) (by simpa using hu)) (by simp [Value.oneCell']) (by unfold maxLen; omega) (by omega) (by simp; have := HLT.out; omega) ?_; intro v' w' hown' hgr' hnil; have HO' := Lib.hid hown'; have HG' := Lib.hid hgr'; clear hown' hgr' hnil)
      go_ret
      exact ext_app HO'.out HG'.out hB HLT.out (fun _ h => absurd (by rw [em] at h; exact h) E.out)
end Go.Proofs.Ytjgomgagaolhgab.PrA
