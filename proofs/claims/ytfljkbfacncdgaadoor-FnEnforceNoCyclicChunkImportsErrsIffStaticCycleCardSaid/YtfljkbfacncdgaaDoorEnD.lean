/- FnEnforceNoCyclicChunkImportsErrsIffStaticCycle: the search. -/
import Derived.Test.YtfljkbfacncdgaaDoorRows
import Derived.Test.YtfljkbfacncdgaaDoorMem
import Derived.Test.YtfljkbfacncdgaaDoorSl
import Derived.Test.YtfljkbfacncdgaaDoorEnN
import Derived.Test.YtfljkbfacncdgaaDoorMap
import Derived.Great.BuildSlice
import Derived.Carry
import Derived.WalkKit
import Derived.ProofKit
import Derived.OpenShut
import Derived.Below
import Derived.WalkLawsBesides
import Derived.Lib.Hide
import Derived.Outline
import Derived.RegionTactic
import Derived.Deep.QuietTactic
import Derived.BigQuiet
import Derived.WalkSpells
import Derived.Deep.OwnRows
import Derived.IntWalk
import Derived.Deep.DeepMust
namespace Go.Proofs.YtfljkbfacncdgaaDoor.EnD
open Go.RowKit Mem Sl
set_option linter.unusedVariables false
open Args Fvs EnA EnL EnF Go.Proofs.YtfljkbfacncdgaaDoor.Map
open EnP (Gr E Fits IsRank Ranked Blk Pre Fwd)

/-- The imports of chunk u among the first k edges. -/
def adjA (g : Gr) : Nat → Nat → List (Int × Int)
  | 0, _ => []
  | k + 1, u => if g.fr k = u then adjA g k u ++ [((g.t k : Int), kd (g.dy k))] else adjA g k u
theorem adjA_len (g : Gr) : ∀ k u, (adjA g k u).length ≤ k
  | 0, _ => Nat.le_refl _
  | k + 1, u => by
    have := adjA_len g k u
    unfold adjA
    split
    · rw [List.length_append]; simp; omega
    · omega
theorem adjA_step {g : Gr} {k f : Nat} (h : g.fr k = f) : Fvs.up (adjA g k) f (adjA g k f ++ [((g.t k : Int), kd (g.dy k))]) = adjA g (k + 1) := by
  funext i
  by_cases e : i = f
  · subst e
    rw [Fvs.up_self]
    exact (if_pos h).symm
  · rw [Fvs.up_ne _ _ e]
    exact (if_neg (by omega)).symm
theorem adjA_mem {g : Gr} : ∀ {k u : Nat} {p : Int × Int}, p ∈ adjA g k u ↔ ∃ i, i < k ∧ g.fr i = u ∧ p = ((g.t i : Int), kd (g.dy i))
  | 0, u, p => by simp [adjA]
  | k + 1, u, p => by
    have ih := adjA_mem (g := g) (k := k) (u := u) (p := p)
    unfold adjA
    by_cases h : g.fr k = u
    · rw [if_pos h, List.mem_append, ih]
      constructor
      · rintro (⟨i, hi, h1⟩ | h1)
        · exact ⟨i, by omega, h1⟩
        · simp at h1; exact ⟨k, by omega, h, h1⟩
      · rintro ⟨i, hi, h1, h2⟩
        by_cases e : i = k
        · subst e; right; simp [h2]
        · left; exact ⟨i, by omega, h1, h2⟩
    · rw [if_neg h, ih]
      constructor
      · rintro ⟨i, hi, h1⟩; exact ⟨i, by omega, h1⟩
      · rintro ⟨i, hi, h1, h2⟩
        by_cases e : i = k
        · subst e; exact absurd h1 h
        · exact ⟨i, by omega, h1, h2⟩
/-- How many are white. -/
def wc (col : Nat → Nat) : Nat → Nat
  | 0 => 0
  | n + 1 => wc col n + if col n = 0 then 1 else 0
theorem wc_mono {col col' : Nat → Nat} (h : ∀ x, col x ≠ 0 → col' x ≠ 0) : ∀ n, wc col' n ≤ wc col n
  | 0 => Nat.le_refl _
  | n + 1 => by
    have := wc_mono h n
    have := h n
    show wc col' n + (if col' n = 0 then 1 else 0) ≤ wc col n + (if col n = 0 then 1 else 0)
    split <;> split <;> omega
theorem wc_up {col : Nat → Nat} {u x : Nat} (hc : col u = 0) (hx : x ≠ 0) : ∀ {n}, wc (EnP.up col u x) n + (if u < n then 1 else 0) = wc col n
  | 0 => by simp [wc]
  | n + 1 => by
    have ih := wc_up (x := x) hc hx (n := n)
    show wc (EnP.up col u x) n + (if EnP.up col u x n = 0 then 1 else 0) + _ = wc col n + (if col n = 0 then 1 else 0)
    by_cases e : n = u
    · subst e
      rw [EnP.up_self, if_neg hx, hc, if_pos rfl, if_pos (Nat.lt_succ_self _)]
      rw [if_neg (Nat.lt_irrefl _)] at ih
      omega
    · rw [EnP.up_ne _ _ e]
      have : (u < n + 1) = (u < n) := by apply propext; omega
      simp only [this]
      omega
/-- Where things lie. -/
structure Geo (c K M n S G b1 b2 : Nat) (V : Nat → Value) : Prop where
  cS : c < S
  SG : S ≤ G
  S1 : S ≤ b1
  S2 : S ≤ b2
  G1 : G ≠ b1
  G2 : G ≠ b2
  ow : ∀ i, i < n → ∀ g, (V i).ownBlock = some g → g < S
/-- The state of the search. -/
structure Vw (g : Gr) (c K M S G b1 b2 : Nat) (V : Nat → Value) (w : World) (col : Nat → Nat) (e : Bool) : Prop where
  cx : Cx w c K M g.n V (adjA g g.m) e
  mp : ∃ cnt f, MapF w G (.int .i64) cnt f ∧ ∀ u, u < g.n → (f (.int .i64 (u : Int))).getD (.int .i64 0) = .int .i64 (col u : Int)
  p1 : w.cell? ⟨b1, 0, none⟩ = some (.pointer (some ⟨c, 0, none⟩))
  p2 : w.cell? ⟨b2, 0, none⟩ = some (.func (.func 18) #[] #[.pointer (some ⟨b1, 0, none⟩), .pointer (some ⟨b2, 0, none⟩)])
  G : G < w.heap.size
abbrev Pm (M G : Nat) : Nat → Prop := fun j => j = M ∨ j = M + 1 ∨ j = G
section
variable {g : Gr} {c K M S G b1 b2 : Nat} {V : Nat → Value} {w w' : World} {col : Nat → Nat} {e : Bool}
theorem Vw.later (h : Vw g c K M S G b1 b2 V w col e) (hb : Below w.heap.size w w') : Vw g c K M S G b1 b2 V w' col e := by
  obtain ⟨cnt, f, h1, h2⟩ := h.mp
  exact ⟨h.cx.later hb, ⟨cnt, f, h1.below hb h1.lt, h2⟩, cell_later hb h.p1, cell_later hb h.p2, Nat.lt_of_lt_of_le h.G hb.size⟩
theorem Vw.mark (h : Vw g c K M S G b1 b2 V w col e) (q : Geo c K M g.n S G b1 b2 V) {f : Value → Option Value} {u x : Nat} (hf : ∀ u, u < g.n → (f (.int .i64 (u : Int))).getD (.int .i64 0) = .int .i64 (col u : Int)) {cnt' : Nat} (hm : MapF w' G (.int .i64) cnt' (put f (.int .i64 (u : Int)) (.int .i64 (x : Int)))) (hg : w.grownBy w' (some G)) (hs : w'.heap.size = w.heap.size) :
    Vw g c K M S G b1 b2 V w' (EnP.up col u x) e ∧ Fx (Pm M G) w w' := by
  have f0 : Fx (fun j => j = G) w w' := ⟨hg.os, hg.tape, hg.output, hg.size, fun j hj hp => hg.block j hj (fun e => hp (by injection e))⟩
  have m := h.cx.Mc
  have kc := h.cx.Kc
  have q1 := q.cS
  have q2 := q.SG
  have q3 := q.G1
  have q4 := q.G2
  refine ⟨⟨h.cx.keptL f0 (h.cx.lg.kept f0 (by omega) (by omega) (by omega)) (by omega) (by omega) (fun a _ _ ⟨i, hi, ho⟩ e => by have := q.ow i hi a ho; omega), ⟨_, _, hm, fun v hv => ?_⟩, ?_, ?_, by rw [hs]; exact h.G⟩, f0.wider (fun j hj => .inr (.inr hj))⟩
  · by_cases e : v = u
    · subst e; rw [put_self, EnP.up_self]; rfl
    · rw [put_other _ _ (fun h => e (by injection h with _ h; exact Int.ofNat.inj h)), EnP.up_ne _ _ e]
      exact hf v hv
  · exact (f0.cell (cell_lt h.p1) (fun e => q3 e.symm)).trans h.p1
  · exact (f0.cell (cell_lt h.p2) (fun e => q4 e.symm)).trans h.p2
end
theorem zero3 (w : World) : (zeroValue 3).run Tryd.prog w = .ok (.int .i64 0) w := by simp [Tryd.zeroValue3]
/-- What a visit gives. -/
def Vd (g : Gr) (c K M S G b1 b2 : Nat) (V : Nat → Value) (col : Nat → Nat) (u : Nat) (w : World) (e : Ending) (w' : World) : Prop :=
  ∃ b, e = .returned (.bool b) ∧ Fx (Pm M G) w w' ∧ (b = true → ¬ Ranked g ∧ Cx w' c K M g.n V (adjA g g.m) true) ∧
    (b = false → ∃ col', Vw g c K M S G b1 b2 V w' col' false ∧ Blk g col' ∧ Fwd col col' ∧ col' u = 2 ∧ (∀ x, col x ≠ 0 → col' x ≠ 0) ∧ ∀ x, col' x ≤ 2)
section
variable {g : Gr} {c kb M S G b1 b2 : Nat} {V : Nat → Value} {w w' : World} {col : Nat → Nat} {u : Nat}
theorem lookV {e : Bool} (h : Vw g c kb M S G b1 b2 V w col e) (hu : u < g.n) {x : Nat} (hx : col u = x) : (Instr.lookup 154 (.map (some G)) (.int .i64 (u : Int)) false).run Tryd.prog w = .ok (.int .i64 (x : Int)) w := by
  obtain ⟨cnt, f, h1, h2⟩ := h.mp
  have h3 := h1.look Tryd.underlying154 Tryd.underlying3 (k := .int .i64 (u : Int)) rfl (zero3 w)
  rw [h2 u hu, hx] at h3
  exact h3
set_option maxHeartbeats 4000000 in
/-- A grey chunk: an error. -/
theorem val_grey (h : Vw g c kb M S G b1 b2 V w col false) (q : Geo c kb M g.n S G b1 b2 V) (hu : u < g.n) (hp : Pre g col u) (hc : col u = 1) :
    Calls Tryd.prog 18 #[.int .i64 (u : Int), .map (some G), .pointer (some ⟨b1, 0, none⟩), .pointer (some ⟨b2, 0, none⟩)] w (Vd g c kb M S G b1 b2 V col u w) := by
  have hlk := lookV h hu hc
  have HN := Lib.hid (EnP.no_rank_grey hp hc)
  have p1 := h.p1
  have l0 := h.cx.l0
  have l1 := h.cx.l1
  have l2 := h.cx.l2
  have l3 := h.cx.l3
  have l4 := h.cx.l4
  have l5 := h.cx.l5
  have HL := Lib.hid h.cx.lg
  have H := Lib.hid h
  have Q := Lib.hid q
  clear h q hu hp hc
  go_enter Tryd.func18, Tryd.ntmps18
  go_wp2_with fail
  refine (show Calls Tryd.prog 19 _ w (Ad M w) from err19 M false _ w HL.out).mono ?_
  rintro e w2 ⟨rfl, hl2, hf2⟩
  have HL2 := Lib.hid hl2
  have HF2 := Lib.hid hf2
  clear hl2 hf2
  go_wp2
  go_ret
  refine ⟨true, rfl, HF2.out.wider (fun j hj => by unfold Pm; omega), fun _ => ⟨HN.out, ?_⟩, fun h => (by cases h)⟩
  have m := H.out.cx.Mc
  have km := H.out.cx.KM
  exact H.out.cx.keptL HF2.out HL2.out (by omega) (by omega) (fun a _ _ _ => by omega)
set_option maxHeartbeats 4000000 in
/-- A black chunk. -/
theorem val_black (h : Vw g c kb M S G b1 b2 V w col false) (h2 : ∀ x, col x ≤ 2) (hu : u < g.n) (hb : Blk g col) (hc : col u = 2) :
    Calls Tryd.prog 18 #[.int .i64 (u : Int), .map (some G), .pointer (some ⟨b1, 0, none⟩), .pointer (some ⟨b2, 0, none⟩)] w (Vd g c kb M S G b1 b2 V col u w) := by
  have hlk := lookV h hu hc
  have H := Lib.hid h
  have HB := Lib.hid hb
  have HC := Lib.hid hc
  clear h hu hb hc
  go_enter Tryd.func18, Tryd.ntmps18
  go_wp2
  go_ret
  exact ⟨false, rfl, Fx.refl _ _, fun h => (by cases h), fun _ => ⟨col, H.out, HB.out, Fwd.refl _, HC.out, fun _ h => h, h2⟩⟩
/-- Inside chunk u, before its j-th import. -/
structure In (g : Gr) (c K M S G b1 b2 : Nat) (V : Nat → Value) (col : Nat → Nat) (u j : Nat) (w wr : World) : Prop where
  st : ∃ col', Vw g c K M S G b1 b2 V wr col' false ∧ Blk g col' ∧ Fwd (EnP.up col u 1) col' ∧ (∀ x, EnP.up col u 1 x ≠ 0 → col' x ≠ 0) ∧ (∀ x, col' x ≤ 2) ∧ ∀ i, i < j → ∀ x, (adjA g g.m u)[i]? = some (((x : Nat) : Int), (1 : Int)) → col' x = 2
  fx : Fx (Pm M G) w wr
theorem in_start {w1 : World} (hv : Vw g c kb M S G b1 b2 V w1 (EnP.up col u 1) false) (hb : Blk g (EnP.up col u 1)) (h2 : ∀ x, col x ≤ 2) (hx : Fx (Pm M G) w w1) : In g c kb M S G b1 b2 V col u 0 w w1 :=
  ⟨⟨_, hv, hb, Fwd.refl _, fun _ h => h, fun x => by unfold EnP.up; split; omega; exact h2 x, fun i hi => absurd hi (Nat.not_lt_zero i)⟩, hx⟩
theorem in_skip {wr w9 : World} {col' : Nat → Nat} {j x : Nat} (hv : Vw g c kb M S G b1 b2 V wr col' false) (hb : Blk g col') (hf : Fwd (EnP.up col u 1) col') (hn : ∀ x, EnP.up col u 1 x ≠ 0 → col' x ≠ 0) (h2 : ∀ x, col' x ≤ 2) (hd : ∀ i, i < j → ∀ x, (adjA g g.m u)[i]? = some (((x : Nat) : Int), (1 : Int)) → col' x = 2) (hx : Fx (Pm M G) w wr)
    (hp : (adjA g g.m u)[j]? = some ((x : Int), kd true)) (hal : Below wr.heap.size wr w9) : In g c kb M S G b1 b2 V col u (j + 1) w w9 :=
  ⟨⟨_, hv.later hal, hb, hf, hn, h2, fun i hi y hy => by
    by_cases e : i = j
    · subst e
      rw [hp] at hy
      simp [kd] at hy
    · exact hd i (by omega) y hy⟩, hx.trans (Fx.of_below hal)⟩
theorem in_next {wr w9 w2 : World} {col' col2 : Nat → Nat} {j x : Nat} (hf : Fwd (EnP.up col u 1) col') (hn : ∀ x, EnP.up col u 1 x ≠ 0 → col' x ≠ 0) (hd : ∀ i, i < j → ∀ x, (adjA g g.m u)[i]? = some (((x : Nat) : Int), (1 : Int)) → col' x = 2) (hx : Fx (Pm M G) w wr)
    (hp : (adjA g g.m u)[j]? = some ((x : Int), kd false)) (hal : Below wr.heap.size wr w9) (hx2 : Fx (Pm M G) w9 w2) (hv2 : Vw g c kb M S G b1 b2 V w2 col2 false) (hb2 : Blk g col2) (hf2 : Fwd col' col2) (hu2 : col2 x = 2) (hn2 : ∀ x, col' x ≠ 0 → col2 x ≠ 0) (h22 : ∀ x, col2 x ≤ 2) : In g c kb M S G b1 b2 V col u (j + 1) w w2 :=
  ⟨⟨_, hv2, hb2, hf.trans hf2, fun y hy => hn2 y (hn y hy), h22, fun i hi y hy => by
    by_cases e : i = j
    · subst e
      rw [hp] at hy
      injection hy with hy
      injection hy with hy _
      have : x = y := by omega
      subst this
      exact hu2
    · exact hf2.blk y (hd i (by omega) y hy)⟩, hx.trans ((Fx.of_below hal).trans hx2)⟩
theorem vd_done {wr w3 : World} {col' : Nat → Nat} {len : Nat} (h0 : col u = 0) (hc : ∀ x, col x ≤ 2) (hb : Blk g col') (hf : Fwd (EnP.up col u 1) col') (hn : ∀ x, EnP.up col u 1 x ≠ 0 → col' x ≠ 0) (h2 : ∀ x, col' x ≤ 2) (hd : ∀ i, i < len → ∀ x, (adjA g g.m u)[i]? = some (((x : Nat) : Int), (1 : Int)) → col' x = 2) (hx : Fx (Pm M G) w wr)
    (hl : len = (adjA g g.m u).length) (hv3 : Vw g c kb M S G b1 b2 V w3 (EnP.up col' u 2) false) (hx3 : Fx (Pm M G) wr w3) : Vd g c kb M S G b1 b2 V col u w (.returned (.bool false)) w3 := by
  have hu1 : col' u = 1 := (hf.grey u).2 (EnP.up_self _ _ _)
  refine ⟨false, rfl, hx.trans hx3, fun h => (by cases h), fun _ => ⟨_, hv3, EnP.blk_done hb (fun v hv => ?_) hu1, EnP.fwd_done hf h0, EnP.up_self _ _ _, fun y hy => ?_, fun y => ?_⟩⟩
  · obtain ⟨i, hi, h1, h2', h3⟩ := hv
    have hm : ((v : Int), (1 : Int)) ∈ adjA g g.m u := adjA_mem.2 ⟨i, hi, h1, by rw [h2', h3]; rfl⟩
    obtain ⟨k, hk⟩ := List.mem_iff_getElem?.1 hm
    exact hd k (by rw [hl]; exact (List.getElem?_eq_some_iff.1 hk).1) v hk
  · by_cases e : y = u
    · subst e; rw [EnP.up_self]; decide
    · rw [EnP.up_ne _ _ e]
      exact hn y (by rw [EnP.up_ne _ _ e]; exact hy)
  · unfold EnP.up; split; omega; exact h2 y
set_option maxRecDepth 100000 in
set_option maxHeartbeats 8000000 in
theorem val18 (hf : Fits g) (hm : g.m ≤ 4096) (hn : g.n ≤ 4096) (q : Geo c kb M g.n S G b1 b2 V) : ∀ (k : Nat) (w : World) (col : Nat → Nat) (u : Nat), Vw g c kb M S G b1 b2 V w col false → (∀ x, col x ≤ 2) → wc col g.n ≤ k → u < g.n → Blk g col → Pre g col u →
    Calls Tryd.prog 18 #[.int .i64 (u : Int), .map (some G), .pointer (some ⟨b1, 0, none⟩), .pointer (some ⟨b2, 0, none⟩)] w (Vd g c kb M S G b1 b2 V col u w) := by
  intro k
  induction k with
  | zero =>
    intro w col u h h2 hw hu hb hp
    by_cases h1 : col u = 1
    · exact val_grey h q hu hp h1
    · by_cases h2' : col u = 2
      · exact val_black h h2 hu hb h2'
      · have h0 : col u = 0 := by have := h2 u; omega
        have := wc_up (x := 1) h0 (by decide) (n := g.n)
        rw [if_pos hu] at this
        omega
  | succ k ih =>
    intro w col u h h2 hw hu hb hp
    by_cases h1 : col u = 1
    · exact val_grey h q hu hp h1
    by_cases h2' : col u = 2
    · exact val_black h h2 hu hb h2'
    have h0 : col u = 0 := by have := h2 u; omega
    have IH := Lib.hid ih
    clear ih h1 h2'
    have hlk := lookV h hu h0
    have hwc := wc_up (x := 1) h0 (by decide) (n := g.n)
    rw [if_pos hu] at hwc
    obtain ⟨cnt, f, hm1, hf1⟩ := h.mp
    have H := Lib.hid h
    have HM := Lib.hid hm1
    have HF := Lib.hid hf1
    have HU := Lib.hid hu
    have HB := Lib.hid (EnP.blk_grey hb h0)
    have HP := Lib.hid hp
    have H0 := Lib.hid h0
    have HW := Lib.hid (show wc (EnP.up col u 1) g.n ≤ k by omega)
    have H2 := Lib.hid h2
    have HFT := Lib.hid hf
    have Q := Lib.hid q
    have un : (u : Int) < (g.n : Int) := by omega
    have u4 : u ≤ 4096 := by omega
    clear h hm1 hf1 hu hb hp h0 hw h2 hwc hf q
    go_enter Tryd.func18, Tryd.ntmps18
    go_wp2_with (refine wpList_mapUpdate_f _ rfl _ _ _ 154 rfl 3 3 (.int .i64) Tryd.underlying154 Tryd.underlying3 G cnt f rfl HM.out (.int .i64 (u : Int)) (.int .i64 1) rfl rfl rfl ?_; intro w1 hm1 hg1 hs1; obtain ⟨hv1, hx1⟩ := H.out.mark (x := 1) Q.out HF.out hm1 hg1 hs1; clear hm1 hg1 hs1; have p1 := hv1.p1; have ch := hv1.cx.ch; obtain ⟨A0, c0, hV⟩ := hv1.cx.fam.form HU.out; have aV := hv1.cx.fam.cell u HU.out; obtain ⟨len, hle⟩ : ∃ l, l = (adjA g g.m u).length := ⟨_, rfl⟩; rw [← hle] at hV; rw [hV] at aV; have HLE := Lib.hid hle; have hl4 : len ≤ 4096 := (by rw [hle]; exact Nat.le_trans (adjA_len g g.m u) hm); have V1 := Lib.hid hv1; have X1 := Lib.hid hx1; have HVV := Lib.hid hV; clear hv1 hx1 hV hle)
    go_wp2
    have I0 := Lib.hid (in_start V1.out HB.out H2.out X1.out)
    clear p1 ch aV V1 X1 hlk
    go_loopw [34] (fun i wr => ∃ j : Nat, j ≤ len ∧ i = .int .i64 j ∧ In g c kb M S G b1 b2 V col u j w wr) (fun i _ => len - (intOf i).toNat)
    case atStart => exact ⟨0, Nat.zero_le _, rfl, I0.out⟩
    case round =>
      clear I0
      obtain ⟨j, hj, rfl, ⟨col', hv, hb, hfw, hne, hc2, hdone⟩, hfx⟩ := hrel
      have HV := Lib.hid hv
      have HBK := Lib.hid hb
      have HFW := Lib.hid hfw
      have HNE := Lib.hid hne
      have HC2 := Lib.hid hc2
      have HDN := Lib.hid hdone
      have HFX := Lib.hid hfx
      clear hv hb hfw hne hc2 hdone hfx
      by_cases hlt : j < len
      · obtain ⟨p, hp⟩ : ∃ p, p = (adjA g g.m u)[j]'(by rw [← HLE.out]; exact hlt) := ⟨_, rfl⟩
        have hp' : (adjA g g.m u)[j]? = some p := by rw [List.getElem?_eq_getElem (by rw [← HLE.out]; exact hlt), hp]
        obtain ⟨i, hi, hfi, hpi⟩ := adjA_mem.1 (List.mem_of_getElem? hp')
        obtain ⟨x, hx⟩ : ∃ x, x = g.t i := ⟨_, rfl⟩
        obtain ⟨d, hd⟩ : ∃ d, d = g.dy i := ⟨_, rfl⟩
        rw [← hx, ← hd] at hpi
        rw [hpi] at hp'
        have hxn : x < g.n := by rw [hx]; exact (HFT.out i hi).2
        obtain ⟨gb, cc, hVg, hgb, hgl, c6, c7⟩ := HV.out.cx.fam.rec_ HU.out hp'
        rw [HVV.out] at hVg
        injection hVg with hA hl hcc
        subst hA
        have xb : x ≤ 4096 := by omega
        have HP' := Lib.hid hp'
        have HXN := Lib.hid hxn
        have p2 := HV.out.p2
        have p2' : ∀ y : Int, (wr.alloc (.cells #[.int .u32 (x : Int), .int .u8 y] 144)).cell? ⟨b2, 0, none⟩ = some (.func (.func 18) #[] #[.pointer (some ⟨b1, 0, none⟩), .pointer (some ⟨b2, 0, none⟩)]) := fun y => cell_later ((Below.refl _ _).alloc (Nat.le_refl _) _) p2
        have HAL := Lib.hid (fun y : Int => (show Below wr.heap.size wr (wr.alloc (.cells #[.int .u32 (x : Int), .int .u8 y] 144)) from (Below.refl _ _).alloc (Nat.le_refl _) _))
        cases d
        · have HE := Lib.hid (show E g u x from ⟨i, hi, hfi, hx.symm, hd.symm⟩)
          have c8 : wr.cell? ⟨gb, j * 2 + 1, none⟩ = some (.int .u8 1) := c7
          have p3 := p2' 1
          clear hp hp' hi hfi hpi hx hd hxn hl hcc hgb hgl c7 p2'
          go_wp2_with fail
          refine (IH.out _ col' x (HV.out.later (HAL.out 1)) HC2.out (Nat.le_trans (wc_mono HNE.out g.n) HW.out) HXN.out HBK.out (EnP.pre_step HP.out HFW.out HE.out)).mono ?_
          rintro e w2 ⟨b, rfl, hx2, ht, hf⟩
          have HX2 := Lib.hid hx2
          clear hx2
          cases b
          · obtain ⟨col2, hv2, hb2, hf2, hu2, hn2, h22⟩ := hf rfl
            have HN2 := Lib.hid (in_next HFW.out HNE.out HDN.out HFX.out HP'.out (HAL.out 1) HX2.out hv2 hb2 hf2 hu2 hn2 h22)
            clear hv2 hb2 hf2 hu2 hn2 h22 ht hf
            go_wp2
            go_roundw
            case rel => exact ⟨j + 1, by omega, by go_num, HN2.out⟩
            case measure => simp [intOf]; omega
          · obtain ⟨hr, hcx⟩ := ht rfl
            have HR := Lib.hid hr
            have HC := Lib.hid hcx
            clear hr hcx ht hf
            go_wp2
            go_ret
            exact ⟨true, rfl, HFX.out.trans ((Fx.of_below (HAL.out 1)).trans HX2.out), fun _ => ⟨HR.out, HC.out⟩, fun h => (by cases h)⟩
        · have c8 : wr.cell? ⟨gb, j * 2 + 1, none⟩ = some (.int .u8 3) := c7
          clear hp hp' hi hfi hpi hx hd hxn hl hcc hgb hgl c7 p2'
          go_wp2
          go_roundw
          case rel => exact ⟨j + 1, by omega, by go_num, in_skip HV.out HBK.out HFW.out HNE.out HC2.out HDN.out HFX.out HP'.out (HAL.out 3)⟩
          case measure => simp [intOf]; omega
      · obtain rfl : len = j := by omega
        obtain ⟨cnt', f', hm2, hf2⟩ := HV.out.mp
        have HM2 := Lib.hid hm2
        have HF2 := Lib.hid hf2
        clear hm2 hf2
        go_wp2_with (refine wpList_mapUpdate_f _ rfl _ _ _ 154 rfl 3 3 (.int .i64) Tryd.underlying154 Tryd.underlying3 G cnt' f' rfl HM2.out (.int .i64 (u : Int)) (.int .i64 2) rfl rfl rfl ?_; intro w3 hm3 hg3 hs3; obtain ⟨hv3, hx3⟩ := HV.out.mark (x := 2) Q.out HF2.out hm3 hg3 hs3; have V3 := Lib.hid hv3; have X3 := Lib.hid hx3; clear hm3 hg3 hs3 hv3 hx3)
        go_ret
        exact vd_done H0.out H2.out HBK.out HFW.out HNE.out HC2.out HDN.out HFX.out HLE.out V3.out X3.out
end
theorem geo_new {g : Gr} {c K M : Nat} {V : Nat → Value} {w : World} (h : Cx w c K M g.n V (adjA g g.m) false) : Geo c K M g.n w.heap.size (w.heap.size + 1 + 1) w.heap.size (w.heap.size + 1) V :=
  ⟨h.cw, by omega, Nat.le_refl _, by omega, by omega, by omega, fun i hi a ha => ((h.fam.own i hi).lt a ha).2⟩
theorem vw_new {g : Gr} {c K M : Nat} {V : Nat → Value} {w : World} (h : Cx w c K M g.n V (adjA g g.m) false) : Vw g c K M w.heap.size (w.heap.size + 1 + 1) w.heap.size (w.heap.size + 1) V (((w.alloc (.cells #[.pointer (some ⟨c, 0, none⟩)] 28)).alloc (.cells #[.func (.func 18) #[] #[.pointer (some ⟨w.heap.size, 0, none⟩), .pointer (some ⟨w.heap.size + 1, 0, none⟩)]] 153)).alloc (.map #[] 0)) (fun _ => 0) false := by
  have hb0 : Below w.heap.size w (((w.alloc (.cells #[.pointer (some ⟨c, 0, none⟩)] 28)).alloc (.cells #[.func (.func 18) #[] #[.pointer (some ⟨w.heap.size, 0, none⟩), .pointer (some ⟨w.heap.size + 1, 0, none⟩)]] 153)).alloc (.map #[] 0)) := (((Below.refl _ _).alloc (Nat.le_refl _) _).alloc (by simp) _).alloc (by simp <;> omega) _
  have hm := mapF_made ((w.alloc (.cells #[.pointer (some ⟨c, 0, none⟩)] 28)).alloc (.cells #[.func (.func 18) #[] #[.pointer (some ⟨w.heap.size, 0, none⟩), .pointer (some ⟨w.heap.size + 1, 0, none⟩)]] 153)) (.int .i64)
  simp only [World.size_alloc] at hm
  have r1 := ((Row.newArr w 28 #[.pointer (some ⟨c, 0, none⟩)]).alloc (.cells #[.func (.func 18) #[] #[.pointer (some ⟨w.heap.size, 0, none⟩), .pointer (some ⟨w.heap.size + 1, 0, none⟩)]] 153)).alloc (.map #[] 0)
  have r2 := (Row.newArr (w.alloc (.cells #[.pointer (some ⟨c, 0, none⟩)] 28)) 153 #[.func (.func 18) #[] #[.pointer (some ⟨w.heap.size, 0, none⟩), .pointer (some ⟨w.heap.size + 1, 0, none⟩)]]).alloc (.map #[] 0)
  simp only [World.size_alloc] at r2
  exact ⟨h.later hb0, ⟨0, _, hm, fun _ _ => rfl⟩, r1.at_ (i := 0) rfl, r2.at_ (i := 0) rfl, hm.lt⟩
/-- Before the k-th chunk. -/
structure Dv (g : Gr) (c K M S : Nat) (V : Nat → Value) (w : World) (k : Nat) (col : Nat → Nat) (wr : World) : Prop where
  vw : Vw g c K M S (S + 1 + 1) S (S + 1) V wr col false
  blk : Blk g col
  c2 : ∀ x, col x ≤ 2
  c1 : ∀ x, col x ≠ 1
  done : ∀ x, x < k → col x = 2
  fx : Fx (fun j => j = M ∨ j = M + 1) w wr
  wS : S = w.heap.size
theorem fx_less {w wr w2 : World} {M S : Nat} (h : Fx (fun j => j = M ∨ j = M + 1) w wr) (hS : S = w.heap.size) (h2 : Fx (Pm M (S + 1 + 1)) wr w2) : Fx (fun j => j = M ∨ j = M + 1) w w2 :=
  ⟨h2.os.trans h.os, h2.tape.trans h.tape, h2.output.trans h.output, Nat.le_trans h.size h2.size, fun j hj hp => (h2.block j (Nat.lt_of_lt_of_le hj h.size) (by unfold Pm; omega)).trans (h.block j hj hp)⟩
theorem dv_start {g : Gr} {c K M S : Nat} {V : Nat → Value} {w wr : World} (hv : Vw g c K M S (S + 1 + 1) S (S + 1) V wr (fun _ => 0) false) (hb : Below S w wr) (hS : S = w.heap.size) : Dv g c K M S V w 0 (fun _ => 0) wr :=
  ⟨hv, ⟨fun _ => 0, 0, fun _ h => absurd h (by simp)⟩, fun _ => Nat.zero_le _, fun _ => by simp, fun _ h => absurd h (Nat.not_lt_zero _), Fx.of_below (by rw [← hS]; exact hb), hS⟩
theorem dv_pre {g : Gr} {c K M S : Nat} {V : Nat → Value} {w wr : World} {k u : Nat} {col : Nat → Nat} (h : Dv g c K M S V w k col wr) : Pre g col u := fun _ _ x hx => absurd hx (h.c1 x)
theorem dv_next {g : Gr} {c K M S : Nat} {V : Nat → Value} {w wr w2 : World} {k : Nat} {col col2 : Nat → Nat} (h : Dv g c K M S V w k col wr) (hx : Fx (Pm M (S + 1 + 1)) wr w2) (hv : Vw g c K M S (S + 1 + 1) S (S + 1) V w2 col2 false) (hb : Blk g col2) (hf : Fwd col col2) (hu : col2 k = 2) (h2 : ∀ x, col2 x ≤ 2) : Dv g c K M S V w (k + 1) col2 w2 :=
  ⟨hv, hb, h2, fun x hx => h.c1 x ((hf.grey x).1 hx), fun x hx => by
    by_cases e : x = k
    · subst e; exact hu
    · exact hf.blk x (h.done x (by omega)), fx_less h.fx h.wS hx, h.wS⟩
/-- What the check leaves. -/
def Ed (g : Gr) (c K M : Nat) (V : Nat → Value) (w : World) (e : Ending) (w' : World) : Prop := e = .returned (.tuple #[]) ∧ ∃ e0, Cx w' c K M g.n V (adjA g g.m) e0 ∧ (e0 = true ↔ ¬ Ranked g) ∧ Fx (fun j => j = M ∨ j = M + 1) w w'
set_option maxRecDepth 100000 in
set_option maxHeartbeats 8000000 in
theorem enf15 (g : Gr) (c kb M : Nat) (V : Nat → Value) (w : World) (hf : Fits g) (hm : g.m ≤ 4096) (hn : g.n ≤ 4096) (h : Cx w c kb M g.n V (adjA g g.m) false) :
    Calls Tryd.prog 15 #[.pointer (some ⟨c, 0, none⟩)] w (Ed g c kb M V w) := by
  have hmm := fun W => @run_makeMap Tryd.prog 154 W
  have HC := Lib.hid h
  have hb0 : Below w.heap.size w (((w.alloc (.cells #[.pointer (some ⟨c, 0, none⟩)] 28)).alloc (.cells #[.func (.func 18) #[] #[.pointer (some ⟨w.heap.size, 0, none⟩), .pointer (some ⟨w.heap.size + 1, 0, none⟩)]] 153)).alloc (.map #[] 0)) := (((Below.refl _ _).alloc (Nat.le_refl _) _).alloc (by simp) _).alloc (by simp <;> omega) _
  have ch := cell_later hb0 h.ch
  have HV := Lib.hid (vw_new h)
  have HG := Lib.hid (geo_new h)
  have HB := Lib.hid hb0
  clear h hb0
  go_enter Tryd.func15, Tryd.ntmps15
  go_wp2
  clear ch hmm
  obtain ⟨W0, hW0⟩ : ∃ W0, W0 = ((w.alloc (.cells #[.pointer (some ⟨c, 0, none⟩)] 28)).alloc (.cells #[.func (.func 18) #[] #[.pointer (some ⟨w.heap.size, 0, none⟩), .pointer (some ⟨w.heap.size + 1, 0, none⟩)]] 153)).alloc (.map #[] 0) := ⟨_, rfl⟩
  rw [← hW0] at HV HB ⊢
  clear hW0
  obtain ⟨S, hS⟩ : ∃ S, S = w.heap.size := ⟨_, rfl⟩
  rw [← hS] at HV HG HB ⊢
  have HS := Lib.hid hS
  clear hS
  go_loopw [12] (fun i wr => ∃ (k : Nat) (col : Nat → Nat), k ≤ g.n ∧ i = .int .i64 k ∧ Dv g c kb M S V w k col wr) (fun i _ => g.n - (intOf i).toNat)
  case atStart => exact ⟨0, fun _ => 0, Nat.zero_le _, rfl, dv_start HV.out HB.out HS.out⟩
  case round =>
    obtain ⟨k, col, hk, rfl, hd⟩ := hrel
    by_cases hlt : k < g.n
    · have p2 := hd.vw.p2
      have HD := Lib.hid hd
      have HF := Lib.hid hf
      clear hd hf
      go_wp2_with fail
      refine (val18 HF.out hm hn HG.out (wc col g.n) _ col k HD.out.vw HD.out.c2 (Nat.le_refl _) hlt HD.out.blk (dv_pre HD.out)).mono ?_
      rintro e w2 ⟨b, rfl, hx2, ht, hff⟩
      have HX2 := Lib.hid hx2
      clear hx2
      cases b
      · obtain ⟨col2, hv2, hb2, hf2, hu2, hn2, h22⟩ := hff rfl
        have HN := Lib.hid (dv_next HD.out HX2.out hv2 hb2 hf2 hu2 h22)
        clear hv2 hb2 hf2 hu2 hn2 h22 ht hff
        have hf := HF.out
        go_wp2
        go_roundw
        case rel => exact ⟨k + 1, col2, by omega, by go_num, HN.out⟩
        case measure => simp [intOf]; omega
      · obtain ⟨hr, hcx⟩ := ht rfl
        have HR := Lib.hid hr
        have HC2 := Lib.hid hcx
        clear hr hcx ht hff
        go_wp2
        go_end0
        exact ⟨rfl, true, HC2.out, ⟨fun _ => HR.out, fun _ => rfl⟩, fx_less HD.out.fx HD.out.wS HX2.out⟩
    · obtain rfl : k = g.n := by omega
      have HD := Lib.hid hd
      have HF := Lib.hid hf
      clear hd hf
      go_wp2
      go_end0
      exact ⟨rfl, false, HD.out.vw.cx, ⟨fun h => (by cases h), fun h => absurd (EnP.ranked_of_black HF.out HD.out.blk (fun u hu => HD.out.done u hu)) h⟩, HD.out.fx⟩
end Go.Proofs.YtfljkbfacncdgaaDoor.EnD
