/- FnSortedCrossChunkImportsOrderFree: the builder of the context. -/
import Derived.Test.YtfcpjckecjjmjaaSoE
import Derived.Deep.RegionHeld3
import Derived.Deep.RegionLaw
import Derived.Great.BuildSlice
import Derived.Deep.DeepCutAuto
import Derived.WalkKit
import Derived.ProofKit
import Derived.OpenShut
import Derived.Below
import Derived.WalkLawsBesides
import Derived.Lib.Hide
import Derived.Outline
import Derived.RegionTactic
import Derived.Deep.QuietTactic
import Derived.BigQuiet
import Derived.WalkSpells
import Derived.Deep.OwnRows
import Derived.IntWalk
import Derived.Deep.DeepMust
namespace Go.Proofs.Ytfcpjckecjjmjaa.SoF
open Go.RowKit Go.MapKept Go.Maps Mem Args Fvs Fxs Tab MapK SoG SoC SoE
set_option linter.unusedVariables false
set_option linter.unusedSimpArgs false
theorem step_mapUpdate_run {P : Program} {ops : Array Oper} {o : Oper} {a : Act} {w : World} {K : Act → World → Prop} {Q : Exit → Act → World → Prop} {E : Prop}
    (hg : o.guard = none) (m x v : Operand) (t : TypeId) (hop : o.op = Op.mapUpdate t m x v) (vm vx vv : Value) (W : World) (hm : a.eval m = vm) (hx : a.eval x = vx) (hv : a.eval v = vv)
    (hrun : (Instr.mapUpdate t vm vx vv).run P w = .ok () W) (hK : K (a.put o.dst undef) W) : if Region.wanted o (yielded ops a.tmps) = true then Oper.wp P o a w K Q else E := by
  have hw : Region.wanted o (yielded ops a.tmps) = true := by simp [Region.wanted, hg]
  rw [if_pos hw]
  unfold Oper.wp
  simp [execOp, hop, hm, hx, hv, hrun, Result.andThen]
  exact hK
theorem take_to {P : Program} {md : Region.Mode} {ops : Array Oper} {Q : Exit → Act → World → Prop} {S : World → Prop} {i : Nat} {oi : Oper} {d : Option Tmp} {v : Value} {fuel : Nat} {listed : Array Bool} {a : Act} {w : World} (hi : ops[i]? = some oi) (hd : oi.dst = d)
    (hs : Region.noSelect ops = true) (hf : Region.free md ops listed i = true) (hr : (Region.ready md ops listed).contains i = true)
    (hQ : ∀ c a w, Q (.panic c) (a.put d v) w → Q (.panic c) a w) (hy : YieldsIf P ops S oi v a) (hS : S w)
    (h : wpAnyH P md ops Q S fuel (listed.setIfInBounds i true) (a.put d v) w) : wpAnyH P md ops Q S (fuel + 1) listed a w := by
  subst hd
  exact wpAnyH_take hi hs hf hr hQ hy hS h

theorem eql_map (M : Option Nat) (w : World) : Sem.run Try.prog (binOp BinOp.eql 47 (.map M) (.map none)) w = .ok (.bool M.isNone) w := by cases M <;> kernel_rfl
/-- The exports while they are built: block E holds n maps. -/
structure Ex (w : World) (E n : Nat) (M : Nat → Option Nat) (F : Nat → Value → Option Value) : Prop where
  fv : Fv w E n (fun i => .map (M i))
  mx : ∀ i, i < n → Mx w (M i) (F i)
  lt : ∀ i b, i < n → M i = some b → E < b ∧ b < w.heap.size
  dj : ∀ i j b, i < n → j < n → i ≠ j → M i = some b → M j ≠ some b
section
variable {w w' : World} {E n : Nat} {M : Nat → Option Nat} {F : Nat → Value → Option Value}
theorem fv_later {V : Nat → Value} {g k : Nat} (h : Fv w g k V) (hb : Below w.heap.size w w') : Fv w' g k V := h.below hb h.lt
theorem Ex.later (h : Ex w E n M F) (hb : Below w.heap.size w w') : Ex w' E n M F :=
  ⟨fv_later h.fv hb, fun i hi => (h.mx i hi).below hb (fun b hm => (h.lt i b hi hm).2), fun i b hi hm => ⟨(h.lt i b hi hm).1, Nat.lt_of_lt_of_le (h.lt i b hi hm).2 hb.size⟩, h.dj⟩
theorem ex_made (w : World) (n : Nat) : Ex (w.alloc (.cells (madeCells #[.map none] n) 47)) w.heap.size n (fun _ => none) (fun _ _ => none) :=
  ⟨fv_made w 47 (.map none) n, fun i hi => ⟨fun _ _ => rfl, fun b hb => (by cases hb), fun k v hv => (by cases hv)⟩, fun i b hi hm => (by cases hm), fun i j b _ _ _ hm => (by cases hm)⟩
/-- A new map at place c. -/
theorem Ex.new (h : Ex w E n M F) {c : Nat} (hc : c < n) (hm : M c = none) : Ex ((w.alloc (.map #[] 0)).setCell ⟨E, c, none⟩ (.map (some w.heap.size))) E n (up M c (some w.heap.size)) F := by
  have hb : Below w.heap.size w (w.alloc (.map #[] 0)) := (Below.refl _ _).alloc (Nat.le_refl _) _
  have hE := h.fv.lt
  have hbE : ∀ k, k ≠ E → ((w.alloc (.map #[] 0)).setCell ⟨E, c, none⟩ (.map (some w.heap.size))).heap[k]? = (w.alloc (.map #[] 0)).heap[k]? := fun k hk => Below.heap_setCell _ ⟨E, c, none⟩ _ k hk
  have keep : ∀ b k f, E < b → MapF Try.prog (w.alloc (.map #[] 0)) b 43 k f → MapF Try.prog ((w.alloc (.map #[] 0)).setCell ⟨E, c, none⟩ (.map (some w.heap.size))) b 43 k f := fun b k f hb hf => hf.set (p := ⟨E, c, none⟩) (show b ≠ E by omega) _
  refine ⟨((fv_later h.fv hb).set hc (.map (some w.heap.size))).congr (fun i _ => by unfold up; split <;> rfl), fun i hi => ?_, fun i b hi hm' => ?_, fun i j b hi hj hij hm' => ?_⟩
  · by_cases e : i = c
    · subst e
      rw [up_self]
      have hF : ∀ k, F i k = none := (h.mx i hi).1 hm
      refine ⟨fun e => (by cases e), fun b hb => ?_, (h.mx i hi).2.2⟩
      injection hb with hb
      subst hb
      exact ⟨0, keep _ _ _ hE ((mapF_made w 43).congr (fun k => (hF k).symm))⟩
    · rw [up_ne _ _ e]
      refine ⟨(h.mx i hi).1, fun b hb' => ?_, (h.mx i hi).2.2⟩
      obtain ⟨k, hk⟩ := (h.mx i hi).2.1 b hb'
      exact ⟨k, keep _ _ _ (h.lt i b hi hb').1 (hk.below hb (h.lt i b hi hb').2)⟩
  · by_cases e : i = c
    · subst e
      rw [up_self] at hm'
      injection hm' with hm'
      subst hm'
      exact ⟨hE, by simp⟩
    · rw [up_ne _ _ e] at hm'
      have := h.lt i b hi hm'
      exact ⟨this.1, by simp; omega⟩
  · by_cases e : i = c
    · subst e
      rw [up_self] at hm'
      injection hm' with hm'
      subst hm'
      rw [up_ne _ _ (Ne.symm hij)]
      intro hj'
      have := (h.lt j _ hj hj').2
      omega
    · rw [up_ne _ _ e] at hm'
      by_cases e2 : j = c
      · subst e2
        rw [up_self]
        intro hj'
        injection hj' with hj'
        have := (h.lt i b hi hm').2
        omega
      · rw [up_ne _ _ e2]
        exact h.dj i j b hi hj hij hm'
/-- A key laid into the map at place c. -/
theorem Ex.put (h : Ex w E n M F) {c b m' : Nat} (hc : c < n) (hm : M c = some b) {k : Value} {a : ByteArray} (hf : MapF Try.prog w' b 43 m' (put (F c) k (.string a))) (hg : w.grownBy w' (some b)) : Ex w' E n M (up F c (put (F c) k (.string a))) := by
  have hE := (h.lt c b hc hm).1
  have hfv : Fv w' E n (fun i => .map (M i)) := by
    have hb := hg.block E h.fv.lt (fun e => by injection e with e; omega)
    refine ⟨Nat.lt_of_lt_of_le h.fv.lt hg.size, fun i hi => ?_, fun o => ?_⟩
    · rw [← h.fv.cell i hi]; simp [World.cell?, hb]
    · rw [← h.fv.frozen o]; simp [World.frozen?, hb]
  refine ⟨hfv, fun i hi => ?_, fun i b' hi hm' => ⟨(h.lt i b' hi hm').1, Nat.lt_of_lt_of_le (h.lt i b' hi hm').2 hg.size⟩, h.dj⟩
  by_cases e : i = c
  · subst e
    rw [up_self]
    refine ⟨fun e => (by rw [hm] at e; cases e), fun b' hb' => ?_, fun k' v' hv' => ?_⟩
    · rw [hm] at hb'
      injection hb' with hb'
      subst hb'
      exact ⟨_, hf⟩
    · by_cases ek : k' = k
      · subst ek
        rw [put_self] at hv'
        injection hv' with hv'
        exact ⟨a, hv'.symm⟩
      · rw [put_other _ _ ek] at hv'
        exact (h.mx i hi).2.2 k' v' hv'
  · rw [up_ne _ _ e]
    refine ⟨(h.mx i hi).1, fun b' hb' => ?_, (h.mx i hi).2.2⟩
    obtain ⟨k', hk'⟩ := (h.mx i hi).2.1 b' hb'
    refine ⟨k', hk'.kept hg (fun e' => ?_)⟩
    injection e' with e'
    subst e'
    exact h.dj c i b' hc hi (Ne.symm e) hm hb'
end
/-- The chunks laid so far. -/
structure Ch (w : World) (B k : Nat) (v : Value) (xs : List Value) (M : Nat → Option Nat) (p : Nat → Nat) : Prop where
  own : w.ownsRow B 70 22 v k xs
  ne : v ≠ .slice none 0 0
  at4 : ∀ i, i < k → xs[i * 22 + 4]? = some (.iface 75 (.pointer (some ⟨p i, 0, none⟩)))
  js : ∀ i, i < k → Js w (p i) (M i)
  pb : ∀ i, i < k → v.ownBlock ≠ some (p i)
theorem Ch.later {w w' : World} {B k : Nat} {v : Value} {xs : List Value} {M : Nat → Option Nat} {p : Nat → Nat} (h : Ch w B k v xs M p) (hb : Below w.heap.size w w') : Ch w' B k v xs M p :=
  ⟨own_later h.own hb, h.ne, h.at4, fun i hi => (h.js i hi).below hb (h.js i hi).1, h.pb⟩
theorem Ch.push {w w' : World} {B k : Nat} {v v' : Value} {xs : List Value} {M : Nat → Option Nat} {p : Nat → Nat} (h : Ch w B k v xs M p) {q : Nat} (hj : Js w q (M k)) (hq : v.ownBlock ≠ some q) (hown : w'.ownsRow B 70 22 v' (k + 1) (xs ++ (c70 q).toList)) (hg : w.grownBy w' v.ownBlock) (hat : v'.ownBlock = v.ownBlock ∨ v'.ownBlock = some w.heap.size) :
    Ch w' B (k + 1) v' (xs ++ (c70 q).toList) M (up p k q) := by
  have hl : xs.length = k * 22 := h.own.1
  refine ⟨hown, ?_, fun i hi => ?_, fun i hi => ?_, fun i hi => ?_⟩
  · rintro rfl
    rcases hown.2 with ⟨_, h0⟩ | ⟨g, cap, cur, h0, _⟩
    · omega
    · cases h0
  · by_cases e : i = k
    · subst e
      rw [up_self, List.getElem?_append_right (by omega), show i * 22 + 4 - xs.length = 4 by omega]
      exact c70_at q
    · rw [up_ne _ _ e, List.getElem?_append_left (by omega)]
      exact h.at4 i (by omega)
  · have hJ : Js w ((up p k q) i) (M i) := by
      by_cases e : i = k
      · subst e; rw [up_self]; exact hj
      · rw [up_ne _ _ e]; exact h.js i (by omega)
    have hne : v.ownBlock ≠ some ((up p k q) i) := by
      by_cases e : i = k
      · subst e; rw [up_self]; exact hq
      · rw [up_ne _ _ e]; exact h.pb i (by omega)
    have hb := hg.block _ hJ.1 (fun e => hne e.symm)
    exact ⟨Nat.lt_of_lt_of_le hJ.1 hg.size, by rw [← hJ.2]; simp [World.cell?, hb]⟩
  · have hJ : ((up p k q) i) < w.heap.size ∧ v.ownBlock ≠ some ((up p k q) i) := by
      by_cases e : i = k
      · subst e; rw [up_self]; exact ⟨hj.1, hq⟩
      · rw [up_ne _ _ e]; exact ⟨(h.js i (by omega)).1, h.pb i (by omega)⟩
    rcases hat with e | e
    · rw [e]; exact hJ.2
    · rw [e]; intro e'; injection e' with e'; omega
theorem grown_below2 {b : Nat} {w w1 w2 : World} (h : Below w.heap.size w w1) (hg : w1.grownBy w2 (some b)) (hb : w.heap.size ≤ b) : Below w.heap.size w w2 :=
  ⟨hg.os.trans h.os, hg.tape.trans h.tape, hg.output.trans h.output, Nat.le_trans h.size hg.size, fun j hj => (hg.block j (Nat.lt_of_lt_of_le hj h.size) (fun e => by injection e with e; omega)).trans (h.block j hj)⟩
theorem Owg.grown_below2' {B : Nat} {row : Option Nat} {w w1 w2 : World} (h : Below B w w1) (hg : w1.grownBy w2 row) (hr : ∀ g, row = some g → B ≤ g) (hB : B ≤ w.heap.size := by exact Nat.le_refl _) : Below B w w2 :=
  ⟨hg.os.trans h.os, hg.tape.trans h.tape, hg.output.trans h.output, Nat.le_trans h.size hg.size, fun j hj => (hg.block j (Nat.lt_of_lt_of_le (Nat.lt_of_lt_of_le hj hB) h.size) (fun e => by have := hr j e.symm; omega)).trans (h.block j hj)⟩
theorem c70_one (q : Nat) : ∀ u ∈ (c70 q).toList, u.oneCell' = true := fun u hu => by
  have h : (c70 q).all (·.oneCell') = true := by kernel_rfl
  exact (Array.all_eq_true_iff_forall_mem.1 h) u (by simpa using hu)
theorem ch_made (w : World) (n : Nat) (cs : Array Value) (M : Nat → Option Nat) (hn : n ≤ maxLen) : Ch (w.alloc (.cells (madeCells cs (n * 22)) 70)) w.heap.size 0 (.slice (some ⟨w.heap.size, 0, none⟩) 0 n) [] M (fun _ => 0) :=
  ⟨⟨by simp, .inr ⟨w.heap.size, n, _, rfl, Nat.le_refl _, heap_alloc_new w _, Nat.zero_le _, hn, by simp [madeCells], by simp⟩⟩, fun h => (by cases h), fun i hi => absurd hi (Nat.not_lt_zero _), fun i hi => absurd hi (Nat.not_lt_zero _), fun i hi => absurd hi (Nat.not_lt_zero _)⟩
theorem cx_of {w : World} {E n x g c : Nat} {B : Nat} {xs : List Value} {M : Nat → Option Nat} {F : Nat → Value → Option Value} {p : Nat → Nat} (h : Ex w E n M F) (hc : Ch w B n (.slice (some ⟨g, 0, none⟩) n c) xs M p) (hx : x < w.heap.size) (h17 : w.cell? ⟨x, 17, none⟩ = some (.slice (some ⟨g, 0, none⟩) n c)) : Cx w x n F :=
  ⟨hx, g, c, (own_lt hc.own rfl).2, h17, fun i hi => ⟨p i, M i, own_cell hc.own (hc.at4 i hi), hc.js i hi, fun b hm => (h.lt i b hi hm).2, h.mx i hi⟩⟩

set_option maxRecDepth 100000 in
set_option maxHeartbeats 1000000 in
theorem ctx7 (n m c1 c2 c3 c4 : Nat) (A1 A2 A3 A4 : Option Addr) (f r1 r2 : Nat → Int) (g : Nat → ByteArray) (w : World) (h1 : Rs w A1 m (fun i => .int .u32 (f i))) (h2 : Rs w A2 m (fun i => .int .u32 (r1 i))) (h3 : Rs w A3 m (fun i => .int .u32 (r2 i))) (h4 : Rs w A4 m (fun i => .string (g i)))
    (hn : n ≤ 65536) (hm : m ≤ 1024) (hf : ∀ k, k < m → 0 ≤ f k ∧ f k < n) (hr1 : ∀ k, k < m → 0 ≤ r1 k ∧ r1 k ≤ 4294967295) (hr2 : ∀ k, k < m → 0 ≤ r2 k ∧ r2 k ≤ 4294967295) :
    Calls Try.prog 7 #[.int .i64 (n : Int), .slice A1 m c1, .slice A2 m c2, .slice A3 m c3, .slice A4 m c4] w fun e w' => (∃ x F, e = .returned (.pointer (some ⟨x, 0, none⟩)) ∧ Cx w' x n F) ∧ Below w.heap.size w w' := by
  have H1 := Lib.hid h1
  have H2 := Lib.hid h2
  have H3 := Lib.hid h3
  have H4 := Lib.hid h4
  have HF := Lib.hid hf
  have HR1 := Lib.hid hr1
  have HR2 := Lib.hid hr2
  clear h1 h2 h3 h4 hf hr1 hr2
  have qn := eql_map
  have hmm : ∀ W, (Instr.makeMap 47 none).run Try.prog W = .ok (.map (some W.heap.size)) (W.alloc (.map #[] 0)) := fun W => rfl
  have hmk := fun W => run_make_row' (P := Try.prog) 46 47 (.map none) 8 Try.underlying46 info47 rfl .i64 .i64 n (by omega) (by omega) W
  obtain ⟨i70, hi70, hzz⟩ := Option.map_eq_some_iff.1 info70
  simp only [Prod.mk.injEq] at hzz
  obtain ⟨hz1, hz2, hz3⟩ := hzz
  have hmk2 := fun W => run_make (P := Try.prog) W 48 70 i70 z70 Try.underlying48 hi70 hz1 .i64 .i64 0 (n : Int) (by omega) (by omega) (by
    have : i70.bytes ≤ 1000 := by rw [hz3]; exact b70_le
    have h1 : i70.bytes * n ≤ 1000 * 65536 := Nat.mul_le_mul this hn
    have h : ((i70.bytes * n : Nat) : Int) ≤ 281474976710656 := by omega
    rwa [Int.natCast_mul] at h) (by omega)
  simp only [Int.toNat_zero, Int.toNat_natCast, hz2] at hmk2
  have HMK2 := Lib.hid hmk2
  have HI70 := Lib.hid hi70
  have HZ70 := Lib.hid hz1
  have HS70 := Lib.hid hz2
  clear hmk2 hi70 hz1 hz2 hz3
  go_enter Try.func7, Try.ntmps7
  go_wp2
  go_loopw [12] (fun s12 wr => ∃ (k : Nat) (M : Nat → Option Nat) (F : Nat → Value → Option Value), s12 = .int .i64 k ∧ k ≤ m ∧ Hid (Ex wr w.heap.size n M F) ∧ Hid (Below w.heap.size w wr)) (fun s12 _ => m - (intOf s12).toNat)
  case atStart => exact ⟨0, fun _ => none, fun _ _ => none, rfl, Nat.zero_le _, ex_made w n, (Below.refl _ _).alloc (Nat.le_refl _) _⟩
  case round =>
    obtain ⟨k, M, F, rfl, hk, HX, HB⟩ := hrel
    by_cases hlt : k < m
    · obtain ⟨b1, o1, ha1, hb1, cc1⟩ := H1.out k hlt
      obtain ⟨b2, o2, ha2, hb2, cc2⟩ := H2.out k hlt
      obtain ⟨b3, o3, ha3, hb3, cc3⟩ := H3.out k hlt
      obtain ⟨b4, o4, ha4, hb4, cc4⟩ := H4.out k hlt
      obtain ⟨s, hs⟩ : ∃ s, s = r1 k := ⟨_, rfl⟩
      obtain ⟨i, hi⟩ : ∃ i, i = r2 k := ⟨_, rfl⟩
      obtain ⟨a, ha⟩ : ∃ a, a = g k := ⟨_, rfl⟩
      have hsb := HR1.out k hlt
      have hib := HR2.out k hlt
      obtain ⟨c, hc⟩ : ∃ c : Nat, (c : Int) = f k := ⟨(f k).toNat, by have := HF.out k hlt; omega⟩
      have hcn : c < n := by have := HF.out k hlt; omega
      have hcz : (c : Int) < (n : Int) := by omega
      simp only [← hc] at cc1
      simp only [← hs] at cc2 hsb
      simp only [← hi] at cc3 hib
      simp only [← ha] at cc4
      subst ha1; subst ha2; subst ha3; subst ha4
      have d1 := (HB.out.cell (p := ⟨b1, o1 + k, none⟩) hb1).trans cc1
      have HC := Lib.hid (show ∀ W, Below w.heap.size w W → W.cell? ⟨b2, o2 + k, none⟩ = some (.int .u32 s) ∧ W.cell? ⟨b3, o3 + k, none⟩ = some (.int .u32 i) ∧ W.cell? ⟨b4, o4 + k, none⟩ = some (.string a) from fun W hW =>
        ⟨(hW.cell (p := ⟨b2, o2 + k, none⟩) hb2).trans cc2, (hW.cell (p := ⟨b3, o3 + k, none⟩) hb3).trans cc3, (hW.cell (p := ⟨b4, o4 + k, none⟩) hb4).trans cc4⟩)
      have HSI := Lib.hid (show (0 ≤ s ∧ s ≤ 4294967295) ∧ (0 ≤ i ∧ i ≤ 4294967295) from ⟨hsb, hib⟩)
      have HBB := Lib.hid (show b2 < w.heap.size ∧ b3 < w.heap.size ∧ b4 < w.heap.size from ⟨hb2, hb3, hb4⟩)
      clear cc1 cc2 cc3 cc4 hb1 hb2 hb3 hb4 hs hi ha hc hsb hib
      have e1 := HX.out.fv.cell c hcn
      have fz := HX.out.fv.frozen c
      go_upto_if 32 with fail
      go_cut [] from 18 to 53 (fun wx => ∃ M' b, M' c = some b ∧ Hid (Ex wx w.heap.size n M' F) ∧ Hid (Below w.heap.size w wx))
      case first =>
        cases hM : M c with
        | none =>
          rw [hM] at e1
          have hMn : (M c).isNone = true := by rw [hM]; rfl
          have hE := HX.out.fv.lt
          have e2 : (wr.alloc (.map #[] 0)).cell? ⟨w.heap.size, c, none⟩ = some (.map none) := cell_later ((Below.refl _ _).alloc (Nat.le_refl _) _) e1
          have fz2 : (wr.alloc (.map #[] 0)).frozen? ⟨w.heap.size, c, none⟩ = false := (((Below.refl wr.heap.size wr).alloc (Nat.le_refl _) (.map #[] 0)).frozen (p := ⟨w.heap.size, c, none⟩) hE).trans fz
          have hx2 := HX.out.new hcn hM
          rw [World.setCell_alloc_past _ _ _ _ hE] at hx2
          have HX2 := Lib.hid hx2
          have HB2 := Lib.hid ((HB.out.setCell (p := ⟨w.heap.size, c, none⟩) (Nat.le_refl _) (.map (some wr.heap.size))).alloc (by simpa using HB.out.size) (.map #[] 0))
          clear hx2
          go_wp2_with fail
          go_meet
          exact ⟨_, _, up_self _ _ _, HX2.out, HB2.out⟩
        | some b =>
          rw [hM] at e1
          have hMn : (M c).isNone = false := by rw [hM]; rfl
          go_wp2_with fail
          go_meet
          exact ⟨M, b, hM, HX.out, HB.out⟩
      case rest =>
        obtain ⟨M', b, hM', HX2, HB2⟩ := hcut
        clear HX HB e1 fz d1
        have dW : Below w.heap.size w wc.drew := HB2.out.drew
        have hxd := HX2.out.later (Below.refl wc.heap.size wc).drew
        obtain ⟨mm, hmf⟩ := (hxd.mx c hcn).2.1 b hM'
        obtain ⟨w5, hrun, hmf5, hgr, _⟩ := hmf.update Try.underlying47 keyed43 (key_ref s i HSI.out.1 HSI.out.2) (.string a)
        have hbE := (hxd.lt c b hcn hM').1
        have hb5 : Below w.heap.size w w5 := grown_below2 dW hgr (Nat.le_of_lt hbE)
        have HRUN := Lib.hid hrun
        have HX5 := Lib.hid (hxd.put hcn hM' hmf5 hgr)
        have HB5 := Lib.hid hb5
        have HS0 := Lib.hid (show wc.cell? ⟨w.heap.size, c, none⟩ = some (.map (some b)) ∧ wc.cell? ⟨b2, o2 + k, none⟩ = some (.int .u32 s) ∧ wc.cell? ⟨b3, o3 + k, none⟩ = some (.int .u32 i) ∧ wc.cell? ⟨b4, o4 + k, none⟩ = some (.string a) from
          ⟨by rw [HX2.out.fv.cell c hcn, hM'], HC.out wc HB2.out⟩)
        have HS5 := Lib.hid (show w5.cell? ⟨w.heap.size, c, none⟩ = some (.map (some b)) ∧ w5.cell? ⟨b2, o2 + k, none⟩ = some (.int .u32 s) ∧ w5.cell? ⟨b3, o3 + k, none⟩ = some (.int .u32 i) ∧ w5.cell? ⟨b4, o4 + k, none⟩ = some (.string a) from
          ⟨by rw [HX5.out.fv.cell c hcn, hM'], HC.out w5 HB5.out⟩)
        clear hM' dW hxd hmf hmf5 hgr hbE hb5 hrun HX2 HB2 HC hmk
        go_wp2
        refine wp_region_held_drew (S := (fun W => W.cell? ⟨w.heap.size, c, none⟩ = some (.map (some b)) ∧ W.cell? ⟨b2, o2 + k, none⟩ = some (.int .u32 s) ∧ W.cell? ⟨b3, o3 + k, none⟩ = some (.int .u32 i) ∧ W.cell? ⟨b4, o4 + k, none⟩ = some (.string a))) (by kernel_rfl) HS0.out (fun hHeld => ?_)
        refine take_to (i := 0) (d := some 37) (v := .slice (some ⟨w.heap.size, 0, none⟩) n n) rfl rfl (by kernel_rfl) (by kernel_rfl) (by kernel_rfl) (fun _ _ _ h => h) (Or.inl ⟨by kernel_rfl, fun W hS => by obtain ⟨q1, q2, q3, q4⟩ := hS; go_simp⟩) HS0.out ?_
        simp only [Act.put, List.setIfInBounds_toArray, List.set_cons_zero, List.set_cons_succ]
        refine take_to (i := 1) (d := some 38) (v := .int .u32 (c : Int)) rfl rfl (by kernel_rfl) (by kernel_rfl) (by kernel_rfl) (fun _ _ _ h => h) (Or.inl ⟨by kernel_rfl, fun W hS => by obtain ⟨q1, q2, q3, q4⟩ := hS; go_simp⟩) HS0.out ?_
        simp only [Act.put, List.setIfInBounds_toArray, List.set_cons_zero, List.set_cons_succ]
        refine take_to (i := 2) (d := some 39) (v := .pointer (some ⟨w.heap.size, c, none⟩)) rfl rfl (by kernel_rfl) (by kernel_rfl) (by kernel_rfl) (fun _ _ _ h => h) (Or.inl ⟨by kernel_rfl, fun W hS => by obtain ⟨q1, q2, q3, q4⟩ := hS; go_simp⟩) HS0.out ?_
        simp only [Act.put, List.setIfInBounds_toArray, List.set_cons_zero, List.set_cons_succ]
        refine take_to (i := 3) (d := some 40) (v := .map (some b)) rfl rfl (by kernel_rfl) (by kernel_rfl) (by kernel_rfl) (fun _ _ _ h => h) (Or.inl ⟨by kernel_rfl, fun W hS => by obtain ⟨q1, q2, q3, q4⟩ := hS; go_simp⟩) HS0.out ?_
        simp only [Act.put, List.setIfInBounds_toArray, List.set_cons_zero, List.set_cons_succ]
        refine take_to (i := 4) (d := some 41) (v := .slice (some ⟨b2, o2, none⟩) m c2) rfl rfl (by kernel_rfl) (by kernel_rfl) (by kernel_rfl) (fun _ _ _ h => h) (Or.inl ⟨by kernel_rfl, fun W hS => by obtain ⟨q1, q2, q3, q4⟩ := hS; go_simp⟩) HS0.out ?_
        simp only [Act.put, List.setIfInBounds_toArray, List.set_cons_zero, List.set_cons_succ]
        refine take_to (i := 5) (d := some 42) (v := .int .i64 (k : Int)) rfl rfl (by kernel_rfl) (by kernel_rfl) (by kernel_rfl) (fun _ _ _ h => h) (Or.inl ⟨by kernel_rfl, fun W hS => by obtain ⟨q1, q2, q3, q4⟩ := hS; go_simp⟩) HS0.out ?_
        simp only [Act.put, List.setIfInBounds_toArray, List.set_cons_zero, List.set_cons_succ]
        refine take_to (i := 6) (d := some 43) (v := .pointer (some ⟨b2, o2 + k, none⟩)) rfl rfl (by kernel_rfl) (by kernel_rfl) (by kernel_rfl) (fun _ _ _ h => h) (Or.inl ⟨by kernel_rfl, fun W hS => by obtain ⟨q1, q2, q3, q4⟩ := hS; go_simp⟩) HS0.out ?_
        simp only [Act.put, List.setIfInBounds_toArray, List.set_cons_zero, List.set_cons_succ]
        refine take_to (i := 7) (d := some 44) (v := .int .u32 s) rfl rfl (by kernel_rfl) (by kernel_rfl) (by kernel_rfl) (fun _ _ _ h => h) (Or.inl ⟨by kernel_rfl, fun W hS => by obtain ⟨q1, q2, q3, q4⟩ := hS; go_simp⟩) HS0.out ?_
        simp only [Act.put, List.setIfInBounds_toArray, List.set_cons_zero, List.set_cons_succ]
        refine take_to (i := 8) (d := some 45) (v := .slice (some ⟨b3, o3, none⟩) m c3) rfl rfl (by kernel_rfl) (by kernel_rfl) (by kernel_rfl) (fun _ _ _ h => h) (Or.inl ⟨by kernel_rfl, fun W hS => by obtain ⟨q1, q2, q3, q4⟩ := hS; go_simp⟩) HS0.out ?_
        simp only [Act.put, List.setIfInBounds_toArray, List.set_cons_zero, List.set_cons_succ]
        refine take_to (i := 9) (d := some 46) (v := .int .i64 (k : Int)) rfl rfl (by kernel_rfl) (by kernel_rfl) (by kernel_rfl) (fun _ _ _ h => h) (Or.inl ⟨by kernel_rfl, fun W hS => by obtain ⟨q1, q2, q3, q4⟩ := hS; go_simp⟩) HS0.out ?_
        simp only [Act.put, List.setIfInBounds_toArray, List.set_cons_zero, List.set_cons_succ]
        refine take_to (i := 10) (d := some 47) (v := .pointer (some ⟨b3, o3 + k, none⟩)) rfl rfl (by kernel_rfl) (by kernel_rfl) (by kernel_rfl) (fun _ _ _ h => h) (Or.inl ⟨by kernel_rfl, fun W hS => by obtain ⟨q1, q2, q3, q4⟩ := hS; go_simp⟩) HS0.out ?_
        simp only [Act.put, List.setIfInBounds_toArray, List.set_cons_zero, List.set_cons_succ]
        refine take_to (i := 11) (d := some 48) (v := .int .u32 i) rfl rfl (by kernel_rfl) (by kernel_rfl) (by kernel_rfl) (fun _ _ _ h => h) (Or.inl ⟨by kernel_rfl, fun W hS => by obtain ⟨q1, q2, q3, q4⟩ := hS; go_simp⟩) HS0.out ?_
        simp only [Act.put, List.setIfInBounds_toArray, List.set_cons_zero, List.set_cons_succ]
        refine take_to (i := 12) (d := some 49) (v := .agg #[.int .u32 s, .int .u32 i]) rfl rfl (by kernel_rfl) (by kernel_rfl) (by kernel_rfl) (fun _ _ _ h => h) (Or.inl ⟨by kernel_rfl, fun W hS => by obtain ⟨q1, q2, q3, q4⟩ := hS; go_simp⟩) HS0.out ?_
        simp only [Act.put, List.setIfInBounds_toArray, List.set_cons_zero, List.set_cons_succ]
        refine take_to (i := 13) (d := some 50) (v := .slice (some ⟨b4, o4, none⟩) m c4) rfl rfl (by kernel_rfl) (by kernel_rfl) (by kernel_rfl) (fun _ _ _ h => h) (Or.inl ⟨by kernel_rfl, fun W hS => by obtain ⟨q1, q2, q3, q4⟩ := hS; go_simp⟩) HS0.out ?_
        simp only [Act.put, List.setIfInBounds_toArray, List.set_cons_zero, List.set_cons_succ]
        refine take_to (i := 14) (d := some 51) (v := .int .i64 (k : Int)) rfl rfl (by kernel_rfl) (by kernel_rfl) (by kernel_rfl) (fun _ _ _ h => h) (Or.inl ⟨by kernel_rfl, fun W hS => by obtain ⟨q1, q2, q3, q4⟩ := hS; go_simp⟩) HS0.out ?_
        simp only [Act.put, List.setIfInBounds_toArray, List.set_cons_zero, List.set_cons_succ]
        refine take_to (i := 15) (d := some 52) (v := .pointer (some ⟨b4, o4 + k, none⟩)) rfl rfl (by kernel_rfl) (by kernel_rfl) (by kernel_rfl) (fun _ _ _ h => h) (Or.inl ⟨by kernel_rfl, fun W hS => by obtain ⟨q1, q2, q3, q4⟩ := hS; go_simp⟩) HS0.out ?_
        simp only [Act.put, List.setIfInBounds_toArray, List.set_cons_zero, List.set_cons_succ]
        refine take_to (i := 16) (d := some 53) (v := .string a) rfl rfl (by kernel_rfl) (by kernel_rfl) (by kernel_rfl) (fun _ _ _ h => h) (Or.inl ⟨by kernel_rfl, fun W hS => by obtain ⟨q1, q2, q3, q4⟩ := hS; go_simp⟩) HS0.out ?_
        simp only [Act.put, List.setIfInBounds_toArray, List.set_cons_zero, List.set_cons_succ]
        refine wpAnyH_ready (rs := [17]) (by kernel_rfl) (by simp) ?_
        refine AllReadyH.cons rfl (fun K hK => ?_) AllReadyH.nil
        refine step_mapUpdate_run rfl _ _ _ 47 rfl _ _ _ w5 rfl rfl rfl HRUN.out ?_
        refine hK.out _ _ HS5.out (fun _ => ?_)
        clear hK K
        try simp only [Act.put, List.setIfInBounds_toArray, List.set_cons_zero, List.set_cons_succ]
        refine wpAnyH_done (by kernel_rfl) ?_ _
        go_wp2
        go_roundw
        case rel => exact ⟨k + 1, _, _, by go_num, by omega, HX5.out, HB5.out⟩
        case measure => simp [intOf]; omega
    · obtain rfl : k = m := by omega
      clear hmk qn hmm
      go_upto_region 9 with fail
      obtain ⟨w2, hw2⟩ : ∃ w2, w2 = wr := ⟨_, rfl⟩
      have HX2 := Lib.hid (show Ex w2 w.heap.size n M F from by rw [hw2]; exact HX.out)
      have HB2 := Lib.hid (show Below w.heap.size w w2 from by rw [hw2]; exact HB.out)
      rw [← hw2]
      clear HX HB hw2
      have hmk2 := HMK2.out w2
      have HC0 := Lib.hid (fun cs => ch_made w2 n cs M (by unfold maxLen; omega))
      clear HMK2 H1 H2 H3 H4 HF HR1 HR2
      go_wp2
      go_loopw [14, 15] (fun s14 s15 wr => ∃ (i : Nat) (v : Value) (xs : List Value) (p : Nat → Nat), v = s14 ∧ s15 = .int .i64 i ∧ i ≤ n ∧ Hid (Ch wr w2.heap.size i v xs M p) ∧ Hid (Below w2.heap.size w2 wr)) (fun _ s15 _ => n - (intOf s15).toNat)
      case atStart => exact ⟨0, _, [], fun _ => 0, rfl, rfl, Nat.zero_le _, HC0.out _, (Below.refl _ _).alloc (Nat.le_refl _) _⟩
      case round =>
        obtain ⟨i, v, xs, p, rfl, rfl, hi, HC, HB⟩ := hrel
        by_cases hlt : i < n
        · have e1 := (HX2.out.later HB.out).fv.cell i hlt
          have e0 : w.heap.size < wr.heap.size := (HX2.out.later HB.out).fv.lt
          obtain ⟨Mi, hMi⟩ : ∃ Mi, Mi = M i := ⟨_, rfl⟩
          rw [← hMi] at e1
          have HMi := Lib.hid hMi
          clear hMi
          go_wp2_with (first
            | (go_at_call 14; refine (js14 Mi _).mono ?_; rintro e w3 ⟨⟨q, rfl, hq, hj⟩, hb3⟩
               generalize hC : c70 q = C
               have HCC := Lib.hid hC
               have HC3 := Lib.hid ((HC.out.later hb3).later ((Below.refl w3.heap.size w3).alloc (Nat.le_refl _) (.cells C 70)))
               have HJ3 := Lib.hid (show Js (w3.alloc (.cells C 70)) q (M i) from by rw [← HMi.out]; exact hj.below ((Below.refl w3.heap.size w3).alloc (Nat.le_refl _) _) hj.1)
               have HB3 := Lib.hid (show Below w2.heap.size w2 (w3.alloc (.cells C 70)) from (HB.out.trans (hb3.mono HB.out.size)).alloc (Nat.le_trans HB.out.size hb3.size) _)
               have HQ := Lib.hid (show v.ownBlock ≠ some q from fun e => by have := (own_lt HC.out.own e).2; omega)
               clear hq hj hb3 hC)
            | (refine wpList_buildSlice rfl 48 70 1 _ rfl C i70 z70 Try.underlying48 HI70.out HZ70.out (by rw [HS70.out]; decide) (by rw [HS70.out]; decide) (by rewrite [HS70.out, ← HCC.out]; kernel_rfl) ?_)
            | (refine wpList_pushRow _ rfl _ _ 48 rfl w2.heap.size 70 z70 22 b70 Try.underlying48 info70 z70_size (by decide) b70_le v i xs rfl HC3.out.own w3.heap.size C.toList rfl (by rw [← HCC.out]; rfl) (fun j u hu => (Row.newArr w3 70 C).at_ hu) (by rw [← HCC.out]; exact c70_one q) (by omega) HB3.out.size ?_
               intro A' c' w5 hown hgr hat
               rw [← HCC.out] at hown
               have HC5 := Lib.hid (HC3.out.push HJ3.out HQ.out hown hgr hat)
               have HB5 := Lib.hid (show Below w2.heap.size w2 w5 from Owg.grown_below2' HB3.out hgr (fun g e => (own_lt HC3.out.own e).1))
               clear hown hgr hat HC3 HJ3 HB3 HQ))
          go_roundw
          case rel => exact ⟨i + 1, _, _, _, rfl, by go_num, by omega, HC5.out, HB5.out⟩
          case measure => simp [intOf]; omega
        · obtain rfl : i = n := by omega
          obtain ⟨g, c, rfl, hg1, hg2⟩ := own_some HC.out.own HC.out.ne
          have HX3 := Lib.hid (HX2.out.later HB.out)
          go_wp2_with (go_at_call 15; refine (link15 g i c _).mono ?_; rintro e w4 ⟨⟨x, rfl, h17, hx1, hx2⟩, hb4⟩; have HX4 := Lib.hid (HX3.out.later hb4); have HC4 := Lib.hid (HC.out.later hb4); have HB4 := Lib.hid ((HB2.out.trans (HB.out.mono HB2.out.size)).trans (hb4.mono (Nat.le_trans HB2.out.size HB.out.size))); have H17 := Lib.hid h17; have HX2' := Lib.hid hx2; clear h17 hx1 hx2 hb4)
          go_ret
          exact ⟨⟨x, _, rfl, cx_of HX4.out HC4.out HX2'.out H17.out⟩, HB4.out⟩
end Go.Proofs.Ytfcpjckecjjmjaa.SoF
