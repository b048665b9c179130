/- FnSortedCrossChunkImportsOrderFree: the builder of the imports. -/
import Derived.Test.YtfcpjckecjjmjaaSoF
import Derived.Deep.RegionHeld3
import Derived.Deep.RegionLaw
import Derived.Great.BuildSlice
import Derived.Deep.DeepCutAuto
import Derived.WalkKit
import Derived.ProofKit
import Derived.OpenShut
import Derived.Below
import Derived.WalkLawsBesides
import Derived.Lib.Hide
import Derived.Outline
import Derived.RegionTactic
import Derived.Deep.QuietTactic
import Derived.BigQuiet
import Derived.WalkSpells
import Derived.Deep.OwnRows
import Derived.IntWalk
import Derived.Deep.DeepMust
namespace Go.Proofs.Ytfcpjckecjjmjaa.SoI
open Go.RowKit Go.MapKept Go.Maps Mem Args Fvs Fxs Tab MapK SoG SoC SoE SoF
set_option linter.unusedVariables false
set_option linter.unusedSimpArgs false
theorem step_append_run {P : Program} {ops : Array Oper} {o : Oper} {a : Act} {w : World} {K : Act → World → Prop} {Q : Exit → Act → World → Prop} {E : Prop}
    (hg : o.guard = none) (s x : Operand) (t : TypeId) (hop : o.op = Op.call { callee := Callee.builtin Builtin.append, args := #[s, x], argTypes := #[t, t] })
    (vs vx v : Value) (W : World) (hs : a.eval s = vs) (hx : a.eval x = vx) (hrun : (Builtin.append_ #[t, t] o.type #[vs, vx]).run P w = .ok v W) (hK : K (a.put o.dst v) W) :
    if Region.wanted o (yielded ops a.tmps) = true then Oper.wp P o a w K Q else E := by
  have hw : Region.wanted o (yielded ops a.tmps) = true := by simp [Region.wanted, hg]
  rw [if_pos hw]
  unfold Oper.wp
  simp [execOp, hop, resolve, invoke, builtin, hs, hx, hrun, Result.andThen]
  exact hK

abbrev Ent := Int × Int × Int
/-- The items of chunk c, in the order in which they were listed. -/
def its (ps : List Ent) (c : Int) : List (Int × Int) := (ps.filter (fun p => p.1 == c)).map (·.2)
def cI (L : List (Int × Int)) : List Value := L.flatMap fun p => [.string ByteArray.empty, .int .u32 p.1, .int .u32 p.2]
theorem cI_length (L : List (Int × Int)) : (cI L).length = L.length * 3 := by
  induction L with
  | nil => rfl
  | cons a t ih =>
    have : cI (a :: t) = [.string ByteArray.empty, .int .u32 a.1, .int .u32 a.2] ++ cI t := by simp [cI]
    rw [this, List.length_append, ih]
    show 3 + t.length * 3 = (t.length + 1) * 3
    omega
theorem cI_append (L : List (Int × Int)) (p : Int × Int) : cI (L ++ [p]) = cI L ++ [.string ByteArray.empty, .int .u32 p.1, .int .u32 p.2] := by simp [cI]
theorem cI_at : ∀ (L : List (Int × Int)) (j : Nat) (p : Int × Int), L[j]? = some p → (cI L)[j * 3]? = some (.string ByteArray.empty) ∧ (cI L)[j * 3 + 1]? = some (.int .u32 p.1) ∧ (cI L)[j * 3 + 2]? = some (.int .u32 p.2)
  | [], j, p, h => by simp at h
  | a :: t, 0, p, h => by
    simp at h
    subst h
    exact ⟨rfl, rfl, rfl⟩
  | a :: t, j + 1, p, h => by
    have ih := cI_at t j p (by simpa using h)
    have e : cI (a :: t) = .string ByteArray.empty :: .int .u32 a.1 :: .int .u32 a.2 :: cI t := rfl
    rw [e, show (j + 1) * 3 = j * 3 + 1 + 1 + 1 by omega, show j * 3 + 1 + 1 + 1 + 1 = (j * 3 + 1) + 1 + 1 + 1 by omega, show j * 3 + 1 + 1 + 1 + 2 = (j * 3 + 2) + 1 + 1 + 1 by omega]
    simp only [List.getElem?_cons_succ]
    exact ih
theorem its_push (ps : List Ent) (c x y : Int) : its (ps ++ [(c, x, y)]) c = its ps c ++ [(x, y)] := by simp [its]
theorem its_other (ps : List Ent) {c c' : Int} (x y : Int) (h : c' ≠ c) : its (ps ++ [(c, x, y)]) c' = its ps c' := by simp [its, Ne.symm h]
/-- The imports while they are built: the map in block b, the items in blocks behind it. -/
structure Im (w : World) (b : Nat) (ps : List Ent) (V : Int → Value) : Prop where
  map : MapQ w b (fun c => if c ∈ ps.map (·.1) then some (V c) else none)
  own : ∀ c, w.ownsRow (b + 1) 45 3 (V c) (its ps c).length (cI (its ps c))
  dj : ∀ c c', c ≠ c' → (V c).ownBlock = none ∨ (V c).ownBlock ≠ (V c').ownBlock
  nil : ∀ c, c ∉ ps.map (·.1) → V c = .slice none 0 0
section
variable {w w' w2 : World} {b : Nat} {ps : List Ent} {V : Int → Value}
theorem Im.later (h : Im w b ps V) (hb : Below w.heap.size w w') : Im w' b ps V :=
  ⟨h.map.kept (hb.block b h.map.lt), fun c => own_later (h.own c) hb, h.dj, h.nil⟩
theorem im_made (w : World) : Im (w.alloc (.map #[] 0)) w.heap.size [] (fun _ => .slice none 0 0) :=
  ⟨by simpa using mapQ_made w, fun c => World.ownsRow_nil _ _ 45 3, fun c c' _ => .inl rfl, fun c _ => rfl⟩
theorem Im.push (h : Im w b ps V) {c x y : Int} {v' : Value} (hown : w'.ownsRow (b + 1) 45 3 v' ((its ps c).length + 1) (cI (its ps c) ++ [.string ByteArray.empty, .int .u32 x, .int .u32 y])) (hg : w.grownBy w' (V c).ownBlock)
    (hat : v'.ownBlock = (V c).ownBlock ∨ v'.ownBlock = some w.heap.size) (hm : MapQ w2 b (upz (fun c => if c ∈ ps.map (·.1) then some (V c) else none) c (some v'))) (hg2 : w'.grownBy w2 (some b)) : Im w2 b (ps ++ [(c, x, y)]) (upz V c v') := by
  have hlt : ∀ i g, (V i).ownBlock = some g → b + 1 ≤ g ∧ g < w.heap.size := fun i g hg => own_lt (h.own i) hg
  have hv : ∀ g, v'.ownBlock = some g → b + 1 ≤ g := fun g hg => (own_lt hown hg).1
  have us : upz V c v' c = v' := by unfold upz; rw [if_pos rfl]
  have un : ∀ i, i ≠ c → upz V c v' i = V i := fun i hi => by unfold upz; rw [if_neg hi]
  refine ⟨?_, fun i => ?_, fun i j hij => ?_, fun i hi => ?_⟩
  · have e : (fun i => if i ∈ (ps ++ [(c, x, y)]).map (·.1) then some (upz V c v' i) else none) = upz (fun c => if c ∈ ps.map (·.1) then some (V c) else none) c (some v') := by
      funext i
      unfold upz
      by_cases hi : i = c
      · subst hi; simp
      · have : (i ∈ (ps ++ [(c, x, y)]).map (·.1)) = (i ∈ ps.map (·.1)) := by
          apply propext
          simp [hi]
        simp only [this, if_neg hi]
    rw [e]
    exact hm
  · by_cases hi : i = c
    · subst hi
      rw [us, its_push, List.length_append, cI_append]
      exact own_kept hown (fun g hg' => hg2.block g (own_lt hown hg').2 (fun e => by injection e with e; have := hv g hg'; omega))
    · rw [un i hi, its_other ps x y hi]
      refine own_kept (own_kept (h.own i) (fun g hg' => hg.block g (hlt i g hg').2 (fun e => ?_))) (fun g hg' => hg2.block g (Nat.lt_of_lt_of_le (hlt i g hg').2 hg.size) (fun e => by injection e with e; have := (hlt i g hg').1; omega))
      rcases h.dj i c hi with h0 | h0
      · rw [h0] at hg'; cases hg'
      · exact h0 (hg'.trans e)
  · by_cases hi : i = c
    · subst hi
      rw [us, un j (Ne.symm hij)]
      rcases hat with e | e
      · rw [e]; exact h.dj i j hij
      · rw [e]; exact .inr (fun e' => by have := (hlt j _ e'.symm).2; omega)
    · rw [un i hi]
      by_cases hj : j = c
      · subst hj
        rw [us]
        rcases hat with e | e
        · rw [e]; exact h.dj i j hij
        · rw [e]
          cases hv : (V i).ownBlock with
          | none => exact .inl rfl
          | some g => exact .inr (fun e' => by injection e' with e'; have := (hlt i g hv).2; omega)
      · rw [un j hj]; exact h.dj i j hij
  · have hi' : i ≠ c := fun e => hi (by simp [e])
    rw [un i hi']
    exact h.nil i (fun hm => hi (by simp only [List.map_append, List.mem_append]; exact .inl hm))
end
theorem im_look {w : World} {b : Nat} {ps : List Ent} {V : Int → Value} (h : Im w b ps V) (c : Int) (hc : 0 ≤ c ∧ c ≤ 4294967295) : Sem.run Try.prog (Instr.lookup 31 (.map (some b)) (.int .u32 c) false) w = .ok (V c) w := by
  have := h.map.look c hc
  by_cases hm : c ∈ ps.map (·.1)
  · rw [if_pos hm] at this; exact this
  · rw [if_neg hm] at this; rw [h.nil c hm]; exact this
set_option maxRecDepth 100000 in
set_option maxHeartbeats 1000000 in
theorem item17 (x y : Int) (w : World) : Calls Try.prog 17 #[.agg #[.int .u32 x, .int .u32 y]] w fun e w' => e = .returned (.agg #[.string ByteArray.empty, .int .u32 x, .int .u32 y]) ∧ Below w.heap.size w w' := by
  go_enter Try.func17, Try.ntmps17
  go_wp2
  have hh : ((w.alloc (.cells #[.int .u32 x, .int .u32 y] 43)).alloc (.cells #[.string ⟨#[]⟩, .int .u32 x, .int .u32 y] 45)).heap[w.heap.size + 1]? = some (.cells #[.string ⟨#[]⟩, .int .u32 x, .int .u32 y] 45 (0, 0)) := by
    have := heap_alloc_new (w.alloc (.cells #[.int .u32 x, .int .u32 y] 43)) (.cells #[.string ⟨#[]⟩, .int .u32 x, .int .u32 y] 45 (0, 0))
    simpa using this
  refine bodyPost_ret (v := .agg #[.string ⟨#[]⟩, .int .u32 x, .int .u32 y]) (results_cell_row rfl _ _ (w.heap.size + 1) 45 #[.string ⟨#[]⟩, .int .u32 x, .int .u32 y] (0, 0) _ rfl hh Try.underlying45 rfl (by kernel_rfl)) rfl ⟨rfl, ((Below.refl _ _).alloc (Nat.le_refl _) _).alloc (by simp) _⟩

/-- The entry that is listed in step t. -/
def ent (rev : Bool) (n : Nat) (f r1 r2 : Nat → Int) (t : Nat) : Ent := let k := if rev = true then n - 1 - t else t; (f k, r1 k, r2 k)
/-- The entries listed before step t. -/
def ents (rev : Bool) (n : Nat) (f r1 r2 : Nat → Int) (t : Nat) : List Ent := (List.range t).map (ent rev n f r1 r2)
theorem ents_succ (rev : Bool) (n : Nat) (f r1 r2 : Nat → Int) (t : Nat) : ents rev n f r1 r2 (t + 1) = ents rev n f r1 r2 t ++ [ent rev n f r1 r2 t] := by
  unfold ents; rw [List.range_succ, List.map_append]; rfl
set_option maxRecDepth 100000 in
set_option maxHeartbeats 1000000 in
theorem imp9 (rev : Bool) (n c1 c2 c3 : Nat) (A1 A2 A3 : Option Addr) (f r1 r2 : Nat → Int) (w : World) (h1 : Rs w A1 n (fun i => .int .u32 (f i))) (h2 : Rs w A2 n (fun i => .int .u32 (r1 i))) (h3 : Rs w A3 n (fun i => .int .u32 (r2 i)))
    (hn : n ≤ 1024) (hf : ∀ k, k < n → 0 ≤ f k ∧ f k ≤ 65535) :
    Calls Try.prog 9 #[.slice A1 n c1, .slice A2 n c2, .slice A3 n c3, .bool rev] w fun e w' => (∃ b V, e = .returned (.map (some b)) ∧ w.heap.size ≤ b ∧ Im w' b (ents rev n f r1 r2 n) V) ∧ Below w.heap.size w w' := by
  have H1 := Lib.hid h1
  have H2 := Lib.hid h2
  have H3 := Lib.hid h3
  have HF := Lib.hid hf
  clear h1 h2 h3 hf
  have hmm : ∀ W, (Instr.makeMap 31 none).run Try.prog W = .ok (.map (some W.heap.size)) (W.alloc (.map #[] 0)) := fun W => rfl
  go_enter Try.func9, Try.ntmps9
  go_wp2
  go_loopw [11] (fun s11 wr => ∃ (t : Nat) (V : Int → Value), s11 = .int .i64 t ∧ t ≤ n ∧ Hid (Im wr w.heap.size (ents rev n f r1 r2 t) V) ∧ Hid (Below w.heap.size w wr)) (fun s11 _ => n - (intOf s11).toNat)
  case atStart => exact ⟨0, fun _ => .slice none 0 0, rfl, Nat.zero_le _, im_made w, (Below.refl _ _).alloc (Nat.le_refl _) _⟩
  case round =>
    obtain ⟨t, V, rfl, ht, HX, HB⟩ := hrel
    by_cases hlt : t < n
    · obtain ⟨k, hk⟩ : ∃ k : Nat, k = if rev = true then n - 1 - t else t := ⟨_, rfl⟩
      have hkn : k < n := by rw [hk]; split <;> omega
      have HK := Lib.hid hk
      clear hk
      go_upto_if 23 with fail
      go_cut [12] from 17 to 48 (fun s12 wx => s12 = .int .i64 (k : Int) ∧ wx = wr)
      case first =>
        cases rev with
        | true =>
          have hk := HK.out
          rw [if_pos rfl] at hk
          go_wp2_with fail
          go_meet
          exact ⟨by congr 1; omega, rfl⟩
        | false =>
          have hk := HK.out
          rw [if_neg (by simp)] at hk
          go_wp2_with fail
          go_meet
          exact ⟨by congr 1; omega, rfl⟩
      case rest =>
        obtain ⟨rfl, rfl⟩ := hcut
        obtain ⟨b1, o1, ha1, hb1, cc1⟩ := H1.out k hkn
        obtain ⟨b2, o2, ha2, hb2, cc2⟩ := H2.out k hkn
        obtain ⟨b3, o3, ha3, hb3, cc3⟩ := H3.out k hkn
        obtain ⟨x, hx⟩ : ∃ x, x = r1 k := ⟨_, rfl⟩
        obtain ⟨y, hy⟩ : ∃ y, y = r2 k := ⟨_, rfl⟩
        obtain ⟨c, hc⟩ : ∃ c, c = f k := ⟨_, rfl⟩
        have hcb := HF.out k hkn
        simp only [← hc] at cc1 hcb
        simp only [← hx] at cc2
        simp only [← hy] at cc3
        subst ha1; subst ha2; subst ha3
        have HE := Lib.hid (show ent rev n f r1 r2 t = (c, x, y) from by unfold ent; rw [← HK.out, hc, hx, hy])
        have d1 := (HB.out.cell (p := ⟨b1, o1 + k, none⟩) hb1).trans cc1
        have HC := Lib.hid (show ∀ W, Below w.heap.size w W → W.cell? ⟨b2, o2 + k, none⟩ = some (.int .u32 x) ∧ W.cell? ⟨b3, o3 + k, none⟩ = some (.int .u32 y) from fun W hW =>
          ⟨(hW.cell (p := ⟨b2, o2 + k, none⟩) hb2).trans cc2, (hW.cell (p := ⟨b3, o3 + k, none⟩) hb3).trans cc3⟩)
        clear cc2 cc3 hb2 hb3 hx hy hc HK
        have hlen : (its (ents rev n f r1 r2 t) c).length ≤ 1048576 := by
          have : (its (ents rev n f r1 r2 t) c).length ≤ (ents rev n f r1 r2 t).length := by unfold its; rw [List.length_map]; exact List.length_filter_le _ _
          have : (ents rev n f r1 r2 t).length = t := by simp [ents]
          omega
        obtain ⟨ps, hps⟩ : ∃ ps, ps = ents rev n f r1 r2 t := ⟨_, rfl⟩
        obtain ⟨vc, hvc⟩ : ∃ vc, vc = V c := ⟨_, rfl⟩
        rw [← hps] at HX hlen
        have HPS := Lib.hid hps
        have HVC := Lib.hid hvc
        have HLEN := Lib.hid hlen
        have HCB := Lib.hid hcb
        clear hps hvc hlen hcb hmm
        go_upto_region 10 with fail
        have HD := Lib.hid (HX.out.later (Below.refl wc.heap.size wc).drew)
        have HBd := Lib.hid (show Below w.heap.size w wc.drew from HB.out.drew)
        have lkd := im_look HD.out c (by have := HCB.out; omega)
        rw [← HVC.out] at lkd
        refine wp_region_held_drew (S := (fun W => W.cell? ⟨b2, o2 + k, none⟩ = some (.int .u32 x) ∧ W.cell? ⟨b3, o3 + k, none⟩ = some (.int .u32 y))) (by kernel_rfl) (HC.out _ HBd.out) (fun hHeld => ?_)
        refine take_to (i := 0) (d := some 32) (v := .map (some w.heap.size)) rfl rfl (by kernel_rfl) (by kernel_rfl) (by kernel_rfl) (fun _ _ _ h => h) (Or.inl ⟨by kernel_rfl, fun W hS => by obtain ⟨q1, q2⟩ := hS; go_simp⟩) (HC.out _ HBd.out) ?_
        simp only [Act.put, List.setIfInBounds_toArray, List.set_cons_zero, List.set_cons_succ]
        refine take_to (i := 1) (d := some 33) (v := .int .u32 c) rfl rfl (by kernel_rfl) (by kernel_rfl) (by kernel_rfl) (fun _ _ _ h => h) (Or.inl ⟨by kernel_rfl, fun W hS => by obtain ⟨q1, q2⟩ := hS; go_simp⟩) (HC.out _ HBd.out) ?_
        simp only [Act.put, List.setIfInBounds_toArray, List.set_cons_zero, List.set_cons_succ]
        refine take_to (i := 2) (d := some 34) (v := .map (some w.heap.size)) rfl rfl (by kernel_rfl) (by kernel_rfl) (by kernel_rfl) (fun _ _ _ h => h) (Or.inl ⟨by kernel_rfl, fun W hS => by obtain ⟨q1, q2⟩ := hS; go_simp⟩) (HC.out _ HBd.out) ?_
        simp only [Act.put, List.setIfInBounds_toArray, List.set_cons_zero, List.set_cons_succ]
        refine take_to (i := 3) (d := some 35) (v := .int .u32 c) rfl rfl (by kernel_rfl) (by kernel_rfl) (by kernel_rfl) (fun _ _ _ h => h) (Or.inl ⟨by kernel_rfl, fun W hS => by obtain ⟨q1, q2⟩ := hS; go_simp⟩) (HC.out _ HBd.out) ?_
        simp only [Act.put, List.setIfInBounds_toArray, List.set_cons_zero, List.set_cons_succ]
        refine take_to (i := 5) (d := some 37) (v := .slice (some ⟨b2, o2, none⟩) n c2) rfl rfl (by kernel_rfl) (by kernel_rfl) (by kernel_rfl) (fun _ _ _ h => h) (Or.inl ⟨by kernel_rfl, fun W hS => by obtain ⟨q1, q2⟩ := hS; go_simp⟩) (HC.out _ HBd.out) ?_
        simp only [Act.put, List.setIfInBounds_toArray, List.set_cons_zero, List.set_cons_succ]
        refine take_to (i := 6) (d := some 38) (v := .int .i64 (k : Int)) rfl rfl (by kernel_rfl) (by kernel_rfl) (by kernel_rfl) (fun _ _ _ h => h) (Or.inl ⟨by kernel_rfl, fun W hS => by obtain ⟨q1, q2⟩ := hS; go_simp⟩) (HC.out _ HBd.out) ?_
        simp only [Act.put, List.setIfInBounds_toArray, List.set_cons_zero, List.set_cons_succ]
        refine take_to (i := 7) (d := some 39) (v := .pointer (some ⟨b2, o2 + k, none⟩)) rfl rfl (by kernel_rfl) (by kernel_rfl) (by kernel_rfl) (fun _ _ _ h => h) (Or.inl ⟨by kernel_rfl, fun W hS => by obtain ⟨q1, q2⟩ := hS; go_simp⟩) (HC.out _ HBd.out) ?_
        simp only [Act.put, List.setIfInBounds_toArray, List.set_cons_zero, List.set_cons_succ]
        refine take_to (i := 8) (d := some 40) (v := .int .u32 x) rfl rfl (by kernel_rfl) (by kernel_rfl) (by kernel_rfl) (fun _ _ _ h => h) (Or.inl ⟨by kernel_rfl, fun W hS => by obtain ⟨q1, q2⟩ := hS; go_simp⟩) (HC.out _ HBd.out) ?_
        simp only [Act.put, List.setIfInBounds_toArray, List.set_cons_zero, List.set_cons_succ]
        refine take_to (i := 9) (d := some 41) (v := .slice (some ⟨b3, o3, none⟩) n c3) rfl rfl (by kernel_rfl) (by kernel_rfl) (by kernel_rfl) (fun _ _ _ h => h) (Or.inl ⟨by kernel_rfl, fun W hS => by obtain ⟨q1, q2⟩ := hS; go_simp⟩) (HC.out _ HBd.out) ?_
        simp only [Act.put, List.setIfInBounds_toArray, List.set_cons_zero, List.set_cons_succ]
        refine take_to (i := 10) (d := some 42) (v := .int .i64 (k : Int)) rfl rfl (by kernel_rfl) (by kernel_rfl) (by kernel_rfl) (fun _ _ _ h => h) (Or.inl ⟨by kernel_rfl, fun W hS => by obtain ⟨q1, q2⟩ := hS; go_simp⟩) (HC.out _ HBd.out) ?_
        simp only [Act.put, List.setIfInBounds_toArray, List.set_cons_zero, List.set_cons_succ]
        refine take_to (i := 11) (d := some 43) (v := .pointer (some ⟨b3, o3 + k, none⟩)) rfl rfl (by kernel_rfl) (by kernel_rfl) (by kernel_rfl) (fun _ _ _ h => h) (Or.inl ⟨by kernel_rfl, fun W hS => by obtain ⟨q1, q2⟩ := hS; go_simp⟩) (HC.out _ HBd.out) ?_
        simp only [Act.put, List.setIfInBounds_toArray, List.set_cons_zero, List.set_cons_succ]
        refine take_to (i := 12) (d := some 44) (v := .int .u32 y) rfl rfl (by kernel_rfl) (by kernel_rfl) (by kernel_rfl) (fun _ _ _ h => h) (Or.inl ⟨by kernel_rfl, fun W hS => by obtain ⟨q1, q2⟩ := hS; go_simp⟩) (HC.out _ HBd.out) ?_
        simp only [Act.put, List.setIfInBounds_toArray, List.set_cons_zero, List.set_cons_succ]
        refine take_to (i := 13) (d := some 45) (v := .agg #[.int .u32 x, .int .u32 y]) rfl rfl (by kernel_rfl) (by kernel_rfl) (by kernel_rfl) (fun _ _ _ h => h) (Or.inl ⟨by kernel_rfl, fun W hS => by obtain ⟨q1, q2⟩ := hS; go_simp⟩) (HC.out _ HBd.out) ?_
        simp only [Act.put, List.setIfInBounds_toArray, List.set_cons_zero, List.set_cons_succ]
        refine wpAnyH_ready (rs := [4, 14]) (by kernel_rfl) (by simp) ?_
        refine AllReadyH.cons rfl (fun K hK => ?_) (AllReadyH.cons rfl (fun K hK => ?_) AllReadyH.nil)
        · go_simp
          refine hK.out _ _ (HC.out _ HBd.out) (fun _ => ?_)
          clear hK K
          try simp only [Act.put, List.setIfInBounds_toArray, List.set_cons_zero, List.set_cons_succ]
          refine wpAnyH_ready (rs := [14]) (by kernel_rfl) (by simp) ?_
          refine AllReadyH.cons rfl (fun K hK => ?_) AllReadyH.nil
          rw [if_pos (by simp [Region.wanted])]
          unfold Oper.wp
          simp [go_sem]
          refine (item17 x y _).mono ?_
          rintro e w3 ⟨rfl, hb3⟩
          have HB3 := Lib.hid (show Below w.heap.size w w3 from HBd.out.trans (hb3.mono HBd.out.size))
          have HI3 := Lib.hid (HD.out.later hb3)
          obtain ⟨w4, hw4⟩ : ∃ w4, w4 = w3.alloc (.cells #[.string ByteArray.empty, .int .u32 x, .int .u32 y] 45) := ⟨_, rfl⟩
          have al : Below w3.heap.size w3 w4 := by rw [hw4]; exact (Below.refl _ _).alloc (Nat.le_refl _) _
          have HB4 := Lib.hid (show Below w.heap.size w w4 from HB3.out.trans (al.mono HB3.out.size))
          have HI4 := Lib.hid (HI3.out.later al)
          obtain ⟨A', c', w5, hrun, hown, hgr, hat⟩ := run_pushRow (P := Try.prog) w4 37 37 (w.heap.size + 1) 45 _ 3 24 Try.underlying37 info45 rfl (by decide) (by decide) (V c) (its ps c).length _ (HI4.out.own c) w3.heap.size [.string ByteArray.empty, .int .u32 x, .int .u32 y] rfl (fun j u hu => by rw [hw4]; exact (Row.newArr w3 45 _).at_ hu) (by simp [Value.oneCell']) HLEN.out HI4.out.map.lt
          have hne : some w.heap.size ≠ (V c).ownBlock := fun e => by have := (own_lt (HI4.out.own c) e.symm).1; omega
          have hm5 := HI4.out.map.kept (hgr.block _ HI4.out.map.lt hne)
          obtain ⟨w6, hup, hm6, hg6, _⟩ := hm5.update c (by have := HCB.out; omega) (.slice A' ((its ps c).length + 1) c')
          have HI6 := Lib.hid (HI4.out.push hown hgr hat hm6 hg6)
          have HB5 := Lib.hid (show Below w.heap.size w w5 from Owg.grown_below2' HB4.out hgr (fun g e => by have := (own_lt (HI4.out.own c) e).1; omega))
          have HB6 := Lib.hid (show Below w.heap.size w w6 from Owg.grown_below2' HB5.out hg6 (fun g e => by injection e with e; omega))
          obtain ⟨len, hl⟩ : ∃ len, len = (its ps c).length := ⟨_, rfl⟩
          rw [← HVC.out, ← hl] at hrun
          rw [← hl] at hup
          have lk3 := im_look HI3.out c (by have := HCB.out; omega)
          have lk4 := im_look HI4.out c (by have := HCB.out; omega)
          rw [← HVC.out] at lk3 lk4
          have HRUN := Lib.hid hrun
          have HUP := Lib.hid hup
          clear hb3 al hrun hown hgr hat hne hm5 hup hm6 hg6 hl
          refine hK.out _ _ (HC.out _ HB3.out) (fun _ => ?_)
          clear hK K
          try simp only [Act.put, List.setIfInBounds_toArray, List.set_cons_zero, List.set_cons_succ]
          refine wpAnyH_ready (rs := [15]) (by kernel_rfl) (by simp) ?_
          refine AllReadyH.cons rfl (fun K hK => ?_) AllReadyH.nil
          go_simp
          rw [← hw4]
          refine hK.out _ _ (HC.out _ HB4.out) (fun _ => ?_)
          clear hK K
          try simp only [Act.put, List.setIfInBounds_toArray, List.set_cons_zero, List.set_cons_succ]
          refine wpAnyH_ready (rs := [16]) (by kernel_rfl) (by simp) ?_
          refine AllReadyH.cons rfl (fun K hK => ?_) AllReadyH.nil
          refine step_append_run rfl _ _ 37 rfl _ _ _ w5 rfl rfl HRUN.out ?_
          refine hK.out _ _ (HC.out _ HB5.out) (fun _ => ?_)
          clear hK K
          try simp only [Act.put, List.setIfInBounds_toArray, List.set_cons_zero, List.set_cons_succ]
          refine wpAnyH_ready (rs := [17]) (by kernel_rfl) (by simp) ?_
          refine AllReadyH.cons rfl (fun K hK => ?_) AllReadyH.nil
          refine step_mapUpdate_run rfl _ _ _ 31 rfl _ _ _ w6 rfl rfl rfl HUP.out ?_
          refine hK.out _ _ (HC.out _ HB6.out) (fun _ => ?_)
          clear hK K
          try simp only [Act.put, List.setIfInBounds_toArray, List.set_cons_zero, List.set_cons_succ]
          refine wpAnyH_done (by kernel_rfl) ?_ _
          go_wp2
          go_roundw
          case rel => exact ⟨t + 1, _, by go_num, by omega, by rw [ents_succ, ← HPS.out, HE.out]; exact HI6.out, HB6.out⟩
          case measure => simp [intOf]; omega
        · rw [if_pos (by simp [Region.wanted])]
          unfold Oper.wp
          simp [go_sem]
          refine (item17 x y _).mono ?_
          rintro e w3 ⟨rfl, hb3⟩
          have HB3 := Lib.hid (show Below w.heap.size w w3 from HBd.out.trans (hb3.mono HBd.out.size))
          have HI3 := Lib.hid (HD.out.later hb3)
          obtain ⟨w4, hw4⟩ : ∃ w4, w4 = w3.alloc (.cells #[.string ByteArray.empty, .int .u32 x, .int .u32 y] 45) := ⟨_, rfl⟩
          have al : Below w3.heap.size w3 w4 := by rw [hw4]; exact (Below.refl _ _).alloc (Nat.le_refl _) _
          have HB4 := Lib.hid (show Below w.heap.size w w4 from HB3.out.trans (al.mono HB3.out.size))
          have HI4 := Lib.hid (HI3.out.later al)
          obtain ⟨A', c', w5, hrun, hown, hgr, hat⟩ := run_pushRow (P := Try.prog) w4 37 37 (w.heap.size + 1) 45 _ 3 24 Try.underlying37 info45 rfl (by decide) (by decide) (V c) (its ps c).length _ (HI4.out.own c) w3.heap.size [.string ByteArray.empty, .int .u32 x, .int .u32 y] rfl (fun j u hu => by rw [hw4]; exact (Row.newArr w3 45 _).at_ hu) (by simp [Value.oneCell']) HLEN.out HI4.out.map.lt
          have hne : some w.heap.size ≠ (V c).ownBlock := fun e => by have := (own_lt (HI4.out.own c) e.symm).1; omega
          have hm5 := HI4.out.map.kept (hgr.block _ HI4.out.map.lt hne)
          obtain ⟨w6, hup, hm6, hg6, _⟩ := hm5.update c (by have := HCB.out; omega) (.slice A' ((its ps c).length + 1) c')
          have HI6 := Lib.hid (HI4.out.push hown hgr hat hm6 hg6)
          have HB5 := Lib.hid (show Below w.heap.size w w5 from Owg.grown_below2' HB4.out hgr (fun g e => by have := (own_lt (HI4.out.own c) e).1; omega))
          have HB6 := Lib.hid (show Below w.heap.size w w6 from Owg.grown_below2' HB5.out hg6 (fun g e => by injection e with e; omega))
          obtain ⟨len, hl⟩ : ∃ len, len = (its ps c).length := ⟨_, rfl⟩
          rw [← HVC.out, ← hl] at hrun
          rw [← hl] at hup
          have lk3 := im_look HI3.out c (by have := HCB.out; omega)
          have lk4 := im_look HI4.out c (by have := HCB.out; omega)
          rw [← HVC.out] at lk3 lk4
          have HRUN := Lib.hid hrun
          have HUP := Lib.hid hup
          clear hb3 al hrun hown hgr hat hne hm5 hup hm6 hg6 hl
          refine hK.out _ _ (HC.out _ HB3.out) (fun _ => ?_)
          clear hK K
          try simp only [Act.put, List.setIfInBounds_toArray, List.set_cons_zero, List.set_cons_succ]
          refine wpAnyH_ready (rs := [4, 15]) (by kernel_rfl) (by simp) ?_
          refine AllReadyH.cons rfl (fun K hK => ?_) (AllReadyH.cons rfl (fun K hK => ?_) AllReadyH.nil)
          · go_simp
            refine hK.out _ _ (HC.out _ HB3.out) (fun _ => ?_)
            clear hK K
            try simp only [Act.put, List.setIfInBounds_toArray, List.set_cons_zero, List.set_cons_succ]
            refine wpAnyH_ready (rs := [15]) (by kernel_rfl) (by simp) ?_
            refine AllReadyH.cons rfl (fun K hK => ?_) AllReadyH.nil
            go_simp
            rw [← hw4]
            refine hK.out _ _ (HC.out _ HB4.out) (fun _ => ?_)
            clear hK K
            try simp only [Act.put, List.setIfInBounds_toArray, List.set_cons_zero, List.set_cons_succ]
            refine wpAnyH_ready (rs := [16]) (by kernel_rfl) (by simp) ?_
            refine AllReadyH.cons rfl (fun K hK => ?_) AllReadyH.nil
            refine step_append_run rfl _ _ 37 rfl _ _ _ w5 rfl rfl HRUN.out ?_
            refine hK.out _ _ (HC.out _ HB5.out) (fun _ => ?_)
            clear hK K
            try simp only [Act.put, List.setIfInBounds_toArray, List.set_cons_zero, List.set_cons_succ]
            refine wpAnyH_ready (rs := [17]) (by kernel_rfl) (by simp) ?_
            refine AllReadyH.cons rfl (fun K hK => ?_) AllReadyH.nil
            refine step_mapUpdate_run rfl _ _ _ 31 rfl _ _ _ w6 rfl rfl rfl HUP.out ?_
            refine hK.out _ _ (HC.out _ HB6.out) (fun _ => ?_)
            clear hK K
            try simp only [Act.put, List.setIfInBounds_toArray, List.set_cons_zero, List.set_cons_succ]
            refine wpAnyH_done (by kernel_rfl) ?_ _
            go_wp2
            go_roundw
            case rel => exact ⟨t + 1, _, by go_num, by omega, by rw [ents_succ, ← HPS.out, HE.out]; exact HI6.out, HB6.out⟩
            case measure => simp [intOf]; omega
          · go_simp
            rw [← hw4]
            refine hK.out _ _ (HC.out _ HB4.out) (fun _ => ?_)
            clear hK K
            try simp only [Act.put, List.setIfInBounds_toArray, List.set_cons_zero, List.set_cons_succ]
            clear hw4
            refine wpAnyH_ready (rs := [4]) (by kernel_rfl) (by simp) ?_
            refine AllReadyH.cons rfl (fun K hK => ?_) AllReadyH.nil
            go_simp
            refine hK.out _ _ (HC.out _ HB4.out) (fun _ => ?_)
            clear hK K
            try simp only [Act.put, List.setIfInBounds_toArray, List.set_cons_zero, List.set_cons_succ]
            refine wpAnyH_ready (rs := [16]) (by kernel_rfl) (by simp) ?_
            refine AllReadyH.cons rfl (fun K hK => ?_) AllReadyH.nil
            refine step_append_run rfl _ _ 37 rfl _ _ _ w5 rfl rfl HRUN.out ?_
            refine hK.out _ _ (HC.out _ HB5.out) (fun _ => ?_)
            clear hK K
            try simp only [Act.put, List.setIfInBounds_toArray, List.set_cons_zero, List.set_cons_succ]
            refine wpAnyH_ready (rs := [17]) (by kernel_rfl) (by simp) ?_
            refine AllReadyH.cons rfl (fun K hK => ?_) AllReadyH.nil
            refine step_mapUpdate_run rfl _ _ _ 31 rfl _ _ _ w6 rfl rfl rfl HUP.out ?_
            refine hK.out _ _ (HC.out _ HB6.out) (fun _ => ?_)
            clear hK K
            try simp only [Act.put, List.setIfInBounds_toArray, List.set_cons_zero, List.set_cons_succ]
            refine wpAnyH_done (by kernel_rfl) ?_ _
            go_wp2
            go_roundw
            case rel => exact ⟨t + 1, _, by go_num, by omega, by rw [ents_succ, ← HPS.out, HE.out]; exact HI6.out, HB6.out⟩
            case measure => simp [intOf]; omega
    · obtain rfl : t = n := by omega
      go_wp2
      go_ret
      exact ⟨⟨_, V, rfl, Nat.le_refl _, HX.out⟩, HB.out⟩
end Go.Proofs.Ytfcpjckecjjmjaa.SoI
