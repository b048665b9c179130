/- FnIterativelyValidateTLAIffSomeLiveTLA: the graph is built. -/
import Derived.Test.YtbcplamfejihjaaGreatRows
import Derived.Test.YtbcplamfejihjaaGreatMem
import Derived.Test.YtbcplamfejihjaaGreatSl
import Derived.Test.YtbcplamfejihjaaGreatTlF
import Derived.Test.YtbcplamfejihjaaGreatTlB
import Derived.Test.YtbcplamfejihjaaGreatOwg
import Derived.Great.BuildSlice
import Derived.Deep.RegionLaw
import Derived.Deep.RegionHeld3
import Derived.Laws.EntriesVeiled
import Derived.Maps.AppendAt
import Derived.Laws.CopyOwn
import Derived.WalkKit
import Derived.ProofKit
import Derived.OpenShut
import Derived.Below
import Derived.WalkLawsBesides
import Derived.Lib.Hide
import Derived.Outline
import Derived.RegionTactic
import Derived.Deep.QuietTactic
import Derived.BigQuiet
import Derived.WalkSpells
import Derived.Deep.OwnRows
import Derived.IntWalk
import Derived.Deep.DeepMust
namespace Go.Proofs.YtbcplamfejihjaaGreat.TlN
open Go.RowKit Mem Sl
set_option linter.unusedVariables false
open Args Fvs TlA TlP TlD TlF TlB
theorem step_append_run {P : Program} {ops : Array Oper} {o : Oper} {a : Act} {w : World} {K : Act → World → Prop} {Q : Exit → Act → World → Prop} {E : Prop}
    (hg : o.guard = none) (s x : Operand) (t : TypeId) (hop : o.op = Op.call { callee := Callee.builtin Builtin.append, args := #[s, x], argTypes := #[t, t] })
    (vs vx v : Value) (W : World) (hs : a.eval s = vs) (hx : a.eval x = vx) (hrun : (Builtin.append_ #[t, t] o.type #[vs, vx]).run P w = .ok v W) (hK : K (a.put o.dst v) W) :
    if Region.wanted o (yielded ops a.tmps) = true then Oper.wp P o a w K Q else E := by
  have hw : Region.wanted o (yielded ops a.tmps) = true := by simp [Region.wanted, hg]
  rw [if_pos hw]
  unfold Oper.wp
  simp [execOp, hop, resolve, invoke, builtin, hs, hx, hrun, Result.andThen]
  exact hK

def REC0 : Array Value := #[.pointer none, .pointer none, .string ByteArray.empty, .string ByteArray.empty, .string ByteArray.empty, .string ByteArray.empty, .int .u8 0, .int .i32 0, .int .i32 0, .int .i32 0, .int .u32 0, .int .u32 0, .int .u16 0, .int .u8 0, .int .u8 0]
theorem info58 : (Tryz.prog.info? 58).map (fun i => (i.zero, i.size, i.bytes)) = some (some (.agg REC0), 15, 112) := by kernel_rfl
theorem info38 : (Tryz.prog.info? 38).map (fun i => (i.zero, i.size, i.bytes)) = some (some (.slice none 0 0), 1, 24) := by kernel_rfl
/-- The records of module i after k edges. -/
def Ls (fr t kk : Nat → Int) : Nat → Nat → List (Int × Int)
  | 0, _ => []
  | k + 1, i => if fr k = (i : Int) then Ls fr t kk k i ++ [(4294967295 - t k, kk k)] else Ls fr t kk k i
theorem ls_len (fr t kk : Nat → Int) : ∀ k i, (Ls fr t kk k i).length ≤ k
  | 0, _ => Nat.le_refl _
  | k + 1, i => by
    have := ls_len fr t kk k i
    unfold Ls
    split
    · rw [List.length_append]; simp; omega
    · omega
theorem ls_step {fr t kk : Nat → Int} {k f : Nat} (h : fr k = (f : Int)) : up (Ls fr t kk k) f (Ls fr t kk k f ++ [(4294967295 - t k, kk k)]) = Ls fr t kk (k + 1) := by
  funext i
  by_cases e : i = f
  · subst e
    rw [up_self]
    show _ = if fr k = (i : Int) then _ else _
    rw [if_pos h]
  · rw [up_ne _ _ e]
    show _ = if fr k = (i : Int) then _ else _
    rw [if_neg (by omega)]
theorem ls_mem {fr t kk : Nat → Int} : ∀ {k i : Nat} {p : Int × Int}, p ∈ Ls fr t kk k i → ∃ e, e < k ∧ p = (4294967295 - t e, kk e)
  | 0, i, p, h => by simp [Ls] at h
  | k + 1, i, p, h => by
    unfold Ls at h
    split at h
    · rcases List.mem_append.1 h with h | h
      · obtain ⟨e, he, hp⟩ := ls_mem h; exact ⟨e, by omega, hp⟩
      · simp at h; exact ⟨k, by omega, h⟩
    · obtain ⟨e, he, hp⟩ := ls_mem h; exact ⟨e, by omega, hp⟩
/-- One append, whole. -/
theorem app1 {w2 : World} {B rb n : Nat} {V : Nat → Value} {L : Nat → List (Int × Int)} (h : Fam w2 B 58 rb n V L) {f : Nat} (hf : f < n) (hlen : (L f).length ≤ 4096) (hB : B ≤ rb) (x k : Int) :
    ∃ A n' c' w5, (Builtin.append_ #[38, 38] 38 #[V f, .slice (some ⟨w2.heap.size, 0, none⟩) 1 1]).run Tryz.prog (w2.alloc (.cells #[.pointer none, .pointer none, .string ByteArray.empty, .string ByteArray.empty, .string ByteArray.empty, .string ByteArray.empty, .int .u8 0, .int .i32 0, .int .i32 0, .int .i32 0, .int .u32 x, .int .u32 0, .int .u16 0, .int .u8 0, .int .u8 k] 58)) = .ok (.slice A n' c') w5 ∧
      (∃ A0 n0 c0, w5.cell? ⟨rb, f, none⟩ = some (.slice A0 n0 c0)) ∧ w5.frozen? ⟨rb, f, none⟩ = false ∧ Fam (w5.setCell ⟨rb, f, none⟩ (.slice A n' c')) B 58 rb n (up V f (.slice A n' c')) (up L f (L f ++ [(x, k)])) ∧ Below B w2 (w5.setCell ⟨rb, f, none⟩ (.slice A n' c')) := by
  obtain ⟨i58, hi58, hzz⟩ := Option.map_eq_some_iff.1 info58
  simp only [Prod.mk.injEq] at hzz
  obtain ⟨hz1, hz2, hz3⟩ := hzz
  have hBw : B ≤ w2.heap.size := by have := h.fv.lt; omega
  have hal : Below w2.heap.size w2 (w2.alloc (.cells (REC x k).toArray 58)) := (Below.refl _ _).alloc (Nat.le_refl _) _
  have h1 := h.later hal
  have hrow := Row.newArr w2 58 (REC x k).toArray
  obtain ⟨v5, w5, hrun, hown5, hgr5, _, hat5⟩ := run_append_own_at (P := Tryz.prog) (w2.alloc (.cells (REC x k).toArray 58)) B 38 38 58 i58 _ 15 112 Tryz.underlying38 hi58 hz1 hz2 hz3 rfl (by decide) (V f) (L f).length (rcs (L f)) (h1.own f hf) ⟨w2.heap.size, 0, none⟩ 1 1 (REC x k) rfl (fun j u hu => by
    have hadd : (⟨w2.heap.size, 0, none⟩ : Addr).add j = ⟨w2.heap.size, j, none⟩ := by unfold Addr.add; split <;> simp_all
    rw [hadd]
    exact hrow.at_ hu) (fun u hu => by
      simp only [REC, List.mem_cons, List.not_mem_nil, or_false] at hu
      rcases hu with rfl | rfl | rfl | rfl | rfl | rfl | rfl | rfl | rfl | rfl | rfl | rfl | rfl | rfl | rfl <;> rfl) (by unfold maxLen; omega) (by omega) (Nat.le_trans hBw hal.size)
  have hv5 : ∃ A n' c', v5 = .slice A n' c' := by
    rcases hown5.2 with ⟨e, _⟩ | ⟨g, cap, cur, e, _⟩
    · exact ⟨_, _, _, e⟩
    · exact ⟨_, _, _, e⟩
  obtain ⟨A, n', c', rfl⟩ := hv5
  have hne : some rb ≠ (V f).ownBlock := fun e => h.ne f hf e.symm
  have hfv := fv_grown h1.fv hgr5 hne
  obtain ⟨A0, c0, hVf⟩ := h.form hf
  have hb5 : Below B (w2.alloc (.cells (REC x k).toArray 58)) w5 := Owg.grown_below' hgr5 (fun g e => ((h1.own f hf).lt g e).1) (Nat.le_trans hBw hal.size)
  refine ⟨A, n', c', w5, hrun, ⟨A0, _, c0, by rw [hfv.cell f hf, hVf]⟩, hfv.frozen f, h1.push hf hown5 hgr5 hat5, ?_⟩
  exact (hal.mono hBw).trans (hb5.trans ((Below.refl _ _).setCell hB _))
theorem below_cellv {C : Nat} {w w' : World} {a : Addr} {v : Value} (h : Below C w w') (ha : a.block < C) (hv : w.cell? a = some v) : w'.cell? a = some v := (h.cell ha).trans hv
theorem cell_far {w : World} {p a : Addr} {u : Value} (h : a.block ≠ p.block) : (w.setCell p u).cell? a = w.cell? a := World.cell?_of_block (Below.heap_setCell w p u a.block h)
/-- Arguments that are read. -/
structure Ar (w : World) (n m : Nat) (ok tla : Nat → Bool) (fr t kk : Nat → Int) (A1 A2 A3 A4 A5 A6 A7 : Option Addr) : Prop where
  a1 : Rs w A1 n (fun i => .bool (ok i))
  a2 : Rs w A2 n (fun i => .bool (tla i))
  a3 : Rs w A3 m (fun i => .int .u32 (fr i))
  a4 : Rs w A4 m (fun i => .int .u32 (t i))
  a5 : Rs w A5 m (fun i => .int .u8 (kk i))
  a6 : Rs w A6 n (fun _ => .string ByteArray.empty)
  a7 : Rs w A7 n (fun _ => .string ByteArray.empty)

theorem yields_build {P : Program} {ops : Array Oper} {S : World → Prop} {o : Oper} {a : Act} (t : TypeId) (parts : Array (Nat × Operand)) (ho : o.op = .build t parts) (hw : Region.wanted o (yielded ops a.tmps) = true) (cells : Array Value)
    (hf : P.built t (parts.map fun (i, x) => (i, a.eval x)).toList = some cells) : YieldsIf P ops S o (.agg cells) a := by
  refine .inl ⟨hw, fun w _ => ?_⟩
  unfold execOp
  simp only [ho, Sem.run_bind, run_build w t _ _ hf, Result.andThen_ok]
  rfl
theorem take_to {P : Program} {md : Region.Mode} {ops : Array Oper} {Q : Exit → Act → World → Prop} {S : World → Prop} {i : Nat} {oi : Oper} {d : Option Tmp} {v : Value} {fuel : Nat} {listed : Array Bool} {a : Act} {w : World} (hi : ops[i]? = some oi) (hd : oi.dst = d)
    (hs : Region.noSelect ops = true) (hf : Region.free md ops listed i = true) (hr : (Region.ready md ops listed).contains i = true)
    (hQ : ∀ c a w, Q (.panic c) (a.put d v) w → Q (.panic c) a w) (hy : YieldsIf P ops S oi v a) (hS : S w)
    (h : wpAnyH P md ops Q S fuel (listed.setIfInBounds i true) (a.put d v) w) : wpAnyH P md ops Q S (fuel + 1) listed a w := by
  subst hd
  exact wpAnyH_take hi hs hf hr hQ hy hS h
theorem step_box {P : Program} {ops : Array Oper} {o : Oper} {a : Act} {w : World} {K : Act → World → Prop} {Q : Exit → Act → World → Prop} {E : Prop} (hg : o.guard = none) (t : TypeId) (x : Operand) (hop : o.op = .box t x) (cells : Array Value) (hx : a.eval x = .agg cells) (d : Option Tmp) (hd : o.dst = d)
    (hK : K (a.put d (.pointer (some ⟨w.heap.size, 0, none⟩))) (w.alloc (.cells cells t))) : if Region.wanted o (yielded ops a.tmps) = true then Oper.wp P o a w K Q else E := by
  subst hd
  have hw : Region.wanted o (yielded ops a.tmps) = true := by simp [Region.wanted, hg]
  rw [if_pos hw]
  unfold Oper.wp
  have : (Instr.box t (.agg cells)).run P w = .ok (.pointer (some ⟨w.heap.size, 0, none⟩)) (w.alloc (.cells cells t)) := rfl
  simp [execOp, hop, hx, this, Result.andThen]
  exact hK
theorem step_store_rowat {P : Program} {ops : Array Oper} {o : Oper} {a : Act} {w : World} {K : Act → World → Prop} {Q : Exit → Act → World → Prop} {E : Prop} (hgd : o.guard = none) (ty : TypeId) (x y : Operand) (hop : o.op = .store ty x y) (g off : Nat) (cells : Array Value)
    (hx : a.eval x = .pointer (some ⟨g, off, none⟩)) (hy : a.eval y = .agg cells) (t : TypeId) (cur : Array Value) (hcur : w.heap[g]? = some (.cells cur t (0, 0))) (hi : (P.info? ty).map (·.size) = some cells.size) (hb : off + cells.size ≤ cur.size) (h1 : cells.all (·.oneCell') = true)
    (hd : o.dst = none)
    (hK : K a (w.setRow g (cur.toList.take off ++ cells.toList ++ cur.toList.drop (off + cells.size)).toArray)) : if Region.wanted o (yielded ops a.tmps) = true then Oper.wp P o a w K Q else E := by
  have hw : Region.wanted o (yielded ops a.tmps) = true := by simp [Region.wanted, hgd]
  rw [if_pos hw]
  have hst : (storeVar ty ⟨g, off, none⟩ (.agg cells)).run P w = .ok () (w.setRow g (cur.toList.take off ++ cells.toList ++ cur.toList.drop (off + cells.size)).toArray) := by
    have := run_storeCells_at (P := P) g off t cells.toList 0 cur w hcur (by simp; omega) (fun v hv => (Array.all_eq_true_iff_forall_mem.1 h1) v (by simpa using hv))
    cases hq : P.info? ty with
    | none => simp [hq] at hi
    | some i =>
      have hs : cells.size = i.size := by simp [hq] at hi; omega
      simp [storeVar, sizeOf, typeInfo, hq, Value.cells, hs]
      simpa [hs] using this
  unfold Oper.wp execOp
  simp only [hop, hx, hy, Instr.storeAt, Instr.sureAddr, Sem.run_bind, Sem.run_pure, Result.andThen_ok, hst]
  show K (a.put o.dst undef) _
  rw [hd]
  exact hK
def es : Value := .string ByteArray.empty
def c63 (i : Nat) : Array Value := #[.string ByteArray.empty, .string ByteArray.empty, .string ByteArray.empty, .string ByteArray.empty, .string ByteArray.empty, .string ByteArray.empty, .string ByteArray.empty, .string ByteArray.empty, .int .u8 0, .int .u32 (i : Int)]
noncomputable def c93 (A : Option Addr) (n c : Nat) (aw : Int) : Array Value := (Tryz.prog.built 93 [(22, .agg #[.int .i32 0, .int .i32 aw]), (15, .slice A n c)]).getD #[]
noncomputable def c104 (A : Option Addr) (n c : Nat) (aw : Int) : Array Value := (Tryz.prog.built 104 [(1, .agg (c93 A n c aw))]).getD #[]
noncomputable def c115 (i p : Nat) : Array Value := (Tryz.prog.built 115 [(5, .agg (c63 i)), (0, .iface 64 (.pointer (some ⟨p, 0, none⟩)))]).getD #[]
noncomputable def c117 (i p : Nat) : Array Value := (Tryz.prog.built 117 [(2, .agg (c115 i p))]).getD #[]
noncomputable def c123 (ok : Bool) (i p : Nat) : Array Value := (Tryz.prog.built 123 [(4, .bool ok), (2, .agg (c117 i p))]).getD #[]
theorem c104_35 (A : Option Addr) (n c : Nat) (aw : Int) : (c104 A n c aw)[35]? = some (.slice A n c) ∧ (c104 A n c aw)[47]? = some (.int .i32 aw) := ⟨by kernel_rfl, by kernel_rfl⟩
theorem c123_size (ok : Bool) (i p : Nat) : (c123 ok i p).size = 27 ∧ (c123 ok i p).all (·.oneCell') = true := ⟨by kernel_rfl, by kernel_rfl⟩
theorem c123_at (ok : Bool) (i p : Nat) : (c123 ok i p)[4]? = some (.iface 64 (.pointer (some ⟨p, 0, none⟩))) ∧ (c123 ok i p)[22]? = some (.int .u32 0) ∧ (c123 ok i p)[23]? = some (.int .u32 0) ∧ (c123 ok i p)[24]? = some (.int .u32 0) ∧ (c123 ok i p)[25]? = some (.int .u32 0) ∧ (c123 ok i p)[26]? = some (.bool ok) :=
  ⟨by kernel_rfl, by kernel_rfl, by kernel_rfl, by kernel_rfl, by kernel_rfl, by kernel_rfl⟩
theorem size123c {ok : Bool} {i p : Nat} : (Tryz.prog.info? 123).map (·.size) = some (c123 ok i p).size := by rw [(c123_size ok i p).1]; kernel_rfl
theorem size123 : (Tryz.prog.info? 123).map (·.size) = some 27 := by kernel_rfl
noncomputable def z123 : Value := ((Tryz.prog.info? 123).bind (·.zero)).getD undef
theorem info123 : (Tryz.prog.info? 123).map (fun i => (i.zero, i.size, i.bytes)) = some (some z123, 27, 320) := by kernel_rfl
theorem z123_size : z123.cells.size = 27 := by kernel_rfl
theorem run_make_wide {P : Program} (t e : TypeId) (z : Value) (size bytes : Nat) (cs : Array Value) (ht : P.underlying t = some (.slice e)) (hinfo : (P.info? e).map (fun i => (i.zero, i.size, i.bytes)) = some (some z, size, bytes)) (hz1 : z.cells = cs)
    (kl kc : IntKind) (n : Nat) (hbytes : bytes * n ≤ 281474976710656) (h63 : n ≤ 9223372036854775807) (w : World) :
    (Instr.makeSlice t (.int kl (n : Int)) (.int kc (n : Int))).run P w = .ok (.slice (some ⟨w.heap.size, 0, none⟩) n n) (w.alloc (.cells (madeCells cs (n * size)) e)) := by
  obtain ⟨i, hi, hzz⟩ := Option.map_eq_some_iff.1 hinfo
  simp only [Prod.mk.injEq] at hzz
  obtain ⟨hz, hs, hb⟩ := hzz
  have hb' : (i.bytes : Int) * (n : Int) ≤ 281474976710656 := by
    have h : ((i.bytes * n : Nat) : Int) ≤ 281474976710656 := by rw [hb]; omega
    rwa [Int.natCast_mul] at h
  have hr := run_make (P := P) w t e i z ht hi hz kl kc n n (by omega) (Int.le_refl _) hb' (by omega)
  simp only [Int.toNat_natCast, hs, hz1] at hr
  exact hr
/-- The results: the first i rows are laid. -/
def Res (w : World) (R n : Nat) (ok : Nat → Bool) (i : Nat) (ri : Nat → Nat) : Prop := ∃ cur : Array Value, w.heap[R]? = some (.cells cur 123 (0, 0)) ∧ cur.size = n * 27 ∧ ∀ j, j < i → cur[j * 27 + 4]? = some (.iface 64 (.pointer (some ⟨ri j, 0, none⟩))) ∧ cur[j * 27 + 22]? = some (.int .u32 0) ∧ cur[j * 27 + 23]? = some (.int .u32 0) ∧
  cur[j * 27 + 24]? = some (.int .u32 0) ∧ cur[j * 27 + 25]? = some (.int .u32 0) ∧ cur[j * 27 + 26]? = some (.bool (ok j))
def awl (b : Bool) : Int := if b = true then 5 else 0
structure Rep (w : World) (b : Nat) (v : Value) (aw : Int) : Prop where
  lt : b < w.heap.size
  c35 : w.cell? ⟨b, 35, none⟩ = some v
  c47 : w.cell? ⟨b, 47, none⟩ = some (.int .i32 aw)
theorem res_step {w : World} {R n i : Nat} {ok : Nat → Bool} {ri : Nat → Nat} {cur : Array Value} (hs : cur.size = n * 27) (hi : i < n) (h : ∀ j, j < i → cur[j * 27 + 4]? = some (.iface 64 (.pointer (some ⟨ri j, 0, none⟩))) ∧ cur[j * 27 + 22]? = some (.int .u32 0) ∧ cur[j * 27 + 23]? = some (.int .u32 0) ∧
    cur[j * 27 + 24]? = some (.int .u32 0) ∧ cur[j * 27 + 25]? = some (.int .u32 0) ∧ cur[j * 27 + 26]? = some (.bool (ok j))) (p : Nat) (hw : w.heap[R]? = some (.cells cur 123 (0, 0))) :
    Res (w.setRow R (cur.toList.take (i * 27) ++ (c123 (ok i) i p).toList ++ cur.toList.drop (i * 27 + (c123 (ok i) i p).size)).toArray) R n ok (i + 1) (up ri i p) := by
  have hsz := (c123_size (ok i) i p).1
  refine ⟨_, setRow_heap w R cur _ 123 (0, 0) hw, ?_, fun j hj => ?_⟩
  · simp [hsz]; omega
  · have hat : ∀ c, c < 27 → (cur.toList.take (i * 27) ++ (c123 (ok i) i p).toList ++ cur.toList.drop (i * 27 + (c123 (ok i) i p).size)).toArray[j * 27 + c]? = if j = i then (c123 (ok i) i p)[c]? else cur[j * 27 + c]? := by
      intro c hc
      simp only [List.getElem?_toArray]
      by_cases e : j = i
      · subst e
        rw [if_pos rfl, List.append_assoc, List.getElem?_append_right (by simp; omega), List.getElem?_append_left (by simp; omega)]
        simp [show min (j * 27) cur.size = j * 27 by omega]
      · rw [if_neg e, List.append_assoc, List.getElem?_append_left (by simp; omega), List.getElem?_take, if_pos (by omega)]
        simp
    obtain ⟨q1, q2, q3, q4, q5, q6⟩ := c123_at (ok i) i p
    by_cases e : j = i
    · subst e
      rw [up_self]
      exact ⟨(hat 4 (by omega)).trans ((if_pos rfl).trans q1), (hat 22 (by omega)).trans ((if_pos rfl).trans q2), (hat 23 (by omega)).trans ((if_pos rfl).trans q3), (hat 24 (by omega)).trans ((if_pos rfl).trans q4), (hat 25 (by omega)).trans ((if_pos rfl).trans q5), (hat 26 (by omega)).trans ((if_pos rfl).trans q6)⟩
    · rw [up_ne _ _ e]
      obtain ⟨r1, r2, r3, r4, r5, r6⟩ := h j (by omega)
      exact ⟨(hat 4 (by omega)).trans ((if_neg e).trans r1), (hat 22 (by omega)).trans ((if_neg e).trans r2), (hat 23 (by omega)).trans ((if_neg e).trans r3), (hat 24 (by omega)).trans ((if_neg e).trans r4), (hat 25 (by omega)).trans ((if_neg e).trans r5), (hat 26 (by omega)).trans ((if_neg e).trans r6)⟩

theorem next15 {wr w2 : World} {n i : Nat} {ok tla : Nat → Bool} {ri : Nat → Nat} {V : Nat → Value} (hb : Below wr.heap.size wr w2) (hi : i < n) {cur : Array Value} (hcur : w2.heap[wr.heap.size]? = some (.cells cur 123 (0, 0))) (hsz : cur.size = n * 27)
    (hrows : ∀ j, j < i → cur[j * 27 + 4]? = some (.iface 64 (.pointer (some ⟨ri j, 0, none⟩))) ∧ cur[j * 27 + 22]? = some (.int .u32 0) ∧ cur[j * 27 + 23]? = some (.int .u32 0) ∧ cur[j * 27 + 24]? = some (.int .u32 0) ∧ cur[j * 27 + 25]? = some (.int .u32 0) ∧ cur[j * 27 + 26]? = some (.bool (ok j)))
    (hrep : ∀ j, j < i → wr.heap.size < ri j ∧ Rep w2 (ri j) (V j) (awl (tla j))) {A : Option Addr} {len c : Nat} {aw : Int} {o : Bool} (hV : V i = .slice A len c) (haw : awl (tla i) = aw) (ho : ok i = o) {W : World}
    (hW : W = (w2.drew.alloc (.cells (c104 A len c aw) 104)).setRow wr.heap.size (cur.toList.take (i * 27) ++ (c123 o i w2.heap.size).toList ++ cur.toList.drop (i * 27 + (c123 o i w2.heap.size).size)).toArray) :
    Below wr.heap.size wr W ∧ Res W wr.heap.size n ok (i + 1) (up ri i w2.heap.size) ∧ ∀ j, j < i + 1 → wr.heap.size < up ri i w2.heap.size j ∧ Rep W (up ri i w2.heap.size j) (V j) (awl (tla j)) := by
  subst ho haw
  have hR : wr.heap.size < w2.heap.size := (Array.getElem?_eq_some_iff.1 hcur).1
  have hal : Below w2.heap.size w2 (w2.drew.alloc (.cells (c104 A len c (awl (tla i))) 104)) := (Below.refl _ _).drew.alloc (Nat.le_refl _) _
  have hbW : Below wr.heap.size wr W := by
    rw [hW]
    exact below_setRow (hb.trans (hal.mono (Nat.le_of_lt hR))) (Nat.le_refl _) _
  have hcur3 : (w2.drew.alloc (.cells (c104 A len c (awl (tla i))) 104)).heap[wr.heap.size]? = some (.cells cur 123 (0, 0)) := (hal.block _ hR).trans hcur
  have hother : ∀ g, g ≠ wr.heap.size → W.heap[g]? = (w2.drew.alloc (.cells (c104 A len c (awl (tla i))) 104)).heap[g]? := fun g hg => by rw [hW]; exact setRow_other _ _ _ _ hg
  have hsize : W.heap.size = w2.heap.size + 1 := by rw [hW]; simp
  refine ⟨hbW, by rw [hW]; exact res_step hsz hi hrows _ hcur3, fun j hj => ?_⟩
  by_cases e : j = i
  · subst e
    rw [up_self]
    refine ⟨hR, ?_⟩
    have hr := Row.newArr w2.drew 104 (c104 A len c (awl (tla j)))
    have hcell : ∀ o, W.cell? ⟨w2.heap.size, o, none⟩ = (c104 A len c (awl (tla j)))[o]? := fun o => by
      rw [World.cell?_of_block (a := ⟨w2.heap.size, o, none⟩) (hother w2.heap.size (by omega))]
      have := hr.cell o
      simp only [Array.getElem?_toList] at this
      exact this
    exact ⟨by omega, by rw [hcell, hV]; exact (c104_35 A len c _).1, by rw [hcell]; exact (c104_35 A len c _).2⟩
  · rw [up_ne _ _ e]
    obtain ⟨h1, h2, h3, h4⟩ := hrep j (by omega)
    have hc : ∀ o, W.cell? ⟨ri j, o, none⟩ = w2.cell? ⟨ri j, o, none⟩ := fun o => by
      rw [World.cell?_of_block (a := ⟨ri j, o, none⟩) (hother (ri j) (by omega))]
      exact World.cell?_of_block (a := ⟨ri j, o, none⟩) (hal.block _ h2)
    exact ⟨h1, by omega, by rw [hc]; exact h3, by rw [hc]; exact h4⟩
theorem res_start (wr : World) (zc : Array Value) (n : Nat) (ok : Nat → Bool) (ri : Nat → Nat) : Res (wr.alloc (.cells (madeCells zc (n * 27)) 123)) wr.heap.size n ok 0 ri :=
  ⟨_, heap_alloc_new wr _, by simp [madeCells], fun j hj => absurd hj (Nat.not_lt_zero j)⟩
def raOf : Value → Option Addr | .slice A _ _ => A | _ => none
def rcOf : Value → Nat | .slice _ _ c => c | _ => 0
/-- The graph that was built. -/
def shOf (S R n : Nat) (ok tla : Nat → Bool) (ri : Nat → Nat) (V : Nat → Value) (L : Nat → List (Int × Int)) : Sh :=
  ⟨S, R, n, ok, tla, ri, fun i => raOf (V i), fun i => (L i).length, fun i => rcOf (V i), fun i j => ((L i).getD j (0, 0)).1, fun i j => ((L i).getD j (0, 0)).2⟩
theorem fine_of {S R n m : Nat} {ok tla : Nat → Bool} {ri : Nat → Nat} {V : Nat → Value} {fr t kk : Nat → Int} (hn : n ≤ 256) (hm : m ≤ 4096) (ht : ∀ i, i < m → 0 ≤ t i ∧ t i < n) (hk : ∀ i, i < m → 1 ≤ kk i ∧ kk i ≤ 3) : Fine (shOf S R n ok tla ri V (Ls fr t kk m)) := by
  have hmem : ∀ i j, j < (Ls fr t kk m i).length → ∃ e, e < m ∧ (Ls fr t kk m i).getD j (0, 0) = (4294967295 - t e, kk e) := fun i j hj => by
    have : (Ls fr t kk m i).getD j (0, 0) ∈ Ls fr t kk m i := by simp [List.getD, hj]
    exact ls_mem this
  refine ⟨hn, fun i _ => by have := ls_len fr t kk m i; show (Ls fr t kk m i).length ≤ 4096; omega, fun i hi j hj => ?_, fun i hi j hj => ?_⟩
  · obtain ⟨e, he, h⟩ := hmem i j hj
    obtain ⟨t0, t1⟩ := ht e he
    refine ⟨(t e).toNat, by show (t e).toNat < n; omega, ?_⟩
    show ((Ls fr t kk m i).getD j (0, 0)).1 = _
    rw [h]
    show 4294967295 - t e = _
    omega
  · obtain ⟨e, he, h⟩ := hmem i j hj
    show 1 ≤ ((Ls fr t kk m i).getD j (0, 0)).2 ∧ ((Ls fr t kk m i).getD j (0, 0)).2 ≤ 3
    rw [h]
    exact hk e he
theorem gr_of {wr w5 : World} {S n B rb : Nat} {ok tla : Nat → Bool} {ri : Nat → Nat} {V : Nat → Value} {L : Nat → List (Int × Int)} (hf : Fam wr B 58 rb n V L) (hb : Below wr.heap.size wr w5) (hres : Res w5 wr.heap.size n ok n ri) (hrep : ∀ j, j < n → wr.heap.size < ri j ∧ Rep w5 (ri j) (V j) (awl (tla j)))
    (hS : w5.cell? ⟨S, 11, none⟩ = some (.slice (some ⟨wr.heap.size, 0, none⟩) n n)) (hSR : S ≠ wr.heap.size) (hSl : S < w5.heap.size) : Gr (shOf S wr.heap.size n ok tla ri V L) w5.heap.size w5 := by
  obtain ⟨cur, hcur, hsz, hrows⟩ := hres
  have hRl : wr.heap.size < w5.heap.size := (Array.getElem?_eq_some_iff.1 hcur).1
  have hcell : ∀ o, w5.cell? ⟨wr.heap.size, o, none⟩ = cur[o]? := fun o => cell_of_row w5 wr.heap.size o cur 123 (0, 0) hcur
  refine ⟨hS, ⟨hSl, hSR⟩, fun i hi => (hcell _).trans (hrows i hi).2.2.2.2.2, fun i hi => (hcell _).trans (hrows i hi).1, fun i hi => ⟨(hrep i hi).2.lt, Nat.ne_of_gt (hrep i hi).1⟩, fun i hi => (hrep i hi).2.c47, fun i hi => ?_, fun i hi j hj => ?_, hRl⟩
  · obtain ⟨A, c, hV⟩ := hf.form hi
    have h9 := (hrep i hi).2.c35
    show w5.cell? ⟨ri i, 35, none⟩ = some (.slice (raOf (V i)) (L i).length (rcOf (V i)))
    rw [h9, hV]
    rfl
  · have hj' : j < (L i).length := hj
    obtain ⟨b, c0, hV, hbB, hbl, hc⟩ := hf.rec_ hi hj'
    refine ⟨b, 0, ?_, Nat.lt_trans hbl hRl, Nat.ne_of_lt hbl, fun c v hv => ?_⟩
    · show raOf (V i) = _
      rw [hV]; rfl
    · have e : (L i).getD j (0, 0) = (L i)[j] := by simp [List.getD, hj']
      have hv' : (REC (L i)[j].1 (L i)[j].2)[c]? = some v := by rw [← e]; exact hv
      exact (hb.cell (p := ⟨b, 0 + j * 15 + c, none⟩) hbl).trans (hc c v hv')
theorem rows_of {w5 : World} {R n : Nat} {ok : Nat → Bool} {ri : Nat → Nat} (hres : Res w5 R n ok n ri) : (∀ i, i < n → w5.cell? ⟨R, i * 27 + 22, none⟩ = some (.int .u32 0) ∧ w5.cell? ⟨R, i * 27 + 23, none⟩ = some (.int .u32 0) ∧ w5.cell? ⟨R, i * 27 + 24, none⟩ = some (.int .u32 0) ∧ w5.cell? ⟨R, i * 27 + 25, none⟩ = some (.int .u32 0)) ∧ ∀ o, w5.frozen? ⟨R, o, none⟩ = false := by
  obtain ⟨cur, hcur, hsz, hrows⟩ := hres
  have hcell : ∀ o, w5.cell? ⟨R, o, none⟩ = cur[o]? := fun o => cell_of_row w5 R o cur 123 (0, 0) hcur
  exact ⟨fun i hi => ⟨(hcell _).trans (hrows i hi).2.1, (hcell _).trans (hrows i hi).2.2.1, (hcell _).trans (hrows i hi).2.2.2.1, (hcell _).trans (hrows i hi).2.2.2.2.1⟩, fun o => by simp [World.frozen?, hcur]⟩
end Go.Proofs.YtbcplamfejihjaaGreat.TlN
