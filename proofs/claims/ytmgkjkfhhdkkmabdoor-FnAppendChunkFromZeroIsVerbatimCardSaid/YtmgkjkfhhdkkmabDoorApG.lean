/- FnAppendChunkFromZeroIsVerbatim: Repeat. -/
import Derived.Test.YtmgkjkfhhdkkmabDoorRows
import Derived.Test.YtmgkjkfhhdkkmabDoorMem
import Derived.Test.YtmgkjkfhhdkkmabDoorSl
import Derived.Test.YtmgkjkfhhdkkmabDoorApF
import Derived.Test.YtmgkjkfhhdkkmabDoorShelf
import Derived.Lib.MakeNoZero
import Derived.Deep.RegionLaw
import Derived.Deep.DeepCutAuto
import Derived.Laws.CopyOwn
import Derived.Laws.Externs
import Derived.Deep.RegionHeld3
import Derived.WalkKit
import Derived.ProofKit
import Derived.OpenShut
import Derived.Below
import Derived.WalkLawsBesides
import Derived.Lib.Hide
import Derived.Outline
import Derived.RegionTactic
import Derived.Deep.QuietTactic
import Derived.BigQuiet
import Derived.WalkSpells
import Derived.Deep.OwnRows
import Derived.IntWalk
import Derived.Deep.DeepMust
namespace Go.Proofs.YtmgkjkfhhdkkmabDoor.ApG
open Go.RowKit Mem Sl
set_option linter.unusedVariables false
open Own Vq ApA ApJ ApE ApF Args

/-- n times the byte 59 in a new block. -/
def Rep (w : World) (n : Nat) (e : Ending) (w' : World) : Prop := ∃ x, e = .returned x ∧ Pc w' x (List.replicate n 59) ∧ Below w.heap.size w w'
def semis (n : Nat) : List Value := List.replicate n (.int .u8 59)
/-- The block while it is filled. -/
def Fill (w : World) (n b : Nat) (wr : World) : Prop := ∃ xs : List Value, wr.heap[w.heap.size]? = some (.cells xs.toArray 5 (0, 0)) ∧ xs.take b = semis b ∧ n ≤ xs.length ∧ b ≤ n ∧ Below w.heap.size w wr
theorem fill_end {w wr : World} {n : Nat} (h : Fill w n n wr) (hm : n ≤ 100000000) : Pc wr (.slice (some ⟨w.heap.size, 0, none⟩) n n) (List.replicate n 59) := by
  obtain ⟨xs, h1, h2, h3, _, _⟩ := h
  refine ⟨some ⟨w.heap.size, 0, none⟩, n, by simp, by simp, by unfold maxLen; omega, fun z hz => by rw [List.eq_of_mem_replicate hz]; rfl, (fun h => by cases h), fun _ => ⟨w.heap.size, 0, xs.toArray, rfl, h1, fun i hi => ?_⟩⟩
  have hi' : i < n := by simpa using hi
  have h4 : (xs.take n)[i]? = (semis n)[i]? := by rw [h2]
  rw [List.getElem?_take, if_pos hi'] at h4
  simp only [Nat.zero_add, List.getElem?_toArray]
  rw [h4]
  simp [semis, List.getD, hi']
theorem fill_splice {xs : List Value} {b c : Nat} (h : xs.take b = semis b) (hb : b + c ≤ xs.length) : (splice xs b (semis c)).take (b + c) = semis (b + c) := by
  unfold splice
  rw [h, ← List.append_assoc]
  have e : semis b ++ semis c = semis (b + c) := by simp [semis]
  rw [e, List.take_left' (by simp [semis])]
theorem semis_cell {xs : List Value} {b i : Nat} (h : xs.take b = semis b) (hi : i < b) : xs[i]? = some (.int .u8 59) := by
  have h4 : (xs.take b)[i]? = (semis b)[i]? := by rw [h]
  rw [List.getElem?_take, if_pos hi] at h4
  rw [h4]
  simp [semis, hi]
theorem step_copy_run {P : Program} {ops : Array Oper} {o : Oper} {a : Act} {w : World} {K : Act → World → Prop} {Q : Exit → Act → World → Prop} {E : Prop}
    (hg : o.guard = none) (s x : Operand) (t u : TypeId) (hop : o.op = Op.call { callee := Callee.builtin Builtin.copy, args := #[s, x], argTypes := #[t, u] })
    (vs vx v : Value) (W : World) (hs : a.eval s = vs) (hx : a.eval x = vx) (hrun : (Builtin.copy_ #[t, u] o.type #[vs, vx]).run P w = .ok v W) (hK : K (a.put o.dst v) W) :
    if Region.wanted o (yielded ops a.tmps) = true then Oper.wp P o a w K Q else E := by
  have hw : Region.wanted o (yielded ops a.tmps) = true := by simp [Region.wanted, hg]
  rw [if_pos hw]
  unfold Oper.wp
  simp [execOp, hop, resolve, invoke, builtin, hs, hx, hrun, Result.andThen]
  exact hK
/-- One copy within the block. -/
theorem fill_copy {w wr : World} {n b : Nat} (h : Fill w n b wr) (hb1 : 1 ≤ b) (hlt : b < n) : ∃ (c : Nat) (W : World), 1 ≤ c ∧ b + c ≤ n ∧
    (Builtin.copy_ #[23, 23] 3 #[.slice (some ⟨w.heap.size, b, none⟩) (n - b) (n - b), .slice (some ⟨w.heap.size, 0, none⟩) b n]).run Tryd.prog wr.drew = .ok (.int .i64 (c : Int)) W ∧ Fill w n (b + c) W := by
  obtain ⟨xs, x1, x2, x3, hbn, x5⟩ := h
  obtain ⟨c, hc⟩ : ∃ c, c = Nat.min b (n - b) := ⟨_, rfl⟩
  have hcb : c ≤ b ∧ c ≤ n - b ∧ 1 ≤ c := by
    rw [hc]
    exact ⟨Nat.min_le_left _ _, Nat.min_le_right _ _, Nat.le_min.2 ⟨hb1, by omega⟩⟩
  have hX1 : wr.drew.heap[w.heap.size]? = some (.cells xs.toArray 5 (0, 0)) := x1
  have hrun := run_copy_row (P := Tryd.prog) wr.drew 23 23 3 5 w.heap.size b (n - b) (n - b) ⟨w.heap.size, 0, none⟩ b n xs.toArray 5 (semis c) Tryd.underlying23 sz5 hX1 (by rw [← hc]; simp [semis])
    (fun i v hv => by
      have hi : i < c := by have := (List.getElem?_eq_some_iff.1 hv).1; simpa [semis] using this
      have hadd : (⟨w.heap.size, 0, none⟩ : Addr).add i = ⟨w.heap.size, i, none⟩ := by unfold Addr.add; split <;> simp_all
      rw [hadd, cell_of_row wr.drew w.heap.size i xs.toArray 5 (0, 0) hX1]
      simp only [List.getElem?_toArray]
      rw [semis_cell x2 (by omega)]
      have hv' : (semis c)[i]? = some (.int .u8 59) := by simp [semis, hi]
      rw [hv'] at hv
      exact hv) (by simp [semis]; omega) (fun v hv => by rw [List.eq_of_mem_replicate hv]; rfl)
  have hsl : (semis c).length = c := by simp [semis]
  refine ⟨c, _, hcb.2.2, by omega, by rw [hrun, hsl]; rfl, splice xs b (semis c), ?_, fill_splice x2 (by omega), ?_, by omega, below_setRow x5.drew (Nat.le_refl _) _⟩
  · have := setRow_heap wr.drew w.heap.size xs.toArray (xs.toArray.toList.take b ++ (semis c ++ xs.toArray.toList.drop (b + (semis c).length))).toArray 5 (0, 0) hX1
    simpa [splice, hsl] using this
  · rw [length_splice _ _ _ (by rw [hsl]; omega)]; exact x3
set_option maxRecDepth 100000 in
set_option maxHeartbeats 8000000 in
theorem rep15 (g : Nat) (n : Nat) (w : World) (hg : w.cell? ⟨g, 0, none⟩ = some (.int .u8 59)) (hgl : g < w.heap.size) (h0 : 0 < n) (h1 : n ≤ 4096) :
    Calls Tryd.prog 15 #[.slice (some ⟨g, 0, none⟩) 1 1, .int .i64 (n : Int)] w (Rep w n) := by
  have t0 : ((n : Int) == 0) = false := by simp; omega
  have HM := Lib.hid (show Calls Tryd.prog 25 #[.int .u64 1, .int .u64 (n : Int)] w fun e w' => e = .returned (.tuple #[.int .u64 0, .int .u64 (n : Int)]) ∧ w = w' by
    have h := Tryd.bits_Mul 1 n (by omega) (by omega) w
    rw [show 1 * n / 18446744073709551616 = 0 by omega, show 1 * n % 18446744073709551616 = n by omega] at h
    exact h.mono fun _ _ ⟨a, b⟩ => ⟨a, b.symm⟩)
  obtain ⟨cs, hrun, hle, hmax⟩ := Lib.run_makeNoZero (P := Tryd.prog) w #[3] 23 5 Tryd.underlying23 n (by omega)
  have hcall : (callFunc 26 #[.int .i64 (n : Int)]).run Tryd.prog w = .ok (.value (.slice (some ⟨w.heap.size, 0, none⟩) n cs.size)) (w.drew.drew.alloc (.cells cs 5)) := by
    rw [run_callFunc_extern Tryd.func26 (by kernel_rfl) (by kernel_rfl) (by kernel_rfl) (e := Extern.BytealgMakeNoZero.makeNoZero #[3] #[23]) (by kernel_rfl), hrun]
    rfl
  have hcap := hmax (by unfold maxLen; omega)
  have HG := Lib.hid hg
  have HCA := Lib.hid hcall
  clear hrun hmax hg hcall
  unfold maxLen at hcap
  go_enter Tryd.func15, Tryd.ntmps15
  go_wp2_with (go_at_call 25; (with_reducible refine HM.out.mono ?_); rintro e w1 ⟨rfl, rfl⟩)
  rw [HCA.out]
  try simp only [Result.andThen]
  rw [Oper.upon_value]
  have hnew : (w.alloc (.cells cs 5)).drew.drew.heap[w.heap.size]? = some (.cells cs.toList.toArray 5 (0, 0)) := heap_alloc_new w _
  have hb2 : Below w.heap.size w (w.alloc (.cells cs 5)).drew.drew := (((Below.refl _ _).alloc (Nat.le_refl _) _).drew).drew
  have HNEW := Lib.hid hnew
  have HB2 := Lib.hid hb2
  have HCS := Lib.hid (show ∀ i v, (semis 1)[i]? = some v → (w.alloc (.cells cs 5)).drew.drew.cell? ((⟨g, 0, none⟩ : Addr).add i) = some v from fun i v hv => by
    have hi : i = 0 := by have := (List.getElem?_eq_some_iff.1 hv).1; simp [semis] at this; exact this
    subst hi
    simp [semis] at hv
    subst hv
    exact (hb2.cell (p := ⟨g, 0, none⟩) hgl).trans HG.out)
  have HL := Lib.hid hle
  have HONE := Lib.hid (fun (m : Nat) => show ∀ v ∈ semis m, v.oneCell' = true from fun v hv => by rw [List.eq_of_mem_replicate hv]; rfl)
  have HN1 := Lib.hid (show (semis 1).length = Nat.min 1 n from (Nat.min_eq_left (show 1 ≤ n by omega)).symm)
  have HFT1 := Lib.hid (show 0 + (semis 1).length ≤ cs.toList.length by have := HL.out; show 0 + 1 ≤ cs.toList.length; rw [Array.length_toList]; omega)
  have HP1 := Lib.hid (show 0 < (semis 1).length → (some ⟨w.heap.size, 0, none⟩ : Option Addr) = some ⟨w.heap.size, 0, none⟩ ∧ ∃ ad, (some ⟨g, 0, none⟩ : Option Addr) = some ad ∧ ∀ i v, (semis 1)[i]? = some v → (w.alloc (.cells cs 5)).drew.drew.cell? (ad.add i) = some v from fun _ => ⟨rfl, _, rfl, HCS.out⟩)
  clear hnew hb2 HCA
  go_wp2_with (refine wpList_copy_splice rfl (.tmp 58) (.tmp 59) 23 23 rfl 5 Tryd.underlying23 sz5 (some ⟨w.heap.size, 0, none⟩) (some ⟨g, 0, none⟩) n n 1 1 rfl rfl w.heap.size 0 cs.toList 5 HNEW.out (semis 1) HN1.out HP1.out HFT1.out (HONE.out 1) w.heap.size w HB2.out (Nat.le_refl _) ?_; intro w4 hg4 hb4; have HB4 := Lib.hid hb4; clear hb4)
  have hf1 : Fill w n 1 w4 := ⟨_, hg4.out, by have := fill_splice (xs := cs.toList) (b := 0) (c := 1) (by simp [semis]) HFT1.out; simpa using this, by rw [length_splice _ _ _ HFT1.out]; simpa using HL.out, by omega, HB4.out⟩
  have HF1 := Lib.hid hf1
  clear hf1
  go_loopw [10] (fun x10 wr => ∃ b : Nat, 1 ≤ b ∧ x10 = .int .i64 (b : Int) ∧ Fill w n b wr) (fun x10 _ => n - (intOf x10).toNat)
  case atStart => exact ⟨1, by omega, by simp [semis], HF1.out⟩
  case round =>
    obtain ⟨b, hb1, rfl, hfill⟩ := hrel
    have HF := Lib.hid hfill
    have hbn : b ≤ n := by obtain ⟨_, _, _, _, h, _⟩ := hfill; exact h
    have HBL := Lib.hid (show Below w.heap.size w wr by obtain ⟨_, _, _, _, _, h⟩ := hfill; exact h)
    clear hfill
    by_cases hlt : b < n
    · obtain ⟨c, W6, hc1, hcn, hrun, hf6⟩ := fill_copy HF.out hb1 hlt
      have HRUN := Lib.hid hrun
      have HF6 := Lib.hid hf6
      have tm : min (b : Int) (n : Int) = (b : Int) := by omega
      have tn : ¬ n = b := by omega
      have hwr : IntKind.i64.wrap ((b : Int) + (c : Int)) = (b : Int) + (c : Int) := IntWalk.i64_in _ (by omega)
      clear hrun hf6
      go_wp2_with fail
      have j0 : (0 : Int) ≤ (b : Int) := by omega
      have j1 : (b : Int) ≤ (n : Int) := by omega
      go_region_held3 (fun _ => True) (trivial) ((refine step_copy_run rfl _ _ 23 23 rfl _ _ _ W6 rfl rfl HRUN.out ?_))
      all_goals
        clear hwr tm tn HRUN
        go_wp2_with fail
        go_roundw
        case rel => exact ⟨b + c, by omega, congrArg (Value.int .i64) (by omega), HF6.out⟩
        case measure => simp [intOf]; omega
    · obtain rfl : b = n := by omega
      have HE := Lib.hid (fill_end HF.out (by omega))
      have HE2 := HBL
      go_wp2_with fail
      go_ret
      exact ⟨_, rfl, HE.out, HE2.out⟩
end Go.Proofs.YtmgkjkfhhdkkmabDoor.ApG
