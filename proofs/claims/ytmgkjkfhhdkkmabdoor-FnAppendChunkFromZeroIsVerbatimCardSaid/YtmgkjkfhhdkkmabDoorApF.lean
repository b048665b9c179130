/- FnAppendChunkFromZeroIsVerbatim: Done. -/
import Derived.Test.YtmgkjkfhhdkkmabDoorRows
import Derived.Test.YtmgkjkfhhdkkmabDoorMem
import Derived.Test.YtmgkjkfhhdkkmabDoorSl
import Derived.Test.YtmgkjkfhhdkkmabDoorApE
import Derived.Deep.RegionLaw
import Derived.Deep.DeepCutAuto
import Derived.Laws.CopyOwn
import Derived.WalkKit
import Derived.ProofKit
import Derived.OpenShut
import Derived.Below
import Derived.WalkLawsBesides
import Derived.Lib.Hide
import Derived.Outline
import Derived.RegionTactic
import Derived.Deep.QuietTactic
import Derived.BigQuiet
import Derived.WalkSpells
import Derived.Deep.OwnRows
import Derived.IntWalk
import Derived.Deep.DeepMust
namespace Go.Proofs.YtmgkjkfhhdkkmabDoor.ApF
open Go.RowKit Mem Sl
set_option linter.unusedVariables false
open Own Vq ApA ApJ ApE Args

/-- The pieces with their offsets. -/
def segsOf : Nat → List (Value × List Int) → List (Value × Nat)
  | _, [] => []
  | o, p :: r => (p.1, o) :: segsOf (o + p.2.length) r
def flat (ps : List (Value × List Int)) : List Int := ps.flatMap (·.2)
theorem flat_snoc (ps : List (Value × List Int)) (x : Value) (zs : List Int) : flat (ps ++ [(x, zs)]) = flat ps ++ zs := by simp [flat]
theorem segs_len : ∀ (o : Nat) (ps : List (Value × List Int)), (segsOf o ps).length = ps.length
  | _, [] => rfl
  | o, p :: r => by simp [segsOf, segs_len]
theorem segs_snoc : ∀ (o : Nat) (ps : List (Value × List Int)) (x : Value) (zs : List Int), segsOf o (ps ++ [(x, zs)]) = segsOf o ps ++ [(x, o + (flat ps).length)]
  | o, [], x, zs => by simp [segsOf, flat]
  | o, p :: r, x, zs => by
    have := segs_snoc (o + p.2.length) r x zs
    simp only [List.cons_append, segsOf, this, flat, List.flatMap_cons, List.length_append]
    rw [Nat.add_assoc]
theorem segs_at : ∀ (o : Nat) (ps : List (Value × List Int)) (k : Nat) (p : Value × List Int), ps[k]? = some p → (segsOf o ps)[k]? = some (p.1, o + (flat (ps.take k)).length)
  | o, [], k, p, h => by simp at h
  | o, q :: r, 0, p, h => by simp at h; subst h; simp [segsOf, flat]
  | o, q :: r, k + 1, p, h => by
    have := segs_at (o + q.2.length) r k p (by simpa using h)
    simp only [segsOf, List.getElem?_cons_succ, this, List.take_succ_cons, flat, List.flatMap_cons, List.length_append]
    rw [Nat.add_assoc]
theorem cells_at : ∀ (segs : List (Value × Nat)) (k : Nat) (x : Value) (o : Nat), segs[k]? = some (x, o) → (cellsOf segs)[k * 2]? = some x ∧ (cellsOf segs)[k * 2 + 1]? = some (.int .u32 (o : Int))
  | [], k, x, o, h => by simp at h
  | q :: r, 0, x, o, h => by simp at h; subst h; simp [cellsOf]
  | q :: r, k + 1, x, o, h => by
    have := cells_at r k x o (by simpa using h)
    rw [show (k + 1) * 2 = k * 2 + 2 by omega]
    simpa [cellsOf] using this
theorem flat_take (ps : List (Value × List Int)) (k : Nat) (p : Value × List Int) (h : ps[k]? = some p) : flat (ps.take (k + 1)) = flat (ps.take k) ++ p.2 := by
  rw [List.take_add_one, h]
  simp [flat]
theorem flat_le (ps : List (Value × List Int)) (k : Nat) : (flat (ps.take k)).length ≤ (flat ps).length := by
  have h := congrArg (fun l => (flat l).length) (List.take_append_drop k ps)
  simp only [flat, List.flatMap_append, List.length_append] at h ⊢
  omega
/-- A joiner of these pieces. -/
def Jp (w : World) (B j : Nat) (ps : List (Value × List Int)) (lb : Int) : Prop := (∃ v, Jn w B j v (segsOf 0 ps) (flat ps).length lb) ∧ ∀ p ∈ ps, Pc w p.1 p.2
def AddedP (w : World) (B j : Nat) (ps : List (Value × List Int)) (x : Value) (zs : List Int) (lb : Int) (e : Ending) (w' : World) : Prop :=
  e = .returned (.tuple #[]) ∧ Jp w' B j (ps ++ [(x, zs)]) (if zs.length = 0 then lb else zs.getD (zs.length - 1) 0) ∧ KeepsJ w w' ∧ Below B w w'
theorem addP (B j : Nat) (ps : List (Value × List Int)) (lb : Int) (x : Value) (zs : List Int) (w : World) (h : Jp w B j ps lb) (hx : Pc w x zs) (hs : ps.length ≤ 1000) (hz : zs.length ≤ 100000000) (hL : (flat ps).length ≤ 100000000) :
    Calls Tryd.prog 14 #[.pointer (some ⟨j, 0, none⟩), x] w (AddedP w B j ps x zs lb) := by
  obtain ⟨⟨v, hj⟩, hp⟩ := h
  refine (add14 B j v (segsOf 0 ps) _ lb x zs w hj hx (by rw [segs_len]; exact hs) hz hL).mono ?_
  rintro e w' ⟨rfl, v', h1, h2, h3⟩
  refine ⟨rfl, ⟨⟨v', ?_⟩, ?_⟩, h2, h3⟩
  · rw [segs_snoc, flat_snoc, List.length_append, Nat.zero_add]
    exact h1
  · intro p hpm
    rcases List.mem_append.1 hpm with h | h
    · exact (hp p h).keep h2.keeps
    · simp at h; subst h; exact hx.keep h2.keeps
/-- The buffer while it is filled: the bytes zs are in, L in all. -/
def bufOf (zs : List Int) (L : Nat) : List Value := iv .u8 zs ++ List.replicate (L - zs.length) (.int .u8 0)
theorem buf_splice (zs ys : List Int) (L : Nat) (h : zs.length + ys.length ≤ L) : splice (bufOf zs L) zs.length (iv .u8 ys) = bufOf (zs ++ ys) L := by
  have e : (iv .u8 zs).length = zs.length := iv_length _ _
  unfold splice bufOf
  rw [List.take_left' e, iv_length, show iv .u8 (zs ++ ys) = iv .u8 zs ++ iv .u8 ys by simp [iv], List.append_assoc]
  congr 2
  rw [← e, List.drop_append, List.drop_replicate]
  rw [List.drop_of_length_le (by omega), List.nil_append, List.length_append]
  congr 1
  omega
def Doned (w : World) (ps : List (Value × List Int)) (e : Ending) (w' : World) : Prop :=
  e = .returned (.slice (some ⟨w.heap.size, 0, none⟩) (flat ps).length (flat ps).length) ∧ Row w' w.heap.size 5 (iv .u8 (flat ps)) ∧ Below w.heap.size w w'
theorem sz5 : (Tryd.prog.info? 5).map (·.size) = some 1 := by kernel_rfl
set_option maxRecDepth 100000 in
set_option maxHeartbeats 8000000 in
theorem done11 (B j : Nat) (ps : List (Value × List Int)) (lb : Int) (w : World) (h : Jp w B j ps lb) (hs : 2 ≤ ps.length) (hs2 : ps.length ≤ 1000) (hL : (flat ps).length ≤ 100000000) :
    Calls Tryd.prog 11 #[.pointer (some ⟨j, 0, none⟩)] w (Doned w ps) := by
  obtain ⟨⟨v, hj⟩, hp⟩ := h
  have hown := hj.own
  rw [segs_len] at hown
  rcases hown.2 with ⟨_, h0⟩ | ⟨g, cap, cur, rfl, hbg, hh, hnc, hcm, hcs, htk⟩
  · omega
  have hcell : ∀ k p, ps[k]? = some p → w.cell? ⟨g, k * 2, none⟩ = some p.1 ∧ w.cell? ⟨g, k * 2 + 1, none⟩ = some (.int .u32 (((flat (ps.take k)).length : Nat) : Int)) := by
    intro k p hkp
    have hk : k < ps.length := (List.getElem?_eq_some_iff.1 hkp).1
    have h1 := segs_at 0 ps k p hkp
    rw [Nat.zero_add] at h1
    obtain ⟨h2, h3⟩ := cells_at _ k _ _ h1
    rw [← htk, List.getElem?_take] at h2 h3
    rw [if_pos (by omega)] at h2 h3
    rw [cell_of_row w g _ cur 61 (0, 0) hh, cell_of_row w g _ cur 61 (0, 0) hh]
    exact ⟨by simpa using h2, by simpa using h3⟩
  have hglt : g < w.heap.size := (Array.getElem?_eq_some_iff.1 hh).1
  have HC := Lib.hid hcell
  have HP := Lib.hid hp
  have r0 := hj.row.at_ (i := 0) rfl
  have r1 := hj.row.at_ (i := 1) rfl
  have r2 := hj.row.at_ (i := 2) rfl
  have HR := Lib.hid hj.row
  obtain ⟨m, hm⟩ : ∃ m, ps.length = m := ⟨_, rfl⟩
  rw [hm] at r1 hnc hs hs2
  obtain ⟨L, hLL⟩ : ∃ L, (flat ps).length = L := ⟨_, rfl⟩
  rw [hLL] at r2 hL
  have HLL := Lib.hid hLL
  have HM := Lib.hid hm
  have t1 : ((m : Int) == 1) = false := by simp; omega
  have hmk := fun W => run_make_row' (P := Tryd.prog) 23 5 (.int .u8 0) 1 Tryd.underlying23 info5 rfl .u32 .u32 L (by omega) (by omega) W
  have r1a := fun o => (hj.row.alloc o).at_ (i := 1) rfl
  have r0a := fun o => (hj.row.alloc o).at_ (i := 0) rfl
  rw [hm] at r1a
  clear hj hown hh hcs htk hcell hp hLL hm
  go_enter Tryd.func11, Tryd.ntmps11
  go_wp2_with fail
  go_loop [49] (fun x => x = .int .i64 0) (fun _ => 0)
  case atStart => rfl
  case round =>
    subst hrel
    have hb0 := Lib.hid ((Below.refl w.heap.size w).alloc (Nat.le_refl _) (.cells (madeCells #[.int .u8 0] L) 5))
    have HR0 := Lib.hid (made_row w 5 (.int .u8 0) L)
    have hjg := Lib.hid HR.out.lt
    go_wp2_with fail
    clear r0 r0a r1 r1a r2 hmk t1
    go_loopw [66] (fun i wr => ∃ k : Nat, k ≤ m ∧ i = .int .i64 k ∧ Row wr w.heap.size 5 (bufOf (flat (ps.take k)) L) ∧ Below w.heap.size w wr) (fun i _ => m - (intOf i).toNat)
    case atStart => exact ⟨0, Nat.zero_le _, rfl, by have h9 := HR0.out; simpa [bufOf, flat, iv] using h9, hb0.out⟩
    case round =>
      obtain ⟨k, hk, rfl, hrow, hbel⟩ := hrel
      have HROW := Lib.hid hrow
      have HBEL := Lib.hid hbel
      clear hrow hbel
      by_cases hlt : k < m
      · obtain ⟨p, hp⟩ : ∃ p, ps[k]? = some p := ⟨ps[k]'(by rw [HM.out]; exact hlt), List.getElem?_eq_getElem _⟩
        obtain ⟨q1, q2⟩ := HC.out k p hp
        have c1 := (HBEL.out.cell (p := ⟨g, k * 2, none⟩) hglt).trans q1
        have c2 := (HBEL.out.cell (p := ⟨g, k * 2 + 1, none⟩) hglt).trans q2
        have hpc := HP.out p (List.mem_of_getElem? hp)
        have hft := flat_take ps k p hp
        have hfl := flat_le ps (k + 1)
        rw [HLL.out, hft, List.length_append] at hfl
        obtain ⟨x, zs⟩ := p
        obtain ⟨A, c, hx, hi⟩ := hpc.ints
        simp only at hx hi hft hfl c1 c2
        subst hx
        have HF := Lib.hid hft
        have HI := Lib.hid hi
        generalize hO : (flat (ps.take k)).length = O at c2 hfl
        generalize hZ : zs.length = nz at c1 hi hfl
        have HO := Lib.hid hO
        have HZ := Lib.hid hZ
        have i0 : (0 : Int) ≤ (k : Int) := by omega
        have i1 : (k : Int) < (m : Int) := by omega
        clear hO hZ hft hp q1 q2 hpc hi
        go_upto_region 12 with fail
        have hfl2 : O + nz ≤ L := hfl
        have HROW2 := Lib.hid (show (wr.alloc (.cells #[.slice A nz c, .int .u32 (O : Int)] 61)).drew.heap[w.heap.size]? = some (.cells (bufOf (flat (ps.take k)) L).toArray 5 (0, 0)) from HROW.out.alloc _)
        have HBEL2 := Lib.hid (show Below w.heap.size w (wr.alloc (.cells #[.slice A nz c, .int .u32 (O : Int)] 61)).drew from (HBEL.out.alloc HBEL.out.size _).drew)
        have HSPL := Lib.hid (show splice (bufOf (flat (ps.take k)) L) O (iv .u8 zs) = bufOf (flat (ps.take (k + 1))) L by rw [HF.out, ← HO.out]; exact buf_splice _ _ _ (by rw [HO.out, HZ.out]; exact hfl2))
        have HFIT := Lib.hid (show O + (iv .u8 zs).length ≤ (bufOf (flat (ps.take k)) L).length by rw [iv_length, HZ.out]; unfold bufOf; rw [List.length_append, iv_length, HO.out, List.length_replicate]; omega)
        have HONE := Lib.hid (show ∀ u ∈ iv .u8 zs, u.oneCell' = true from fun u hu => by simp only [iv, List.mem_map] at hu; obtain ⟨z, _, rfl⟩ := hu; rfl)
        have hcells : 0 < (iv .u8 zs).length → ∃ ad, A = some ad ∧ ∀ q u, (iv .u8 zs)[q]? = some u → (wr.alloc (.cells #[.slice A nz c, .int .u32 (O : Int)] 61)).drew.cell? (ad.add q) = some u := by
          intro hpos
          rw [iv_length, HZ.out] at hpos
          obtain ⟨b, off, ha, hb, hc⟩ := HI.out.2.2.2.2.2 (Nat.lt_of_lt_of_le (by rw [HZ.out]; exact hpos) HI.out.1)
          refine ⟨_, ha, fun q u hq => ?_⟩
          have hql : q < zs.length := by have := (List.getElem?_eq_some_iff.1 hq).1; rwa [iv_length] at this
          have hadd : (⟨b, off, none⟩ : Addr).add q = ⟨b, off + q, none⟩ := by unfold Addr.add; split <;> simp_all
          rw [iv_at .u8 zs q hql] at hq
          rw [hadd, ← hq]
          exact (HBEL2.out.cell (p := ⟨b, off + q, none⟩) hb).trans (hc q (by have := HZ.out; omega))
        have HCL := Lib.hid hcells
        have hrw := (Row.newArr wr 61 #[.slice A nz c, .int .u32 (O : Int)])
        have e0 := hrw.at_ (i := 0) rfl
        have e1 := hrw.at_ (i := 1) rfl
        have f0 := hrw.frozen 0
        have f1 := hrw.frozen 1
        have j0 : (0 : Int) ≤ (O : Int) := by omega
        have j1 : (O : Int) ≤ (L : Int) := by omega
        clear hcells hfl hrw c1 c2 i0 i1
        have HN := Lib.hid (show (iv .u8 zs).length = Nat.min nz (L - O) by rw [iv_length, HZ.out]; exact (Nat.min_eq_left (by omega)).symm)
        have HPOS := Lib.hid (show 0 < (iv .u8 zs).length → (if L = O then some ⟨w.heap.size, 0, none⟩ else some ⟨w.heap.size, O, none⟩ : Option Addr) = some ⟨w.heap.size, O, none⟩ ∧ ∃ ad, A = some ad ∧ ∀ q u, (iv .u8 zs)[q]? = some u → (wr.alloc (.cells #[.slice A nz c, .int .u32 (O : Int)] 61)).drew.cell? (ad.add q) = some u from fun h => ⟨by rw [if_neg]; rw [iv_length, HZ.out] at h; omega, HCL.out h⟩)
        go_region_law (first | (refine step_copy_splice rfl (.tmp 73) (.tmp 75) 23 23 rfl 5 Tryd.underlying23 sz5 (if L = O then some ⟨w.heap.size, 0, none⟩ else some ⟨w.heap.size, O, none⟩) A (L - O) (L - O) nz c rfl rfl w.heap.size O (bufOf (flat (ps.take k)) L) 5 HROW2.out (iv .u8 zs) HN.out HPOS.out HFIT.out HONE.out w.heap.size w HBEL2.out (Nat.le_refl _) ?_; intro w4 hg4 hb4))
        all_goals
          have HB4 := Lib.hid hb4
          clear hb4 e0 e1 f0 f1
          go_wp2_with fail
          go_roundw
          case rel =>
            refine ⟨k + 1, by omega, by go_num, ?_, HB4.out⟩
            have h9 := hg4.out
            rw [HSPL.out] at h9
            exact h9
          case measure => simp [intOf]; omega
      · obtain rfl : k = m := by omega
        go_wp2_with fail
        go_ret
        have h9 := HROW.out
        rw [List.take_of_length_le (by rw [HM.out]; exact Nat.le_refl _)] at h9
        have e9 : bufOf (flat ps) L = iv .u8 (flat ps) := by unfold bufOf; rw [HLL.out]; simp
        rw [e9] at h9
        exact ⟨by rw [HLL.out]; rfl, h9, HBEL.out⟩
end Go.Proofs.YtmgkjkfhhdkkmabDoor.ApF
