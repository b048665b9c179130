/- FnAllocateTopLevelSymbolSlotsFirstSeenOrder: AllocateTopLevelSymbolSlots. -/
import Derived.Test.YtidcbknnjpecbaaRows
import Derived.Test.YtidcbknnjpecbaaMem
import Derived.Test.YtidcbknnjpecbaaSl
import Derived.Test.YtidcbknnjpecbaaAtF
import Derived.Test.YtidcbknnjpecbaaOwg
import Derived.Test.YtidcbknnjpecbaaPru
import Derived.Great.BuildSlice
import Derived.Deep.RegionLaw
import Derived.Deep.RegionHeld3
import Derived.Maps.AppendAt
import Derived.WalkKit
import Derived.ProofKit
import Derived.OpenShut
import Derived.Below
import Derived.WalkLawsBesides
import Derived.Lib.Hide
import Derived.Outline
import Derived.RegionTactic
import Derived.Deep.QuietTactic
import Derived.BigQuiet
import Derived.WalkSpells
import Derived.Deep.OwnRows
import Derived.IntWalk
import Derived.Deep.DeepMust
namespace Go.Proofs.Ytidcbknnjpecbaa.AtE
open Go.RowKit Mem Sl
set_option linter.unusedVariables false
open Args AtA AtB AtP AtC AtD AtF Pru MapK Go.Proofs.Ytidcbknnjpecbaa.Arr Go.Maps

theorem _root_.Go.Proofs.Ytidcbknnjpecbaa.AtC.Syms.below {w w' : World} {q g n C : Nat} {K F : List Int} (h : Syms w q g n K F) (hb : Below C w w') (hq : q < C) (hg : g < C) : Syms w' q g n K F := ⟨h.row.below hb hq, h.arr.below hb hg⟩
theorem _root_.Go.Proofs.Ytidcbknnjpecbaa.AtC.Syms.drew {w : World} {q g n : Nat} {K F : List Int} (h : Syms w q g n K F) : Syms w.drew q g n K F := ⟨h.row, h.arr.drew⟩
theorem below_self {w w' : World} {B : Nat} (h : Below B w.drew w') : Below B w w' := ⟨h.os, h.tape, h.output, h.size, h.block⟩
/-- The capital mark of a symbol. -/
def flag (F : List Int) (i : Nat) : Int := if jsx F i then 1 else 0
/-- Inside a round: the entry's copy in block b5. -/
structure Sx (w : World) (B p mb : Nat) (rb : Value) (A2 A3 : Option Addr) (q gs n ge m : Nat) (ini : Nat → Nat) (K F z4 z5 : List Int) (M : Md) (g0 c0 g1 c1 : Nat) (f : Value → Option Value) (cnt b5 k i : Nat) (x : Int) (W : World) : Prop where
  rn : Rn W B p mb rb (.slice (some ⟨q, 0, none⟩) 1 1) A2 A3 ini (flag F) M g0 c0 g1 c1 f cnt
  ents : Arr W ge m 4 u32s (entF z4 z5 n)
  syms : Syms W q gs n K F
  row5 : Row W b5 77 [.int .u32 (k : Int), .int .u32 0, .int .u32 (i : Int), .int .u32 x]
  bel : Below B w W
theorem Sx.below {w W W' : World} {B p mb : Nat} {rb : Value} {A2 A3 : Option Addr} {q gs n ge m : Nat} {ini : Nat → Nat} {K F z4 z5 : List Int} {M : Md} {g0 c0 g1 c1 : Nat} {f : Value → Option Value} {cnt b5 k i : Nat} {x : Int}
    (h : Sx w B p mb rb A2 A3 q gs n ge m ini K F z4 z5 M g0 c0 g1 c1 f cnt b5 k i x W) (hb : Below W.heap.size W W') (hB : B ≤ W.heap.size) (hq : q < B) (hg : gs < B) : Sx w B p mb rb A2 A3 q gs n ge m ini K F z4 z5 M g0 c0 g1 c1 f cnt b5 k i x W' :=
  ⟨h.rn.below hb, h.ents.below hb h.ents.lt, h.syms.below (hb.mono hB) hq hg, h.row5.below hb h.row5.lt, h.bel.trans (hb.mono hB)⟩
theorem Sx.store {w W : World} {B p mb : Nat} {rb : Value} {A2 A3 : Option Addr} {q gs n ge m : Nat} {ini : Nat → Nat} {K F z4 z5 : List Int} {M M' : Md} {g0 c0 g1 c1 : Nat} {f : Value → Option Value} {cnt b5 k i : Nat} {x : Int} {g o : Nat} {v : Value}
    (h : Sx w B p mb rb A2 A3 q gs n ge m ini K F z4 z5 M g0 c0 g1 c1 f cnt b5 k i x W) (hrn : Rn (W.setCell ⟨g, o, none⟩ v) B p mb rb (.slice (some ⟨q, 0, none⟩) 1 1) A2 A3 ini (flag F) M' g0 c0 g1 c1 f cnt) (hg : B ≤ g) (h1 : ge ≠ g) (h2 : b5 ≠ g) (hq : q < B) (hgs : gs < B) :
    Sx w B p mb rb A2 A3 q gs n ge m ini K F z4 z5 M' g0 c0 g1 c1 f cnt b5 k i x (W.setCell ⟨g, o, none⟩ v) :=
  ⟨hrn, h.ents.far_ h1 _, ⟨h.syms.row.far (by show q ≠ g; omega) _, h.syms.arr.far_ (by show gs ≠ g; omega) _⟩, h.row5.far h2 _, h.bel.setCell hg _⟩
theorem kd_ns {K : List Int} {i : Nat} : (nsv K i = 0 → kdv K i = 27) ∧ (nsv K i = 1 → kdv K i = 18) := by
  unfold nsv kdv
  split <;> simp
theorem fl_or (F : List Int) (i : Nat) : flv F i = 0 ∨ flv F i = 2 := by unfold flv; split <;> simp
/-- At the head of a round of AllocateTopLevelSymbolSlots. -/
structure Rd (w : World) (B p mb : Nat) (rb : Value) (A2 A3 : Option Addr) (q gs n ge m : Nat) (ini : Nat → Nat) (K F z4 z5 : List Int) (k : Nat) (g0 c0 g1 c1 : Nat) (f : Value → Option Value) (cnt : Nat) (wr : World) : Prop where
  rn : Rn wr B p mb rb (.slice (some ⟨q, 0, none⟩) 1 1) A2 A3 ini (flag F) (md (nsv K) (ix z4 n) (at0 z5) k) g0 c0 g1 c1 f cnt
  ents : Arr wr ge m 4 u32s (entF z4 z5 n)
  syms : Syms wr q gs n K F
  bel : Below B w wr
  n0 : ge ≠ g0
  n1 : ge ≠ g1
theorem Sx.rd {w W : World} {B p mb : Nat} {rb : Value} {A2 A3 : Option Addr} {q gs n ge m : Nat} {ini : Nat → Nat} {K F z4 z5 : List Int} {M : Md} {g0 c0 g1 c1 : Nat} {f : Value → Option Value} {cnt b5 k i : Nat} {x : Int}
    (h : Sx w B p mb rb A2 A3 q gs n ge m ini K F z4 z5 M g0 c0 g1 c1 f cnt b5 k i x W) (hM : md (nsv K) (ix z4 n) (at0 z5) (k + 1) = M) (h0 : ge ≠ g0) (h1 : ge ≠ g1) : Rd w B p mb rb A2 A3 q gs n ge m ini K F z4 z5 (k + 1) g0 c0 g1 c1 f cnt W :=
  ⟨by rw [hM]; exact h.rn, h.ents, h.syms, h.bel, h0, h1⟩

theorem push0 {w w4 w5 w7 : World} {B p mb : Nat} {rb : Value} {A2 A3 : Option Addr} {q gs n ge m : Nat} {ini : Nat → Nat} {K F z4 z5 : List Int} {M : Md} {g0 c0 g1 c1 : Nat} {f : Value → Option Value} {cnt b5 k i : Nat} {x : Int}
    (hx : Sx w B p mb rb A2 A3 q gs n ge m ini K F z4 z5 M g0 c0 g1 c1 f cnt b5 k i x w4) (hM : md (nsv K) (ix z4 n) (at0 z5) (k + 1) = M.step (nsv K) k i x) (hg : AtP.Good (nsv K) n k M) (hneg : M.fst i < 0) (hns : nsv K i = 0) (hxb : 0 ≤ x ∧ x < 4294967296) {fl : Int} (hfl : flag F i = fl)
    (hB : B ≤ w.heap.size) (hq : q < B) (hgs : gs < B) (h0 : ge ≠ g0) (h1 : ge ≠ g1) (hp : ge ≠ p) (hmb : ge ≠ mb) {ll : Nat} (hll : ll = ini 0 + (M.o 0).length) {cells : Array Value} {g' c' cnt' : Nat}
    (hown : w5.ownsRow B 83 3 (.slice (some ⟨g', 0, none⟩) (ll + 1) c') (ll + 1) (sl (slotsL (ini 0) (flag F) M.sum (M.o 0)) ++ [.string ByteArray.empty, .int .u32 x, .int .u32 fl]))
    (hgr : ((w4.alloc (.cells cells 83)).drew).grownBy w5 (some g0)) (hat : g' = g0 ∨ g' = ((w4.alloc (.cells cells 83)).drew).heap.size) (hgr7 : (w5.setCell ⟨p, 1, none⟩ (.slice (some ⟨g', 0, none⟩) (ll + 1) c')).drew.grownBy w7 (some mb))
    (hm7 : MapF Try.prog w7 mb 50 cnt' (put f (refv i) (.int .u32 (ll : Int)))) : Rd w B p mb rb A2 A3 q gs n ge m ini K F z4 z5 (k + 1) g' c' g1 c1 (put f (refv i) (.int .u32 (ll : Int))) cnt' w7 := by
  have hB4 : B ≤ w4.heap.size := Nat.le_trans hB hx.bel.size
  have hWA : Below w4.heap.size w4 ((w4.alloc (.cells cells 83)).drew) := ((Below.refl _ _).alloc (Nat.le_refl _) _).drew
  have rnA := hx.rn.below hWA
  have hgr7' : (w5.setCell ⟨p, 1, none⟩ (.slice (some ⟨g', 0, none⟩) (ll + 1) c')).grownBy w7 (some mb) := ⟨hgr7.os, hgr7.tape, hgr7.output, hgr7.size, hgr7.block⟩
  have hbW : Below B w4 ((w4.alloc (.cells cells 83)).drew) := hWA.mono hB4
  have hb5 : Below B ((w4.alloc (.cells cells 83)).drew) w5 := Owg.grown_below' hgr (fun g e => by injection e with e; have := rnA.b0.lt.1; omega) (Nat.le_trans hB4 hbW.size)
  have hb6 : Below B w5 (w5.setCell ⟨p, 1, none⟩ (.slice (some ⟨g', 0, none⟩) (ll + 1) c')) := (Below.refl _ _).setCell hx.rn.pB _
  have hb7 := Owg.grown_below' hgr7' (fun g e => by injection e with e; have := hx.rn.mB; omega) (Nat.le_trans (Nat.le_trans hB4 hbW.size) (Nat.le_trans hb5.size hb6.size))
  have hb : Below B w4 w7 := hbW.trans (hb5.trans (hb6.trans hb7))
  have hen := (((hx.ents.below hWA hx.ents.lt).grown hgr (by intro e; injection e with e; exact h0 e)).far_ (p := ⟨p, 1, none⟩) hp (.slice (some ⟨g', 0, none⟩) (ll + 1) c')).grown hgr7' (by intro e; injection e with e; exact hmb e)
  have hge : ge ≠ g' := by
    have h9 := hx.ents.lt
    have h8 := hWA.size
    rcases hat with rfl | rfl
    · exact h0
    · omega
  have hno : ∀ s, i ∉ M.o s := fun s hm => by
    have e := (hg.own s i hm).1
    rw [← e] at hm
    have := (hg.mem i).1 hm
    omega
  have hME : M.step (nsv K) k i x = ⟨up M.fst i (k : Int), up M.sum i x, up M.o 0 (M.o 0 ++ [i])⟩ := by
    unfold Md.step
    rw [if_pos hneg, if_pos hneg, hns, (hg.neg i hneg).2, Int.zero_add, Int.emod_eq_of_lt hxb.1 hxb.2]
  subst hll hfl
  have hnew := new0 rnA (x := x) (t := (k : Int)) hneg hno (Nat.le_trans hB4 hbW.size) hown hgr hat hgr7' hm7 (by omega)
  exact ⟨by rw [hM, hME]; exact hnew, hen, hx.syms.below hb hq hgs, hx.bel.trans hb, hge, h1⟩

theorem push1 {w w4 w5 w7 : World} {B p mb : Nat} {rb : Value} {A2 A3 : Option Addr} {q gs n ge m : Nat} {ini : Nat → Nat} {K F z4 z5 : List Int} {M : Md} {g0 c0 g1 c1 : Nat} {f : Value → Option Value} {cnt b5 k i : Nat} {x : Int}
    (hx : Sx w B p mb rb A2 A3 q gs n ge m ini K F z4 z5 M g0 c0 g1 c1 f cnt b5 k i x w4) (hM : md (nsv K) (ix z4 n) (at0 z5) (k + 1) = M.step (nsv K) k i x) (hg : AtP.Good (nsv K) n k M) (hneg : M.fst i < 0) (hns : nsv K i = 1) (hxb : 0 ≤ x ∧ x < 4294967296) {fl : Int} (hfl : flag F i = fl)
    (hB : B ≤ w.heap.size) (hq : q < B) (hgs : gs < B) (h0 : ge ≠ g0) (h1 : ge ≠ g1) (hp : ge ≠ p) (hmb : ge ≠ mb) {ll : Nat} (hll : ll = ini 1 + (M.o 1).length) {cells : Array Value} {g' c' cnt' : Nat}
    (hown : w5.ownsRow B 83 3 (.slice (some ⟨g', 0, none⟩) (ll + 1) c') (ll + 1) (sl (slotsL (ini 1) (flag F) M.sum (M.o 1)) ++ [.string ByteArray.empty, .int .u32 x, .int .u32 fl]))
    (hgr : ((w4.alloc (.cells cells 83)).drew).grownBy w5 (some g1)) (hat : g' = g1 ∨ g' = ((w4.alloc (.cells cells 83)).drew).heap.size) (hgr7 : (w5.setCell ⟨p, 2, none⟩ (.slice (some ⟨g', 0, none⟩) (ll + 1) c')).drew.grownBy w7 (some mb))
    (hm7 : MapF Try.prog w7 mb 50 cnt' (put f (refv i) (.int .u32 (ll : Int)))) : Rd w B p mb rb A2 A3 q gs n ge m ini K F z4 z5 (k + 1) g0 c0 g' c' (put f (refv i) (.int .u32 (ll : Int))) cnt' w7 := by
  have hB4 : B ≤ w4.heap.size := Nat.le_trans hB hx.bel.size
  have hWA : Below w4.heap.size w4 ((w4.alloc (.cells cells 83)).drew) := ((Below.refl _ _).alloc (Nat.le_refl _) _).drew
  have rnA := hx.rn.below hWA
  have hgr7' : (w5.setCell ⟨p, 2, none⟩ (.slice (some ⟨g', 0, none⟩) (ll + 1) c')).grownBy w7 (some mb) := ⟨hgr7.os, hgr7.tape, hgr7.output, hgr7.size, hgr7.block⟩
  have hbW : Below B w4 ((w4.alloc (.cells cells 83)).drew) := hWA.mono hB4
  have hb5 : Below B ((w4.alloc (.cells cells 83)).drew) w5 := Owg.grown_below' hgr (fun g e => by injection e with e; have := rnA.b1.lt.1; omega) (Nat.le_trans hB4 hbW.size)
  have hb6 : Below B w5 (w5.setCell ⟨p, 2, none⟩ (.slice (some ⟨g', 0, none⟩) (ll + 1) c')) := (Below.refl _ _).setCell hx.rn.pB _
  have hb7 := Owg.grown_below' hgr7' (fun g e => by injection e with e; have := hx.rn.mB; omega) (Nat.le_trans (Nat.le_trans hB4 hbW.size) (Nat.le_trans hb5.size hb6.size))
  have hb : Below B w4 w7 := hbW.trans (hb5.trans (hb6.trans hb7))
  have hen := (((hx.ents.below hWA hx.ents.lt).grown hgr (by intro e; injection e with e; exact h1 e)).far_ (p := ⟨p, 2, none⟩) hp (.slice (some ⟨g', 0, none⟩) (ll + 1) c')).grown hgr7' (by intro e; injection e with e; exact hmb e)
  have hge : ge ≠ g' := by
    have h9 := hx.ents.lt
    have h8 := hWA.size
    rcases hat with rfl | rfl
    · exact h1
    · omega
  have hno : ∀ s, i ∉ M.o s := fun s hm => by
    have e := (hg.own s i hm).1
    rw [← e] at hm
    have := (hg.mem i).1 hm
    omega
  have hME : M.step (nsv K) k i x = ⟨up M.fst i (k : Int), up M.sum i x, up M.o 1 (M.o 1 ++ [i])⟩ := by
    unfold Md.step
    rw [if_pos hneg, if_pos hneg, hns, (hg.neg i hneg).2, Int.zero_add, Int.emod_eq_of_lt hxb.1 hxb.2]
  subst hll hfl
  have hnew := new1 rnA (x := x) (t := (k : Int)) hneg hno (Nat.le_trans hB4 hbW.size) hown hgr hat hgr7' hm7 (by omega)
  exact ⟨by rw [hM, hME]; exact hnew, hen, hx.syms.below hb hq hgs, hx.bel.trans hb, h0, hge⟩

theorem step_mapUpdate_run {P : Program} {ops : Array Oper} {o : Oper} {a : Act} {w : World} {K : Act → World → Prop} {Q : Exit → Act → World → Prop} {E : Prop}
    (hg : o.guard = none) (m x v : Operand) (t : TypeId) (hop : o.op = Op.mapUpdate t m x v) (vm vx vv : Value) (W : World) (hm : a.eval m = vm) (hx : a.eval x = vx) (hv : a.eval v = vv)
    (hrun : (Instr.mapUpdate t vm vx vv).run P w = .ok () W) (hK : K (a.put o.dst undef) W) : if Region.wanted o (yielded ops a.tmps) = true then Oper.wp P o a w K Q else E := by
  have hw : Region.wanted o (yielded ops a.tmps) = true := by simp [Region.wanted, hg]
  rw [if_pos hw]
  unfold Oper.wp
  simp [execOp, hop, hm, hx, hv, hrun, Result.andThen]
  exact hK
theorem slice_of_own {w : World} {B n : Nat} {v : Value} {xs : List Value} (h : w.ownsRow B 83 3 v (n + 1) xs) : ∃ g c, v = .slice (some ⟨g, 0, none⟩) (n + 1) c := by
  rcases h.2 with ⟨_, h0⟩ | ⟨g, cap, cur, h0, _⟩
  · omega
  · exact ⟨g, cap, h0⟩
theorem has_jsx (F : List Int) (i : Nat) : (bits .and .u16 (flv F i) 2 != 0) = jsx F i := by
  unfold flv
  cases jsx F i <;> decide
set_option maxRecDepth 100000 in
set_option maxHeartbeats 8000000 in
theorem all8 (B p mb q gs n ge m : Nat) (rb : Value) (A2 A3 : Option Addr) (ini : Nat → Nat) (K F z4 z5 : List Int) (g0 c0 g1 c1 : Nat) (f : Value → Option Value) (cnt : Nat) (w : World) (h : Rd w B p mb rb A2 A3 q gs n ge m ini K F z4 z5 0 g0 c0 g1 c1 f cnt w)
    (hn : n ≤ 4096) (hn0 : 1 ≤ n) (hm : m ≤ 4096) (hini : ∀ s, ini s ≤ 4096) (hz5 : ∀ t, 0 ≤ at0 z5 t ∧ at0 z5 t < 4294967296) (hq : q < B) (hgs : gs < B) (hB : B ≤ w.heap.size) (hp : ge ≠ p) (hmb : ge ≠ mb) :
    Calls Try.prog 8 #[.pointer (some ⟨p, 0, none⟩), .slice (some ⟨ge, 0, none⟩) m m] w fun e w' => e = .returned (.tuple #[]) ∧ ∃ g0 c0 g1 c1 f cnt, Rd w B p mb rb A2 A3 q gs n ge m ini K F z4 z5 m g0 c0 g1 c1 f cnt w' := by
  have H := Lib.hid h
  clear h
  go_enter Try.func8, Try.ntmps8
  go_wp2
  go_loopw [14] (fun i wr => ∃ (k g0 c0 g1 c1 : Nat) (f : Value → Option Value) (cnt : Nat), k ≤ m ∧ i = .int .i64 (k : Int) ∧ Rd w B p mb rb A2 A3 q gs n ge m ini K F z4 z5 k g0 c0 g1 c1 f cnt wr) (fun i _ => m - (intOf i).toNat)
  case atStart => exact ⟨0, g0, c0, g1, c1, f, cnt, Nat.zero_le _, rfl, H.out⟩
  case round =>
    obtain ⟨k, g0, c0, g1, c1, f, cnt, hk, rfl, hr⟩ := hrel
    by_cases hlt : k < m
    · have HR := Lib.hid hr
      have e0 : wr.cell? ⟨ge, k * 4, none⟩ = some (.int .u32 _) := hr.ents.cell k 0 hlt (by omega)
      have e1 : wr.cell? ⟨ge, k * 4 + 1, none⟩ = some (.int .u32 _) := hr.ents.cell k 1 hlt (by omega)
      have e2 : wr.cell? ⟨ge, k * 4 + 2, none⟩ = some (.int .u32 _) := hr.ents.cell k 2 hlt (by omega)
      have e3 : wr.cell? ⟨ge, k * 4 + 3, none⟩ = some (.int .u32 _) := hr.ents.cell k 3 hlt (by omega)
      rw [show entF z4 z5 n k 0 = (k : Int) from rfl] at e0
      rw [show entF z4 z5 n k 1 = 0 from rfl] at e1
      obtain ⟨i, hi⟩ : ∃ i, i = ix z4 n k := ⟨_, rfl⟩
      obtain ⟨x, hx⟩ : ∃ x, x = at0 z5 k := ⟨_, rfl⟩
      rw [show entF z4 z5 n k 2 = (i : Int) by rw [hi]; rfl] at e2
      rw [show entF z4 z5 n k 3 = x by rw [hx]; rfl] at e3
      have hin : i < n := by rw [hi]; exact Nat.mod_lt _ (by omega)
      have hxb := hz5 k
      rw [← hx] at hxb
      have HXB := Lib.hid hxb
      clear hxb
      have HI := Lib.hid hi
      have HX := Lib.hid hx
      clear hr hi hx
      go_wp2_with fail
      have hal : Below B wr (wr.alloc (.cells #[.int .u32 (k : Int), .int .u32 0, .int .u32 (i : Int), .int .u32 x] 77)) := (Below.refl B wr).alloc (Nat.le_trans hB HR.out.bel.size) _
      have hal2 : Below wr.heap.size wr (wr.alloc (.cells #[.int .u32 (k : Int), .int .u32 0, .int .u32 (i : Int), .int .u32 x] 77)) := (Below.refl _ wr).alloc (Nat.le_refl _) _
      have row5 := Row.newArr wr 77 #[.int .u32 (k : Int), .int .u32 0, .int .u32 (i : Int), .int .u32 x]
      have hrn1 := HR.out.rn.below hal2
      have hsy1 := HR.out.syms.below hal hq hgs
      have hen1 := HR.out.ents.below hal2 HR.out.ents.lt
      have hbe1 := HR.out.bel.trans hal
      obtain ⟨b5, hb5⟩ : ∃ b, b = wr.heap.size := ⟨_, rfl⟩
      rw [← hb5] at row5
      have hb5B : B ≤ b5 := by rw [hb5]; exact Nat.le_trans hB HR.out.bel.size
      have n5 : b5 ≠ p ∧ b5 ≠ mb ∧ b5 ≠ g0 ∧ b5 ≠ g1 ∧ b5 ≠ ge := by
        have h1 := HR.out.rn.row.lt
        have h2 := HR.out.rn.mp.lt
        have h3 := HR.out.rn.b0.lt.2
        have h4 := HR.out.rn.b1.lt.2
        have h5 := HR.out.ents.lt
        omega
      rw [← hb5]
      obtain ⟨W1, hW1⟩ : ∃ W, W = wr.alloc (.cells #[.int .u32 (k : Int), .int .u32 0, .int .u32 (i : Int), .int .u32 x] 77) := ⟨_, rfl⟩
      rw [← hW1] at hal hal2 row5 hrn1 hsy1 hen1 hbe1 ⊢
      have r6 := hrn1.row.at_ (i := 6) rfl
      have a1 := row5.at_ (i := 1) rfl
      have a2 := row5.at_ (i := 2) rfl
      have HRN1 := Lib.hid hrn1
      have HSY1 := Lib.hid hsy1
      have HEN1 := Lib.hid hen1
      have HBE1 := Lib.hid hbe1
      have ROW5 := Lib.hid row5
      have N5 := Lib.hid n5
      have HB5 := Lib.hid hb5B
      clear hal hal2 row5 hrn1 hsy1 hen1 hbe1 hb5 hb5B n5 hW1 e0 e1 e2 e3
      have g23 := get23 q gs n i K F W1.drew HSY1.out.drew hin hn
      unfold refv at g23
      have G23 := Lib.hid g23
      clear g23
      go_region_held3 (fun w' => w'.cell? ⟨p, 6, none⟩ = some (.slice (some ⟨q, 0, none⟩) 1 1) ∧ w'.cell? ⟨b5, 1, none⟩ = some (.int .u32 0) ∧ w'.cell? ⟨b5, 2, none⟩ = some (.int .u32 (i : Int))) (first | exact ⟨r6, a1, a2⟩ | exact HK2.out)
        (first | (go_at_call 23; (with_reducible refine G23.out.mono ?_); rintro e w2 ⟨rfl, hb2⟩; have HB2 := Lib.hid (below_self hb2); have HK2 := Lib.hid (show w2.cell? ⟨p, 6, none⟩ = some (.slice (some ⟨q, 0, none⟩) 1 1) ∧ w2.cell? ⟨b5, 1, none⟩ = some (.int .u32 0) ∧ w2.cell? ⟨b5, 2, none⟩ = some (.int .u32 (i : Int)) from ⟨(HRN1.out.below HB2.out).row.at_ (i := 6) rfl, (ROW5.out.below HB2.out ROW5.out.lt).at_ (i := 1) rfl, (ROW5.out.below HB2.out ROW5.out.lt).at_ (i := 2) rfl⟩); clear hb2))
      have HX2 := Lib.hid (show Sx w B p mb rb A2 A3 q gs n ge m ini K F z4 z5 (md (nsv K) (ix z4 n) (at0 z5) k) g0 c0 g1 c1 f cnt b5 k i x w2 from ⟨HRN1.out.below HB2.out, HEN1.out.below HB2.out HEN1.out.lt, HSY1.out.below (HB2.out.mono (Nat.le_trans hB HBE1.out.size)) hq hgs, ROW5.out.below HB2.out ROW5.out.lt, HBE1.out.trans (HB2.out.mono (Nat.le_trans hB HBE1.out.size))⟩)
      clear r6 a1 a2 HK2 HB2 HRN1 HSY1 HEN1 HBE1 ROW5 G23
      have hg := good_md (nsv K) (ix z4 n) (at0 z5) n (fun t => Nat.mod_lt _ (by omega)) k
      have hM1 : md (nsv K) (ix z4 n) (at0 z5) (k + 1) = (md (nsv K) (ix z4 n) (at0 z5) k).step (nsv K) k i x := by rw [HI.out, HX.out]; rfl
      obtain ⟨M, hM⟩ : ∃ M, M = md (nsv K) (ix z4 n) (at0 z5) k := ⟨_, rfl⟩
      rw [← hM] at HX2 hM1 hg
      have HG := Lib.hid hg
      have HM1 := Lib.hid hM1
      clear hg hM1 hM HI HX
      have k7 : ∀ (W : World) (M : Md), Sx w B p mb rb A2 A3 q gs n ge m ini K F z4 z5 M g0 c0 g1 c1 f cnt b5 k i x W → W.cell? ⟨gs, i * 10 + 7, none⟩ = some (.int .u16 (flv F i)) := fun W _ h => h.syms.arr.cell i 7 hin (by omega)
      have k8 : ∀ W, Sx w B p mb rb A2 A3 q gs n ge m ini K F z4 z5 M g0 c0 g1 c1 f cnt b5 k i x W → W.cell? ⟨gs, i * 10 + 8, none⟩ = some (.int .u8 (kdv K i)) := fun W h => h.syms.arr.cell i 8 hin (by omega)
      have K7 := Lib.hid k7
      have K8 := Lib.hid k8
      clear k7 k8
      have hns : nsv K i = 0 ∨ nsv K i = 1 := by have := nsv_lt K i; omega
      rcases hns with hns | hns
      · have hkd := kd_ns.1 hns
        have G24 := Lib.hid (show Calls Try.prog 24 #[.pointer (some ⟨gs, i * 10, none⟩)] w2.drew fun e w' => e = .returned (.int .u8 0) ∧ w2.drew = w' by
          have h := slot24 gs (i * 10) 27 (flv F i) w2.drew (K7.out w2 M HX2.out) (by rw [← hkd]; exact K8.out w2 HX2.out) (by decide) (fl_or F i)
          simpa using h)
        go_wp2_with fail
        go_region_held3 (fun _ => True) (trivial) (first | (go_at_call 24; (with_reducible refine G24.out.mono ?_); rintro e w3 ⟨rfl, rfl⟩))
        clear G24
        obtain ⟨w3, hw3⟩ : ∃ w3, w3 = w2.drew := ⟨_, rfl⟩
        have HX3 := Lib.hid (show Sx w B p mb rb A2 A3 q gs n ge m ini K F z4 z5 M g0 c0 g1 c1 f cnt b5 k i x w3 by rw [hw3]; exact HX2.out.below (Below.refl _ _).drew (Nat.le_trans hB HX2.out.bel.size) hq hgs)
        rw [← hw3]
        clear hw3 HX2 hkd
        go_wp2_with fail
        have r5 := HX3.out.rn.row.at_ (i := 5) rfl
        have a1 := HX3.out.row5.at_ (i := 1) rfl
        have a2 := HX3.out.row5.at_ (i := 2) rfl
        have hlk0 := MapF.look_ok HX3.out.rn.mp.drew Try.underlying56 keyed50 (key_ref i (by omega)) (zero23 _)
        by_cases hneg : M.fst i < 0
        · have hfi := HX3.out.rn.no i hneg
          have hlk : (Instr.lookup 56 (.map (some mb)) (.agg #[.int .u32 0, .int .u32 (i : Int)]) true).run Try.prog w3.drew = .ok (.tuple #[.int .u32 0, .bool false]) w3.drew := by
            rw [hfi] at hlk0
            exact hlk0
          clear hlk0 hfi
          go_region_held3 (fun w' => w'.cell? ⟨p, 5, none⟩ = some (.map (some mb)) ∧ w'.cell? ⟨b5, 1, none⟩ = some (.int .u32 0) ∧ w'.cell? ⟨b5, 2, none⟩ = some (.int .u32 (i : Int)) ∧ (Instr.lookup 56 (.map (some mb)) (.agg #[.int .u32 0, .int .u32 (i : Int)]) true).run Try.prog w' = .ok (.tuple #[.int .u32 0, .bool false]) w') (first | exact ⟨r5, a1, a2, hlk⟩ | assumption) (fail)
          clear hlk r5 a1 a2
          obtain ⟨w4, hw4⟩ : ∃ w4, w4 = w3.drew := ⟨_, rfl⟩
          have HX4 := Lib.hid (show Sx w B p mb rb A2 A3 q gs n ge m ini K F z4 z5 M g0 c0 g1 c1 f cnt b5 k i x w4 by rw [hw4]; exact HX3.out.below (Below.refl _ _).drew (Nat.le_trans hB HX3.out.bel.size) hq hgs)
          rw [← hw4]
          clear hw4 HX3
          have hx4 : Sx w B p mb rb A2 A3 q gs n ge m ini K F z4 z5 M g0 c0 g1 c1 f cnt b5 k i x w4 := HX4.out
          have r1 := hx4.rn.row.at_ (i := 1) rfl
          obtain ⟨ll, hll⟩ : ∃ ll, ll = ini 0 + (M.o 0).length := ⟨_, rfl⟩
          have hlb : ll ≤ 10000 := by have h1 := hini 0; have h2 := HG.out.len 0; omega
          rw [← hll] at r1
          have HLL := Lib.hid hll
          have wl : IntKind.u32.wrap (ll : Int) = (ll : Int) := IntWalk.u32_in _ (by omega)
          have f7 := K7.out w4 _ HX4.out
          have H25 := Lib.hid (has25 (flv F i) 2 (jsx F i) w4 (has_jsx F i))
          have HNEG := Lib.hid hneg
          have HNS := Lib.hid hns
          clear hll hneg hns hx4
          cases hj : jsx F i with
          | false =>
            rw [hj] at H25
            have HFL := Lib.hid (show flag F i = 0 by unfold flag; rw [hj]; rfl)
            have hWA : Below w4.heap.size w4 ((w4.alloc (.cells #[.string ByteArray.empty, .int .u32 x, .int .u32 0] 83)).drew) := ((Below.refl _ _).alloc (Nat.le_refl _) _).drew
            have hWB : Below B w4 ((w4.alloc (.cells #[.string ByteArray.empty, .int .u32 x, .int .u32 0] 83)).drew) := hWA.mono (Nat.le_trans hB HX4.out.bel.size)
            have rnA := HX4.out.rn.below hWA
            obtain ⟨i83, hi83, hzz⟩ := Option.map_eq_some_iff.1 info83
            simp only [Prod.mk.injEq] at hzz
            obtain ⟨hz1, hz2, hz3⟩ := hzz
            have hownA : World.ownsRow ((w4.alloc (.cells #[.string ByteArray.empty, .int .u32 x, .int .u32 0] 83)).drew) B 83 3 (.slice (some ⟨g0, 0, none⟩) ll c0) ll (sl (slotsL (ini 0) (flag F) M.sum (M.o 0))) := by
              have h := rnA.b0
              unfold Sb at h
              rw [slotsL_len, ← HLL.out] at h
              exact h
            have hrow8 := (Row.newArr w4 83 #[.string ByteArray.empty, .int .u32 x, .int .u32 0]).drew
            obtain ⟨v5, w5, hrun, hown5, hgr5, _, hat5⟩ := run_append_own_at (P := Try.prog) ((w4.alloc (.cells #[.string ByteArray.empty, .int .u32 x, .int .u32 0] 83)).drew) B 54 54 83 i83 _ 3 24 Try.underlying54 hi83 hz1 hz2 hz3 rfl (by decide) (.slice (some ⟨g0, 0, none⟩) ll c0) ll (sl (slotsL (ini 0) (flag F) M.sum (M.o 0))) hownA ⟨w4.heap.size, 0, none⟩ 1 1 [.string ByteArray.empty, .int .u32 x, .int .u32 0] rfl (fun j u hu => (by
              have hj3 : j < 3 := (List.getElem?_eq_some_iff.1 hu).1
              have hadd : (⟨w4.heap.size, 0, none⟩ : Addr).add j = ⟨w4.heap.size, j, none⟩ := (by unfold Addr.add; split <;> simp_all)
              rw [hadd]
              exact hrow8.at_ hu)) (fun u hu => (by simp only [List.mem_cons, List.not_mem_nil, or_false] at hu; rcases hu with rfl | rfl | rfl <;> rfl)) (by unfold maxLen; omega) (by omega) (by have := hWB.size; have := HX4.out.bel.size; omega)
            obtain ⟨g', c', hv5⟩ := slice_of_own hown5
            subst hv5
            have hat : g' = g0 ∨ g' = ((w4.alloc (.cells #[.string ByteArray.empty, .int .u32 x, .int .u32 0] 83)).drew).heap.size := (by
              rcases hat5 with h | h
              · left; simpa [Value.ownBlock] using h
              · right; simpa [Value.ownBlock] using h)
            have hgr5' : World.grownBy ((w4.alloc (.cells #[.string ByteArray.empty, .int .u32 x, .int .u32 0] 83)).drew) w5 (some g0) := hgr5
            have hr5 := rnA.row.grown hgr5' (fun e => (by injection e with e; exact sb_ne_row rnA.b0 rnA.row (by decide) e))
            have c9 := hr5.at_ (i := 1) rfl
            have f9 := hr5.frozen 1
            rw [← HLL.out] at c9
            have r1b := rnA.row.at_ (i := 1) rfl
            have r1c := (HX4.out.rn.below ((Below.refl w4.heap.size w4).alloc (Nat.le_refl _) (.cells #[.string ByteArray.empty, .int .u32 x, .int .u32 0] 83))).row.at_ (i := 1) rfl
            rw [← HLL.out] at r1b r1c
            have a3 := HX4.out.row5.at_ (i := 3) rfl
            have HRUN := Lib.hid hrun
            have HRNA := Lib.hid rnA
            have HOWN5 := Lib.hid hown5
            have HGR5 := Lib.hid hgr5'
            have HAT := Lib.hid hat
            have HWA := Lib.hid hWA
            have HWB := Lib.hid hWB
            clear hrun rnA hown5 hgr5 hgr5' hat hat5 hownA hrow8 hr5 hWA hWB hj
            have HI83 := Lib.hid hi83
            clear hi83 hz1 hz2 hz3
            go_wp2_with (go_at_call 25; (with_reducible refine H25.out.mono ?_); rintro e w9 ⟨rfl, rfl⟩)
            refine wp_region_held_drew (S := fun _ => True) (by kernel_rfl) trivial (fun hHeld => ?_)
            refine wpAnyH_take (i := 0) (v := .pointer (some ⟨p, 1, none⟩)) rfl (by kernel_rfl) (by kernel_rfl) (by kernel_rfl) (fun _ _ _ h => h) (Or.inl ⟨by rfl, fun W _ => by go_simp⟩) trivial ?_
            simp only [Act.put, List.setIfInBounds_toArray]
            refine wpAnyH_take (i := 1) (v := .pointer (some ⟨p, 1, none⟩)) rfl (by kernel_rfl) (by kernel_rfl) (by kernel_rfl) (fun _ _ _ h => h) (Or.inl ⟨by rfl, fun W _ => by go_simp⟩) trivial ?_
            simp only [Act.put]
            refine wpAnyH_take (i := 2) (v := .pointer (some ⟨p, 1, none⟩)) rfl (by kernel_rfl) (by kernel_rfl) (by kernel_rfl) (fun _ _ _ h => h) (Or.inl ⟨by rfl, fun W _ => by go_simp⟩) trivial ?_
            simp only [Act.put]
            refine wpAnyH_take (i := 4) (v := .pointer (some ⟨b5, 3, none⟩)) rfl (by kernel_rfl) (by kernel_rfl) (by kernel_rfl) (fun _ _ _ h => h) (Or.inl ⟨by rfl, fun W _ => by go_simp⟩) trivial ?_
            simp only [Act.put]
            refine wpAnyH_take (i := 6) (v := .int .u32 0) rfl (by kernel_rfl) (by kernel_rfl) (by kernel_rfl) (fun _ _ _ h => h) (Or.inl ⟨by rfl, fun W _ => by go_simp⟩) trivial ?_
            simp only [Act.put]
            refine wpAnyH_ready (rs := [3, 5]) (by kernel_rfl) (by simp) ?_
            refine AllReadyH.cons rfl (fun K hK => ?_) (AllReadyH.cons rfl (fun K hK => ?_) AllReadyH.nil)
            · go_simp
              refine hK.out _ _ trivial (fun _ => ?_)
              clear hK K
              try simp only [Act.put]
              refine wpAnyH_ready (rs := [5]) (by kernel_rfl) (by simp) ?_
              refine AllReadyH.cons rfl (fun K hK => ?_) AllReadyH.nil
              go_simp
              refine hK.out _ _ trivial (fun _ => ?_)
              clear hK K
              try simp only [Act.put]
              refine wpAnyH_take (i := 7) (v := .agg #[.string ByteArray.empty, .int .u32 x, .int .u32 0]) rfl (by kernel_rfl) (by kernel_rfl) (by kernel_rfl) (fun _ _ _ h => h) (Or.inl ⟨by rfl, fun W _ => by go_simp; rfl⟩) trivial ?_
              simp only [Act.put]
              refine wpAnyH_ready (rs := [8]) (by kernel_rfl) (by simp) ?_
              refine AllReadyH.cons rfl (fun K hK => ?_) AllReadyH.nil
              go_simp
              refine hK.out _ _ trivial (fun _ => ?_)
              clear hK K
              try simp only [Act.put]
              refine wpAnyH_ready (rs := [9]) (by kernel_rfl) (by simp) ?_
              refine AllReadyH.cons rfl (fun K hK => ?_) AllReadyH.nil
              refine step_append_run rfl _ _ 54 54 rfl _ _ _ w5 rfl rfl HRUN.out ?_
              refine hK.out _ _ trivial (fun _ => ?_)
              clear hK K
              try simp only [Act.put]
              refine wpAnyH_take (i := 10) (v := .pointer (some ⟨p, 1, none⟩)) rfl (by kernel_rfl) (by kernel_rfl) (by kernel_rfl) (fun _ _ _ h => h) (Or.inl ⟨by rfl, fun W _ => by go_simp⟩) trivial ?_
              simp only [Act.put]
              refine wpAnyH_ready (rs := [11]) (by kernel_rfl) (by simp) ?_
              refine AllReadyH.cons rfl (fun K hK => ?_) AllReadyH.nil
              go_simp
              refine hK.out _ _ trivial (fun _ => ?_)
              clear hK K
              try simp only [Act.put]
              refine wpAnyH_done (by kernel_rfl) ?_ _
              obtain ⟨w6, hw6⟩ : ∃ w6, w6 = w5.setCell ⟨p, 1, none⟩ (.slice (some ⟨g', 0, none⟩) (ll + 1) c') := ⟨_, rfl⟩
              have hmA : MapF Try.prog w6 mb 50 cnt f := by rw [hw6]; exact (HRNA.out.mp.kept HGR5.out (fun e => by injection e with e; exact sb_ne_map HRNA.out.b0 HRNA.out.mp e)).set (row_ne_map HRNA.out.row HRNA.out.mp) _
              have h5A := (HX4.out.row5.below HWA.out HX4.out.row5.lt).grown HGR5.out (fun e => by injection e with e; exact N5.out.2.2.1 e)
              have h56 := h5A.far (p := ⟨p, 1, none⟩) N5.out.1 (.slice (some ⟨g', 0, none⟩) (ll + 1) c')
              have hp6 := (HRNA.out.row.grown HGR5.out (fun e => (by injection e with e; exact sb_ne_row HRNA.out.b0 HRNA.out.row (by decide) e))).set 1 (.slice (some ⟨g', 0, none⟩) (ll + 1) c')
              rw [← hw6] at h56 hp6 ⊢
              have a1 := h56.at_ (i := 1) rfl
              have a2 := h56.at_ (i := 2) rfl
              have r5 := hp6.at_ (i := 5) rfl
              obtain ⟨w7, hrun7, hm7, hgr7, hsz7⟩ := MapF.update hmA.drew Try.underlying56 keyed50 (key_ref i (by omega)) (.int .u32 (ll : Int))
              have HRD := Lib.hid (push0 HX4.out HM1.out HG.out HNEG.out HNS.out HXB.out HFL.out hB hq hgs HR.out.n0 HR.out.n1 hp hmb HLL.out HOWN5.out HGR5.out HAT.out (by rw [← hw6]; exact hgr7) hm7)
              unfold refv at hrun7
              have HRUN7 := Lib.hid hrun7
              clear hrun7 hm7 hgr7 hsz7 hw6 h5A h56 hp6 hmA c9 f9 r1 r1b r1c a3
              go_wp2_with fail
              refine wp_region_held_drew (S := fun _ => True) (by kernel_rfl) trivial (fun hHeld => ?_)
              refine wpAnyH_take (i := 0) (v := .pointer (some ⟨p, 0, none⟩)) rfl (by kernel_rfl) (by kernel_rfl) (by kernel_rfl) (fun _ _ _ h => h) (Or.inl ⟨by rfl, fun W _ => by go_simp⟩) trivial ?_
              simp only [Act.put, List.setIfInBounds_toArray]
              refine wpAnyH_take (i := 1) (v := .pointer (some ⟨p, 0, none⟩)) rfl (by kernel_rfl) (by kernel_rfl) (by kernel_rfl) (fun _ _ _ h => h) (Or.inl ⟨by rfl, fun W _ => by go_simp⟩) trivial ?_
              simp only [Act.put]
              refine wpAnyH_take (i := 2) (v := .pointer (some ⟨p, 5, none⟩)) rfl (by kernel_rfl) (by kernel_rfl) (by kernel_rfl) (fun _ _ _ h => h) (Or.inl ⟨by rfl, fun W _ => by go_simp⟩) trivial ?_
              simp only [Act.put]
              refine wpAnyH_take (i := 4) (v := .pointer (some ⟨b5, 1, none⟩)) rfl (by kernel_rfl) (by kernel_rfl) (by kernel_rfl) (fun _ _ _ h => h) (Or.inl ⟨by rfl, fun W _ => by go_simp⟩) trivial ?_
              simp only [Act.put]
              refine wpAnyH_take (i := 6) (v := .int .u32 (ll : Int)) rfl (by kernel_rfl) (by kernel_rfl) (by kernel_rfl) (fun _ _ _ h => h) (Or.inl ⟨by rfl, fun W _ => by go_simp⟩) trivial ?_
              simp only [Act.put]
              refine wpAnyH_ready (rs := [3, 5]) (by kernel_rfl) (by simp) ?_
              refine AllReadyH.cons rfl (fun K hK => ?_) (AllReadyH.cons rfl (fun K hK => ?_) AllReadyH.nil)
              · go_simp
                refine hK.out _ _ trivial (fun _ => ?_)
                clear hK K
                try simp only [Act.put]
                refine wpAnyH_ready (rs := [5]) (by kernel_rfl) (by simp) ?_
                refine AllReadyH.cons rfl (fun K hK => ?_) AllReadyH.nil
                go_simp
                refine hK.out _ _ trivial (fun _ => ?_)
                clear hK K
                try simp only [Act.put]
                refine wpAnyH_ready (rs := [7]) (by kernel_rfl) (by simp) ?_
                refine AllReadyH.cons rfl (fun K hK => ?_) AllReadyH.nil
                refine step_mapUpdate_run rfl _ _ _ 56 rfl _ _ _ w7 rfl rfl rfl HRUN7.out ?_
                refine hK.out _ _ trivial (fun _ => ?_)
                clear hK K
                try simp only [Act.put]
                refine wpAnyH_done (by kernel_rfl) ?_ _
                go_wp2_with fail
                go_roundw
                case rel => exact ⟨k + 1, g', c', g1, c1, _, _, by omega, by go_num, HRD.out⟩
                case measure => simp [intOf]; omega
              · go_simp
                refine hK.out _ _ trivial (fun _ => ?_)
                clear hK K
                try simp only [Act.put]
                refine wpAnyH_ready (rs := [3]) (by kernel_rfl) (by simp) ?_
                refine AllReadyH.cons rfl (fun K hK => ?_) AllReadyH.nil
                go_simp
                refine hK.out _ _ trivial (fun _ => ?_)
                clear hK K
                try simp only [Act.put]
                refine wpAnyH_ready (rs := [7]) (by kernel_rfl) (by simp) ?_
                refine AllReadyH.cons rfl (fun K hK => ?_) AllReadyH.nil
                refine step_mapUpdate_run rfl _ _ _ 56 rfl _ _ _ w7 rfl rfl rfl HRUN7.out ?_
                refine hK.out _ _ trivial (fun _ => ?_)
                clear hK K
                try simp only [Act.put]
                refine wpAnyH_done (by kernel_rfl) ?_ _
                go_wp2_with fail
                go_roundw
                case rel => exact ⟨k + 1, g', c', g1, c1, _, _, by omega, by go_num, HRD.out⟩
                case measure => simp [intOf]; omega
            · go_simp
              refine hK.out _ _ trivial (fun _ => ?_)
              clear hK K
              try simp only [Act.put]
              refine wpAnyH_take (i := 7) (v := .agg #[.string ByteArray.empty, .int .u32 x, .int .u32 0]) rfl (by kernel_rfl) (by kernel_rfl) (by kernel_rfl) (fun _ _ _ h => h) (Or.inl ⟨by rfl, fun W _ => by go_simp; rfl⟩) trivial ?_
              simp only [Act.put]
              refine wpAnyH_ready (rs := [3, 8]) (by kernel_rfl) (by simp) ?_
              refine AllReadyH.cons rfl (fun K hK => ?_) (AllReadyH.cons rfl (fun K hK => ?_) AllReadyH.nil)
              · go_simp
                refine hK.out _ _ trivial (fun _ => ?_)
                clear hK K
                try simp only [Act.put]
                refine wpAnyH_ready (rs := [8]) (by kernel_rfl) (by simp) ?_
                refine AllReadyH.cons rfl (fun K hK => ?_) AllReadyH.nil
                go_simp
                refine hK.out _ _ trivial (fun _ => ?_)
                clear hK K
                try simp only [Act.put]
                refine wpAnyH_ready (rs := [9]) (by kernel_rfl) (by simp) ?_
                refine AllReadyH.cons rfl (fun K hK => ?_) AllReadyH.nil
                refine step_append_run rfl _ _ 54 54 rfl _ _ _ w5 rfl rfl HRUN.out ?_
                refine hK.out _ _ trivial (fun _ => ?_)
                clear hK K
                try simp only [Act.put]
                refine wpAnyH_take (i := 10) (v := .pointer (some ⟨p, 1, none⟩)) rfl (by kernel_rfl) (by kernel_rfl) (by kernel_rfl) (fun _ _ _ h => h) (Or.inl ⟨by rfl, fun W _ => by go_simp⟩) trivial ?_
                simp only [Act.put]
                refine wpAnyH_ready (rs := [11]) (by kernel_rfl) (by simp) ?_
                refine AllReadyH.cons rfl (fun K hK => ?_) AllReadyH.nil
                go_simp
                refine hK.out _ _ trivial (fun _ => ?_)
                clear hK K
                try simp only [Act.put]
                refine wpAnyH_done (by kernel_rfl) ?_ _
                obtain ⟨w6, hw6⟩ : ∃ w6, w6 = w5.setCell ⟨p, 1, none⟩ (.slice (some ⟨g', 0, none⟩) (ll + 1) c') := ⟨_, rfl⟩
                have hmA : MapF Try.prog w6 mb 50 cnt f := by rw [hw6]; exact (HRNA.out.mp.kept HGR5.out (fun e => by injection e with e; exact sb_ne_map HRNA.out.b0 HRNA.out.mp e)).set (row_ne_map HRNA.out.row HRNA.out.mp) _
                have h5A := (HX4.out.row5.below HWA.out HX4.out.row5.lt).grown HGR5.out (fun e => by injection e with e; exact N5.out.2.2.1 e)
                have h56 := h5A.far (p := ⟨p, 1, none⟩) N5.out.1 (.slice (some ⟨g', 0, none⟩) (ll + 1) c')
                have hp6 := (HRNA.out.row.grown HGR5.out (fun e => (by injection e with e; exact sb_ne_row HRNA.out.b0 HRNA.out.row (by decide) e))).set 1 (.slice (some ⟨g', 0, none⟩) (ll + 1) c')
                rw [← hw6] at h56 hp6 ⊢
                have a1 := h56.at_ (i := 1) rfl
                have a2 := h56.at_ (i := 2) rfl
                have r5 := hp6.at_ (i := 5) rfl
                obtain ⟨w7, hrun7, hm7, hgr7, hsz7⟩ := MapF.update hmA.drew Try.underlying56 keyed50 (key_ref i (by omega)) (.int .u32 (ll : Int))
                have HRD := Lib.hid (push0 HX4.out HM1.out HG.out HNEG.out HNS.out HXB.out HFL.out hB hq hgs HR.out.n0 HR.out.n1 hp hmb HLL.out HOWN5.out HGR5.out HAT.out (by rw [← hw6]; exact hgr7) hm7)
                unfold refv at hrun7
                have HRUN7 := Lib.hid hrun7
                clear hrun7 hm7 hgr7 hsz7 hw6 h5A h56 hp6 hmA c9 f9 r1 r1b r1c a3
                go_wp2_with fail
                refine wp_region_held_drew (S := fun _ => True) (by kernel_rfl) trivial (fun hHeld => ?_)
                refine wpAnyH_take (i := 0) (v := .pointer (some ⟨p, 0, none⟩)) rfl (by kernel_rfl) (by kernel_rfl) (by kernel_rfl) (fun _ _ _ h => h) (Or.inl ⟨by rfl, fun W _ => by go_simp⟩) trivial ?_
                simp only [Act.put, List.setIfInBounds_toArray]
                refine wpAnyH_take (i := 1) (v := .pointer (some ⟨p, 0, none⟩)) rfl (by kernel_rfl) (by kernel_rfl) (by kernel_rfl) (fun _ _ _ h => h) (Or.inl ⟨by rfl, fun W _ => by go_simp⟩) trivial ?_
                simp only [Act.put]
                refine wpAnyH_take (i := 2) (v := .pointer (some ⟨p, 5, none⟩)) rfl (by kernel_rfl) (by kernel_rfl) (by kernel_rfl) (fun _ _ _ h => h) (Or.inl ⟨by rfl, fun W _ => by go_simp⟩) trivial ?_
                simp only [Act.put]
                refine wpAnyH_take (i := 4) (v := .pointer (some ⟨b5, 1, none⟩)) rfl (by kernel_rfl) (by kernel_rfl) (by kernel_rfl) (fun _ _ _ h => h) (Or.inl ⟨by rfl, fun W _ => by go_simp⟩) trivial ?_
                simp only [Act.put]
                refine wpAnyH_take (i := 6) (v := .int .u32 (ll : Int)) rfl (by kernel_rfl) (by kernel_rfl) (by kernel_rfl) (fun _ _ _ h => h) (Or.inl ⟨by rfl, fun W _ => by go_simp⟩) trivial ?_
                simp only [Act.put]
                refine wpAnyH_ready (rs := [3, 5]) (by kernel_rfl) (by simp) ?_
                refine AllReadyH.cons rfl (fun K hK => ?_) (AllReadyH.cons rfl (fun K hK => ?_) AllReadyH.nil)
                · go_simp
                  refine hK.out _ _ trivial (fun _ => ?_)
                  clear hK K
                  try simp only [Act.put]
                  refine wpAnyH_ready (rs := [5]) (by kernel_rfl) (by simp) ?_
                  refine AllReadyH.cons rfl (fun K hK => ?_) AllReadyH.nil
                  go_simp
                  refine hK.out _ _ trivial (fun _ => ?_)
                  clear hK K
                  try simp only [Act.put]
                  refine wpAnyH_ready (rs := [7]) (by kernel_rfl) (by simp) ?_
                  refine AllReadyH.cons rfl (fun K hK => ?_) AllReadyH.nil
                  refine step_mapUpdate_run rfl _ _ _ 56 rfl _ _ _ w7 rfl rfl rfl HRUN7.out ?_
                  refine hK.out _ _ trivial (fun _ => ?_)
                  clear hK K
                  try simp only [Act.put]
                  refine wpAnyH_done (by kernel_rfl) ?_ _
                  go_wp2_with fail
                  go_roundw
                  case rel => exact ⟨k + 1, g', c', g1, c1, _, _, by omega, by go_num, HRD.out⟩
                  case measure => simp [intOf]; omega
                · go_simp
                  refine hK.out _ _ trivial (fun _ => ?_)
                  clear hK K
                  try simp only [Act.put]
                  refine wpAnyH_ready (rs := [3]) (by kernel_rfl) (by simp) ?_
                  refine AllReadyH.cons rfl (fun K hK => ?_) AllReadyH.nil
                  go_simp
                  refine hK.out _ _ trivial (fun _ => ?_)
                  clear hK K
                  try simp only [Act.put]
                  refine wpAnyH_ready (rs := [7]) (by kernel_rfl) (by simp) ?_
                  refine AllReadyH.cons rfl (fun K hK => ?_) AllReadyH.nil
                  refine step_mapUpdate_run rfl _ _ _ 56 rfl _ _ _ w7 rfl rfl rfl HRUN7.out ?_
                  refine hK.out _ _ trivial (fun _ => ?_)
                  clear hK K
                  try simp only [Act.put]
                  refine wpAnyH_done (by kernel_rfl) ?_ _
                  go_wp2_with fail
                  go_roundw
                  case rel => exact ⟨k + 1, g', c', g1, c1, _, _, by omega, by go_num, HRD.out⟩
                  case measure => simp [intOf]; omega
              · go_simp
                refine hK.out _ _ trivial (fun _ => ?_)
                clear hK K
                try simp only [Act.put]
                refine wpAnyH_ready (rs := [3]) (by kernel_rfl) (by simp) ?_
                refine AllReadyH.cons rfl (fun K hK => ?_) AllReadyH.nil
                go_simp
                refine hK.out _ _ trivial (fun _ => ?_)
                clear hK K
                try simp only [Act.put]
                refine wpAnyH_ready (rs := [9]) (by kernel_rfl) (by simp) ?_
                refine AllReadyH.cons rfl (fun K hK => ?_) AllReadyH.nil
                refine step_append_run rfl _ _ 54 54 rfl _ _ _ w5 rfl rfl HRUN.out ?_
                refine hK.out _ _ trivial (fun _ => ?_)
                clear hK K
                try simp only [Act.put]
                refine wpAnyH_take (i := 10) (v := .pointer (some ⟨p, 1, none⟩)) rfl (by kernel_rfl) (by kernel_rfl) (by kernel_rfl) (fun _ _ _ h => h) (Or.inl ⟨by rfl, fun W _ => by go_simp⟩) trivial ?_
                simp only [Act.put]
                refine wpAnyH_ready (rs := [11]) (by kernel_rfl) (by simp) ?_
                refine AllReadyH.cons rfl (fun K hK => ?_) AllReadyH.nil
                go_simp
                refine hK.out _ _ trivial (fun _ => ?_)
                clear hK K
                try simp only [Act.put]
                refine wpAnyH_done (by kernel_rfl) ?_ _
                obtain ⟨w6, hw6⟩ : ∃ w6, w6 = w5.setCell ⟨p, 1, none⟩ (.slice (some ⟨g', 0, none⟩) (ll + 1) c') := ⟨_, rfl⟩
                have hmA : MapF Try.prog w6 mb 50 cnt f := by rw [hw6]; exact (HRNA.out.mp.kept HGR5.out (fun e => by injection e with e; exact sb_ne_map HRNA.out.b0 HRNA.out.mp e)).set (row_ne_map HRNA.out.row HRNA.out.mp) _
                have h5A := (HX4.out.row5.below HWA.out HX4.out.row5.lt).grown HGR5.out (fun e => by injection e with e; exact N5.out.2.2.1 e)
                have h56 := h5A.far (p := ⟨p, 1, none⟩) N5.out.1 (.slice (some ⟨g', 0, none⟩) (ll + 1) c')
                have hp6 := (HRNA.out.row.grown HGR5.out (fun e => (by injection e with e; exact sb_ne_row HRNA.out.b0 HRNA.out.row (by decide) e))).set 1 (.slice (some ⟨g', 0, none⟩) (ll + 1) c')
                rw [← hw6] at h56 hp6 ⊢
                have a1 := h56.at_ (i := 1) rfl
                have a2 := h56.at_ (i := 2) rfl
                have r5 := hp6.at_ (i := 5) rfl
                obtain ⟨w7, hrun7, hm7, hgr7, hsz7⟩ := MapF.update hmA.drew Try.underlying56 keyed50 (key_ref i (by omega)) (.int .u32 (ll : Int))
                have HRD := Lib.hid (push0 HX4.out HM1.out HG.out HNEG.out HNS.out HXB.out HFL.out hB hq hgs HR.out.n0 HR.out.n1 hp hmb HLL.out HOWN5.out HGR5.out HAT.out (by rw [← hw6]; exact hgr7) hm7)
                unfold refv at hrun7
                have HRUN7 := Lib.hid hrun7
                clear hrun7 hm7 hgr7 hsz7 hw6 h5A h56 hp6 hmA c9 f9 r1 r1b r1c a3
                go_wp2_with fail
                refine wp_region_held_drew (S := fun _ => True) (by kernel_rfl) trivial (fun hHeld => ?_)
                refine wpAnyH_take (i := 0) (v := .pointer (some ⟨p, 0, none⟩)) rfl (by kernel_rfl) (by kernel_rfl) (by kernel_rfl) (fun _ _ _ h => h) (Or.inl ⟨by rfl, fun W _ => by go_simp⟩) trivial ?_
                simp only [Act.put, List.setIfInBounds_toArray]
                refine wpAnyH_take (i := 1) (v := .pointer (some ⟨p, 0, none⟩)) rfl (by kernel_rfl) (by kernel_rfl) (by kernel_rfl) (fun _ _ _ h => h) (Or.inl ⟨by rfl, fun W _ => by go_simp⟩) trivial ?_
                simp only [Act.put]
                refine wpAnyH_take (i := 2) (v := .pointer (some ⟨p, 5, none⟩)) rfl (by kernel_rfl) (by kernel_rfl) (by kernel_rfl) (fun _ _ _ h => h) (Or.inl ⟨by rfl, fun W _ => by go_simp⟩) trivial ?_
                simp only [Act.put]
                refine wpAnyH_take (i := 4) (v := .pointer (some ⟨b5, 1, none⟩)) rfl (by kernel_rfl) (by kernel_rfl) (by kernel_rfl) (fun _ _ _ h => h) (Or.inl ⟨by rfl, fun W _ => by go_simp⟩) trivial ?_
                simp only [Act.put]
                refine wpAnyH_take (i := 6) (v := .int .u32 (ll : Int)) rfl (by kernel_rfl) (by kernel_rfl) (by kernel_rfl) (fun _ _ _ h => h) (Or.inl ⟨by rfl, fun W _ => by go_simp⟩) trivial ?_
                simp only [Act.put]
                refine wpAnyH_ready (rs := [3, 5]) (by kernel_rfl) (by simp) ?_
                refine AllReadyH.cons rfl (fun K hK => ?_) (AllReadyH.cons rfl (fun K hK => ?_) AllReadyH.nil)
                · go_simp
                  refine hK.out _ _ trivial (fun _ => ?_)
                  clear hK K
                  try simp only [Act.put]
                  refine wpAnyH_ready (rs := [5]) (by kernel_rfl) (by simp) ?_
                  refine AllReadyH.cons rfl (fun K hK => ?_) AllReadyH.nil
                  go_simp
                  refine hK.out _ _ trivial (fun _ => ?_)
                  clear hK K
                  try simp only [Act.put]
                  refine wpAnyH_ready (rs := [7]) (by kernel_rfl) (by simp) ?_
                  refine AllReadyH.cons rfl (fun K hK => ?_) AllReadyH.nil
                  refine step_mapUpdate_run rfl _ _ _ 56 rfl _ _ _ w7 rfl rfl rfl HRUN7.out ?_
                  refine hK.out _ _ trivial (fun _ => ?_)
                  clear hK K
                  try simp only [Act.put]
                  refine wpAnyH_done (by kernel_rfl) ?_ _
                  go_wp2_with fail
                  go_roundw
                  case rel => exact ⟨k + 1, g', c', g1, c1, _, _, by omega, by go_num, HRD.out⟩
                  case measure => simp [intOf]; omega
                · go_simp
                  refine hK.out _ _ trivial (fun _ => ?_)
                  clear hK K
                  try simp only [Act.put]
                  refine wpAnyH_ready (rs := [3]) (by kernel_rfl) (by simp) ?_
                  refine AllReadyH.cons rfl (fun K hK => ?_) AllReadyH.nil
                  go_simp
                  refine hK.out _ _ trivial (fun _ => ?_)
                  clear hK K
                  try simp only [Act.put]
                  refine wpAnyH_ready (rs := [7]) (by kernel_rfl) (by simp) ?_
                  refine AllReadyH.cons rfl (fun K hK => ?_) AllReadyH.nil
                  refine step_mapUpdate_run rfl _ _ _ 56 rfl _ _ _ w7 rfl rfl rfl HRUN7.out ?_
                  refine hK.out _ _ trivial (fun _ => ?_)
                  clear hK K
                  try simp only [Act.put]
                  refine wpAnyH_done (by kernel_rfl) ?_ _
                  go_wp2_with fail
                  go_roundw
                  case rel => exact ⟨k + 1, g', c', g1, c1, _, _, by omega, by go_num, HRD.out⟩
                  case measure => simp [intOf]; omega
          | true =>
            rw [hj] at H25
            have HFL := Lib.hid (show flag F i = 1 by unfold flag; rw [hj]; rfl)
            have hWA : Below w4.heap.size w4 ((w4.alloc (.cells #[.string ByteArray.empty, .int .u32 x, .int .u32 1] 83)).drew) := ((Below.refl _ _).alloc (Nat.le_refl _) _).drew
            have hWB : Below B w4 ((w4.alloc (.cells #[.string ByteArray.empty, .int .u32 x, .int .u32 1] 83)).drew) := hWA.mono (Nat.le_trans hB HX4.out.bel.size)
            have rnA := HX4.out.rn.below hWA
            obtain ⟨i83, hi83, hzz⟩ := Option.map_eq_some_iff.1 info83
            simp only [Prod.mk.injEq] at hzz
            obtain ⟨hz1, hz2, hz3⟩ := hzz
            have hownA : World.ownsRow ((w4.alloc (.cells #[.string ByteArray.empty, .int .u32 x, .int .u32 1] 83)).drew) B 83 3 (.slice (some ⟨g0, 0, none⟩) ll c0) ll (sl (slotsL (ini 0) (flag F) M.sum (M.o 0))) := by
              have h := rnA.b0
              unfold Sb at h
              rw [slotsL_len, ← HLL.out] at h
              exact h
            have hrow8 := (Row.newArr w4 83 #[.string ByteArray.empty, .int .u32 x, .int .u32 1]).drew
            obtain ⟨v5, w5, hrun, hown5, hgr5, _, hat5⟩ := run_append_own_at (P := Try.prog) ((w4.alloc (.cells #[.string ByteArray.empty, .int .u32 x, .int .u32 1] 83)).drew) B 54 54 83 i83 _ 3 24 Try.underlying54 hi83 hz1 hz2 hz3 rfl (by decide) (.slice (some ⟨g0, 0, none⟩) ll c0) ll (sl (slotsL (ini 0) (flag F) M.sum (M.o 0))) hownA ⟨w4.heap.size, 0, none⟩ 1 1 [.string ByteArray.empty, .int .u32 x, .int .u32 1] rfl (fun j u hu => (by
              have hj3 : j < 3 := (List.getElem?_eq_some_iff.1 hu).1
              have hadd : (⟨w4.heap.size, 0, none⟩ : Addr).add j = ⟨w4.heap.size, j, none⟩ := (by unfold Addr.add; split <;> simp_all)
              rw [hadd]
              exact hrow8.at_ hu)) (fun u hu => (by simp only [List.mem_cons, List.not_mem_nil, or_false] at hu; rcases hu with rfl | rfl | rfl <;> rfl)) (by unfold maxLen; omega) (by omega) (by have := hWB.size; have := HX4.out.bel.size; omega)
            obtain ⟨g', c', hv5⟩ := slice_of_own hown5
            subst hv5
            have hat : g' = g0 ∨ g' = ((w4.alloc (.cells #[.string ByteArray.empty, .int .u32 x, .int .u32 1] 83)).drew).heap.size := (by
              rcases hat5 with h | h
              · left; simpa [Value.ownBlock] using h
              · right; simpa [Value.ownBlock] using h)
            have hgr5' : World.grownBy ((w4.alloc (.cells #[.string ByteArray.empty, .int .u32 x, .int .u32 1] 83)).drew) w5 (some g0) := hgr5
            have hr5 := rnA.row.grown hgr5' (fun e => (by injection e with e; exact sb_ne_row rnA.b0 rnA.row (by decide) e))
            have c9 := hr5.at_ (i := 1) rfl
            have f9 := hr5.frozen 1
            rw [← HLL.out] at c9
            have r1b := rnA.row.at_ (i := 1) rfl
            have r1c := (HX4.out.rn.below ((Below.refl w4.heap.size w4).alloc (Nat.le_refl _) (.cells #[.string ByteArray.empty, .int .u32 x, .int .u32 1] 83))).row.at_ (i := 1) rfl
            rw [← HLL.out] at r1b r1c
            have a3 := HX4.out.row5.at_ (i := 3) rfl
            have HRUN := Lib.hid hrun
            have HRNA := Lib.hid rnA
            have HOWN5 := Lib.hid hown5
            have HGR5 := Lib.hid hgr5'
            have HAT := Lib.hid hat
            have HWA := Lib.hid hWA
            have HWB := Lib.hid hWB
            clear hrun rnA hown5 hgr5 hgr5' hat hat5 hownA hrow8 hr5 hWA hWB hj
            have HI83 := Lib.hid hi83
            clear hi83 hz1 hz2 hz3
            go_wp2_with (go_at_call 25; (with_reducible refine H25.out.mono ?_); rintro e w9 ⟨rfl, rfl⟩)
            refine wp_region_held_drew (S := fun _ => True) (by kernel_rfl) trivial (fun hHeld => ?_)
            refine wpAnyH_take (i := 0) (v := .pointer (some ⟨p, 1, none⟩)) rfl (by kernel_rfl) (by kernel_rfl) (by kernel_rfl) (fun _ _ _ h => h) (Or.inl ⟨by rfl, fun W _ => by go_simp⟩) trivial ?_
            simp only [Act.put, List.setIfInBounds_toArray]
            refine wpAnyH_take (i := 1) (v := .pointer (some ⟨p, 1, none⟩)) rfl (by kernel_rfl) (by kernel_rfl) (by kernel_rfl) (fun _ _ _ h => h) (Or.inl ⟨by rfl, fun W _ => by go_simp⟩) trivial ?_
            simp only [Act.put]
            refine wpAnyH_take (i := 2) (v := .pointer (some ⟨p, 1, none⟩)) rfl (by kernel_rfl) (by kernel_rfl) (by kernel_rfl) (fun _ _ _ h => h) (Or.inl ⟨by rfl, fun W _ => by go_simp⟩) trivial ?_
            simp only [Act.put]
            refine wpAnyH_take (i := 4) (v := .pointer (some ⟨b5, 3, none⟩)) rfl (by kernel_rfl) (by kernel_rfl) (by kernel_rfl) (fun _ _ _ h => h) (Or.inl ⟨by rfl, fun W _ => by go_simp⟩) trivial ?_
            simp only [Act.put]
            refine wpAnyH_take (i := 6) (v := .int .u32 1) rfl (by kernel_rfl) (by kernel_rfl) (by kernel_rfl) (fun _ _ _ h => h) (Or.inl ⟨by rfl, fun W _ => by go_simp⟩) trivial ?_
            simp only [Act.put]
            refine wpAnyH_ready (rs := [3, 5]) (by kernel_rfl) (by simp) ?_
            refine AllReadyH.cons rfl (fun K hK => ?_) (AllReadyH.cons rfl (fun K hK => ?_) AllReadyH.nil)
            · go_simp
              refine hK.out _ _ trivial (fun _ => ?_)
              clear hK K
              try simp only [Act.put]
              refine wpAnyH_ready (rs := [5]) (by kernel_rfl) (by simp) ?_
              refine AllReadyH.cons rfl (fun K hK => ?_) AllReadyH.nil
              go_simp
              refine hK.out _ _ trivial (fun _ => ?_)
              clear hK K
              try simp only [Act.put]
              refine wpAnyH_take (i := 7) (v := .agg #[.string ByteArray.empty, .int .u32 x, .int .u32 1]) rfl (by kernel_rfl) (by kernel_rfl) (by kernel_rfl) (fun _ _ _ h => h) (Or.inl ⟨by rfl, fun W _ => by go_simp; rfl⟩) trivial ?_
              simp only [Act.put]
              refine wpAnyH_ready (rs := [8]) (by kernel_rfl) (by simp) ?_
              refine AllReadyH.cons rfl (fun K hK => ?_) AllReadyH.nil
              go_simp
              refine hK.out _ _ trivial (fun _ => ?_)
              clear hK K
              try simp only [Act.put]
              refine wpAnyH_ready (rs := [9]) (by kernel_rfl) (by simp) ?_
              refine AllReadyH.cons rfl (fun K hK => ?_) AllReadyH.nil
              refine step_append_run rfl _ _ 54 54 rfl _ _ _ w5 rfl rfl HRUN.out ?_
              refine hK.out _ _ trivial (fun _ => ?_)
              clear hK K
              try simp only [Act.put]
              refine wpAnyH_take (i := 10) (v := .pointer (some ⟨p, 1, none⟩)) rfl (by kernel_rfl) (by kernel_rfl) (by kernel_rfl) (fun _ _ _ h => h) (Or.inl ⟨by rfl, fun W _ => by go_simp⟩) trivial ?_
              simp only [Act.put]
              refine wpAnyH_ready (rs := [11]) (by kernel_rfl) (by simp) ?_
              refine AllReadyH.cons rfl (fun K hK => ?_) AllReadyH.nil
              go_simp
              refine hK.out _ _ trivial (fun _ => ?_)
              clear hK K
              try simp only [Act.put]
              refine wpAnyH_done (by kernel_rfl) ?_ _
              obtain ⟨w6, hw6⟩ : ∃ w6, w6 = w5.setCell ⟨p, 1, none⟩ (.slice (some ⟨g', 0, none⟩) (ll + 1) c') := ⟨_, rfl⟩
              have hmA : MapF Try.prog w6 mb 50 cnt f := by rw [hw6]; exact (HRNA.out.mp.kept HGR5.out (fun e => by injection e with e; exact sb_ne_map HRNA.out.b0 HRNA.out.mp e)).set (row_ne_map HRNA.out.row HRNA.out.mp) _
              have h5A := (HX4.out.row5.below HWA.out HX4.out.row5.lt).grown HGR5.out (fun e => by injection e with e; exact N5.out.2.2.1 e)
              have h56 := h5A.far (p := ⟨p, 1, none⟩) N5.out.1 (.slice (some ⟨g', 0, none⟩) (ll + 1) c')
              have hp6 := (HRNA.out.row.grown HGR5.out (fun e => (by injection e with e; exact sb_ne_row HRNA.out.b0 HRNA.out.row (by decide) e))).set 1 (.slice (some ⟨g', 0, none⟩) (ll + 1) c')
              rw [← hw6] at h56 hp6 ⊢
              have a1 := h56.at_ (i := 1) rfl
              have a2 := h56.at_ (i := 2) rfl
              have r5 := hp6.at_ (i := 5) rfl
              obtain ⟨w7, hrun7, hm7, hgr7, hsz7⟩ := MapF.update hmA.drew Try.underlying56 keyed50 (key_ref i (by omega)) (.int .u32 (ll : Int))
              have HRD := Lib.hid (push0 HX4.out HM1.out HG.out HNEG.out HNS.out HXB.out HFL.out hB hq hgs HR.out.n0 HR.out.n1 hp hmb HLL.out HOWN5.out HGR5.out HAT.out (by rw [← hw6]; exact hgr7) hm7)
              unfold refv at hrun7
              have HRUN7 := Lib.hid hrun7
              clear hrun7 hm7 hgr7 hsz7 hw6 h5A h56 hp6 hmA c9 f9 r1 r1b r1c a3
              go_wp2_with fail
              refine wp_region_held_drew (S := fun _ => True) (by kernel_rfl) trivial (fun hHeld => ?_)
              refine wpAnyH_take (i := 0) (v := .pointer (some ⟨p, 0, none⟩)) rfl (by kernel_rfl) (by kernel_rfl) (by kernel_rfl) (fun _ _ _ h => h) (Or.inl ⟨by rfl, fun W _ => by go_simp⟩) trivial ?_
              simp only [Act.put, List.setIfInBounds_toArray]
              refine wpAnyH_take (i := 1) (v := .pointer (some ⟨p, 0, none⟩)) rfl (by kernel_rfl) (by kernel_rfl) (by kernel_rfl) (fun _ _ _ h => h) (Or.inl ⟨by rfl, fun W _ => by go_simp⟩) trivial ?_
              simp only [Act.put]
              refine wpAnyH_take (i := 2) (v := .pointer (some ⟨p, 5, none⟩)) rfl (by kernel_rfl) (by kernel_rfl) (by kernel_rfl) (fun _ _ _ h => h) (Or.inl ⟨by rfl, fun W _ => by go_simp⟩) trivial ?_
              simp only [Act.put]
              refine wpAnyH_take (i := 4) (v := .pointer (some ⟨b5, 1, none⟩)) rfl (by kernel_rfl) (by kernel_rfl) (by kernel_rfl) (fun _ _ _ h => h) (Or.inl ⟨by rfl, fun W _ => by go_simp⟩) trivial ?_
              simp only [Act.put]
              refine wpAnyH_take (i := 6) (v := .int .u32 (ll : Int)) rfl (by kernel_rfl) (by kernel_rfl) (by kernel_rfl) (fun _ _ _ h => h) (Or.inl ⟨by rfl, fun W _ => by go_simp⟩) trivial ?_
              simp only [Act.put]
              refine wpAnyH_ready (rs := [3, 5]) (by kernel_rfl) (by simp) ?_
              refine AllReadyH.cons rfl (fun K hK => ?_) (AllReadyH.cons rfl (fun K hK => ?_) AllReadyH.nil)
              · go_simp
                refine hK.out _ _ trivial (fun _ => ?_)
                clear hK K
                try simp only [Act.put]
                refine wpAnyH_ready (rs := [5]) (by kernel_rfl) (by simp) ?_
                refine AllReadyH.cons rfl (fun K hK => ?_) AllReadyH.nil
                go_simp
                refine hK.out _ _ trivial (fun _ => ?_)
                clear hK K
                try simp only [Act.put]
                refine wpAnyH_ready (rs := [7]) (by kernel_rfl) (by simp) ?_
                refine AllReadyH.cons rfl (fun K hK => ?_) AllReadyH.nil
                refine step_mapUpdate_run rfl _ _ _ 56 rfl _ _ _ w7 rfl rfl rfl HRUN7.out ?_
                refine hK.out _ _ trivial (fun _ => ?_)
                clear hK K
                try simp only [Act.put]
                refine wpAnyH_done (by kernel_rfl) ?_ _
                go_wp2_with fail
                go_roundw
                case rel => exact ⟨k + 1, g', c', g1, c1, _, _, by omega, by go_num, HRD.out⟩
                case measure => simp [intOf]; omega
              · go_simp
                refine hK.out _ _ trivial (fun _ => ?_)
                clear hK K
                try simp only [Act.put]
                refine wpAnyH_ready (rs := [3]) (by kernel_rfl) (by simp) ?_
                refine AllReadyH.cons rfl (fun K hK => ?_) AllReadyH.nil
                go_simp
                refine hK.out _ _ trivial (fun _ => ?_)
                clear hK K
                try simp only [Act.put]
                refine wpAnyH_ready (rs := [7]) (by kernel_rfl) (by simp) ?_
                refine AllReadyH.cons rfl (fun K hK => ?_) AllReadyH.nil
                refine step_mapUpdate_run rfl _ _ _ 56 rfl _ _ _ w7 rfl rfl rfl HRUN7.out ?_
                refine hK.out _ _ trivial (fun _ => ?_)
                clear hK K
                try simp only [Act.put]
                refine wpAnyH_done (by kernel_rfl) ?_ _
                go_wp2_with fail
                go_roundw
                case rel => exact ⟨k + 1, g', c', g1, c1, _, _, by omega, by go_num, HRD.out⟩
                case measure => simp [intOf]; omega
            · go_simp
              refine hK.out _ _ trivial (fun _ => ?_)
              clear hK K
              try simp only [Act.put]
              refine wpAnyH_take (i := 7) (v := .agg #[.string ByteArray.empty, .int .u32 x, .int .u32 1]) rfl (by kernel_rfl) (by kernel_rfl) (by kernel_rfl) (fun _ _ _ h => h) (Or.inl ⟨by rfl, fun W _ => by go_simp; rfl⟩) trivial ?_
              simp only [Act.put]
              refine wpAnyH_ready (rs := [3, 8]) (by kernel_rfl) (by simp) ?_
              refine AllReadyH.cons rfl (fun K hK => ?_) (AllReadyH.cons rfl (fun K hK => ?_) AllReadyH.nil)
              · go_simp
                refine hK.out _ _ trivial (fun _ => ?_)
                clear hK K
                try simp only [Act.put]
                refine wpAnyH_ready (rs := [8]) (by kernel_rfl) (by simp) ?_
                refine AllReadyH.cons rfl (fun K hK => ?_) AllReadyH.nil
                go_simp
                refine hK.out _ _ trivial (fun _ => ?_)
                clear hK K
                try simp only [Act.put]
                refine wpAnyH_ready (rs := [9]) (by kernel_rfl) (by simp) ?_
                refine AllReadyH.cons rfl (fun K hK => ?_) AllReadyH.nil
                refine step_append_run rfl _ _ 54 54 rfl _ _ _ w5 rfl rfl HRUN.out ?_
                refine hK.out _ _ trivial (fun _ => ?_)
                clear hK K
                try simp only [Act.put]
                refine wpAnyH_take (i := 10) (v := .pointer (some ⟨p, 1, none⟩)) rfl (by kernel_rfl) (by kernel_rfl) (by kernel_rfl) (fun _ _ _ h => h) (Or.inl ⟨by rfl, fun W _ => by go_simp⟩) trivial ?_
                simp only [Act.put]
                refine wpAnyH_ready (rs := [11]) (by kernel_rfl) (by simp) ?_
                refine AllReadyH.cons rfl (fun K hK => ?_) AllReadyH.nil
                go_simp
                refine hK.out _ _ trivial (fun _ => ?_)
                clear hK K
                try simp only [Act.put]
                refine wpAnyH_done (by kernel_rfl) ?_ _
                obtain ⟨w6, hw6⟩ : ∃ w6, w6 = w5.setCell ⟨p, 1, none⟩ (.slice (some ⟨g', 0, none⟩) (ll + 1) c') := ⟨_, rfl⟩
                have hmA : MapF Try.prog w6 mb 50 cnt f := by rw [hw6]; exact (HRNA.out.mp.kept HGR5.out (fun e => by injection e with e; exact sb_ne_map HRNA.out.b0 HRNA.out.mp e)).set (row_ne_map HRNA.out.row HRNA.out.mp) _
                have h5A := (HX4.out.row5.below HWA.out HX4.out.row5.lt).grown HGR5.out (fun e => by injection e with e; exact N5.out.2.2.1 e)
                have h56 := h5A.far (p := ⟨p, 1, none⟩) N5.out.1 (.slice (some ⟨g', 0, none⟩) (ll + 1) c')
                have hp6 := (HRNA.out.row.grown HGR5.out (fun e => (by injection e with e; exact sb_ne_row HRNA.out.b0 HRNA.out.row (by decide) e))).set 1 (.slice (some ⟨g', 0, none⟩) (ll + 1) c')
                rw [← hw6] at h56 hp6 ⊢
                have a1 := h56.at_ (i := 1) rfl
                have a2 := h56.at_ (i := 2) rfl
                have r5 := hp6.at_ (i := 5) rfl
                obtain ⟨w7, hrun7, hm7, hgr7, hsz7⟩ := MapF.update hmA.drew Try.underlying56 keyed50 (key_ref i (by omega)) (.int .u32 (ll : Int))
                have HRD := Lib.hid (push0 HX4.out HM1.out HG.out HNEG.out HNS.out HXB.out HFL.out hB hq hgs HR.out.n0 HR.out.n1 hp hmb HLL.out HOWN5.out HGR5.out HAT.out (by rw [← hw6]; exact hgr7) hm7)
                unfold refv at hrun7
                have HRUN7 := Lib.hid hrun7
                clear hrun7 hm7 hgr7 hsz7 hw6 h5A h56 hp6 hmA c9 f9 r1 r1b r1c a3
                go_wp2_with fail
                refine wp_region_held_drew (S := fun _ => True) (by kernel_rfl) trivial (fun hHeld => ?_)
                refine wpAnyH_take (i := 0) (v := .pointer (some ⟨p, 0, none⟩)) rfl (by kernel_rfl) (by kernel_rfl) (by kernel_rfl) (fun _ _ _ h => h) (Or.inl ⟨by rfl, fun W _ => by go_simp⟩) trivial ?_
                simp only [Act.put, List.setIfInBounds_toArray]
                refine wpAnyH_take (i := 1) (v := .pointer (some ⟨p, 0, none⟩)) rfl (by kernel_rfl) (by kernel_rfl) (by kernel_rfl) (fun _ _ _ h => h) (Or.inl ⟨by rfl, fun W _ => by go_simp⟩) trivial ?_
                simp only [Act.put]
                refine wpAnyH_take (i := 2) (v := .pointer (some ⟨p, 5, none⟩)) rfl (by kernel_rfl) (by kernel_rfl) (by kernel_rfl) (fun _ _ _ h => h) (Or.inl ⟨by rfl, fun W _ => by go_simp⟩) trivial ?_
                simp only [Act.put]
                refine wpAnyH_take (i := 4) (v := .pointer (some ⟨b5, 1, none⟩)) rfl (by kernel_rfl) (by kernel_rfl) (by kernel_rfl) (fun _ _ _ h => h) (Or.inl ⟨by rfl, fun W _ => by go_simp⟩) trivial ?_
                simp only [Act.put]
                refine wpAnyH_take (i := 6) (v := .int .u32 (ll : Int)) rfl (by kernel_rfl) (by kernel_rfl) (by kernel_rfl) (fun _ _ _ h => h) (Or.inl ⟨by rfl, fun W _ => by go_simp⟩) trivial ?_
                simp only [Act.put]
                refine wpAnyH_ready (rs := [3, 5]) (by kernel_rfl) (by simp) ?_
                refine AllReadyH.cons rfl (fun K hK => ?_) (AllReadyH.cons rfl (fun K hK => ?_) AllReadyH.nil)
                · go_simp
                  refine hK.out _ _ trivial (fun _ => ?_)
                  clear hK K
                  try simp only [Act.put]
                  refine wpAnyH_ready (rs := [5]) (by kernel_rfl) (by simp) ?_
                  refine AllReadyH.cons rfl (fun K hK => ?_) AllReadyH.nil
                  go_simp
                  refine hK.out _ _ trivial (fun _ => ?_)
                  clear hK K
                  try simp only [Act.put]
                  refine wpAnyH_ready (rs := [7]) (by kernel_rfl) (by simp) ?_
                  refine AllReadyH.cons rfl (fun K hK => ?_) AllReadyH.nil
                  refine step_mapUpdate_run rfl _ _ _ 56 rfl _ _ _ w7 rfl rfl rfl HRUN7.out ?_
                  refine hK.out _ _ trivial (fun _ => ?_)
                  clear hK K
                  try simp only [Act.put]
                  refine wpAnyH_done (by kernel_rfl) ?_ _
                  go_wp2_with fail
                  go_roundw
                  case rel => exact ⟨k + 1, g', c', g1, c1, _, _, by omega, by go_num, HRD.out⟩
                  case measure => simp [intOf]; omega
                · go_simp
                  refine hK.out _ _ trivial (fun _ => ?_)
                  clear hK K
                  try simp only [Act.put]
                  refine wpAnyH_ready (rs := [3]) (by kernel_rfl) (by simp) ?_
                  refine AllReadyH.cons rfl (fun K hK => ?_) AllReadyH.nil
                  go_simp
                  refine hK.out _ _ trivial (fun _ => ?_)
                  clear hK K
                  try simp only [Act.put]
                  refine wpAnyH_ready (rs := [7]) (by kernel_rfl) (by simp) ?_
                  refine AllReadyH.cons rfl (fun K hK => ?_) AllReadyH.nil
                  refine step_mapUpdate_run rfl _ _ _ 56 rfl _ _ _ w7 rfl rfl rfl HRUN7.out ?_
                  refine hK.out _ _ trivial (fun _ => ?_)
                  clear hK K
                  try simp only [Act.put]
                  refine wpAnyH_done (by kernel_rfl) ?_ _
                  go_wp2_with fail
                  go_roundw
                  case rel => exact ⟨k + 1, g', c', g1, c1, _, _, by omega, by go_num, HRD.out⟩
                  case measure => simp [intOf]; omega
              · go_simp
                refine hK.out _ _ trivial (fun _ => ?_)
                clear hK K
                try simp only [Act.put]
                refine wpAnyH_ready (rs := [3]) (by kernel_rfl) (by simp) ?_
                refine AllReadyH.cons rfl (fun K hK => ?_) AllReadyH.nil
                go_simp
                refine hK.out _ _ trivial (fun _ => ?_)
                clear hK K
                try simp only [Act.put]
                refine wpAnyH_ready (rs := [9]) (by kernel_rfl) (by simp) ?_
                refine AllReadyH.cons rfl (fun K hK => ?_) AllReadyH.nil
                refine step_append_run rfl _ _ 54 54 rfl _ _ _ w5 rfl rfl HRUN.out ?_
                refine hK.out _ _ trivial (fun _ => ?_)
                clear hK K
                try simp only [Act.put]
                refine wpAnyH_take (i := 10) (v := .pointer (some ⟨p, 1, none⟩)) rfl (by kernel_rfl) (by kernel_rfl) (by kernel_rfl) (fun _ _ _ h => h) (Or.inl ⟨by rfl, fun W _ => by go_simp⟩) trivial ?_
                simp only [Act.put]
                refine wpAnyH_ready (rs := [11]) (by kernel_rfl) (by simp) ?_
                refine AllReadyH.cons rfl (fun K hK => ?_) AllReadyH.nil
                go_simp
                refine hK.out _ _ trivial (fun _ => ?_)
                clear hK K
                try simp only [Act.put]
                refine wpAnyH_done (by kernel_rfl) ?_ _
                obtain ⟨w6, hw6⟩ : ∃ w6, w6 = w5.setCell ⟨p, 1, none⟩ (.slice (some ⟨g', 0, none⟩) (ll + 1) c') := ⟨_, rfl⟩
                have hmA : MapF Try.prog w6 mb 50 cnt f := by rw [hw6]; exact (HRNA.out.mp.kept HGR5.out (fun e => by injection e with e; exact sb_ne_map HRNA.out.b0 HRNA.out.mp e)).set (row_ne_map HRNA.out.row HRNA.out.mp) _
                have h5A := (HX4.out.row5.below HWA.out HX4.out.row5.lt).grown HGR5.out (fun e => by injection e with e; exact N5.out.2.2.1 e)
                have h56 := h5A.far (p := ⟨p, 1, none⟩) N5.out.1 (.slice (some ⟨g', 0, none⟩) (ll + 1) c')
                have hp6 := (HRNA.out.row.grown HGR5.out (fun e => (by injection e with e; exact sb_ne_row HRNA.out.b0 HRNA.out.row (by decide) e))).set 1 (.slice (some ⟨g', 0, none⟩) (ll + 1) c')
                rw [← hw6] at h56 hp6 ⊢
                have a1 := h56.at_ (i := 1) rfl
                have a2 := h56.at_ (i := 2) rfl
                have r5 := hp6.at_ (i := 5) rfl
                obtain ⟨w7, hrun7, hm7, hgr7, hsz7⟩ := MapF.update hmA.drew Try.underlying56 keyed50 (key_ref i (by omega)) (.int .u32 (ll : Int))
                have HRD := Lib.hid (push0 HX4.out HM1.out HG.out HNEG.out HNS.out HXB.out HFL.out hB hq hgs HR.out.n0 HR.out.n1 hp hmb HLL.out HOWN5.out HGR5.out HAT.out (by rw [← hw6]; exact hgr7) hm7)
                unfold refv at hrun7
                have HRUN7 := Lib.hid hrun7
                clear hrun7 hm7 hgr7 hsz7 hw6 h5A h56 hp6 hmA c9 f9 r1 r1b r1c a3
                go_wp2_with fail
                refine wp_region_held_drew (S := fun _ => True) (by kernel_rfl) trivial (fun hHeld => ?_)
                refine wpAnyH_take (i := 0) (v := .pointer (some ⟨p, 0, none⟩)) rfl (by kernel_rfl) (by kernel_rfl) (by kernel_rfl) (fun _ _ _ h => h) (Or.inl ⟨by rfl, fun W _ => by go_simp⟩) trivial ?_
                simp only [Act.put, List.setIfInBounds_toArray]
                refine wpAnyH_take (i := 1) (v := .pointer (some ⟨p, 0, none⟩)) rfl (by kernel_rfl) (by kernel_rfl) (by kernel_rfl) (fun _ _ _ h => h) (Or.inl ⟨by rfl, fun W _ => by go_simp⟩) trivial ?_
                simp only [Act.put]
                refine wpAnyH_take (i := 2) (v := .pointer (some ⟨p, 5, none⟩)) rfl (by kernel_rfl) (by kernel_rfl) (by kernel_rfl) (fun _ _ _ h => h) (Or.inl ⟨by rfl, fun W _ => by go_simp⟩) trivial ?_
                simp only [Act.put]
                refine wpAnyH_take (i := 4) (v := .pointer (some ⟨b5, 1, none⟩)) rfl (by kernel_rfl) (by kernel_rfl) (by kernel_rfl) (fun _ _ _ h => h) (Or.inl ⟨by rfl, fun W _ => by go_simp⟩) trivial ?_
                simp only [Act.put]
                refine wpAnyH_take (i := 6) (v := .int .u32 (ll : Int)) rfl (by kernel_rfl) (by kernel_rfl) (by kernel_rfl) (fun _ _ _ h => h) (Or.inl ⟨by rfl, fun W _ => by go_simp⟩) trivial ?_
                simp only [Act.put]
                refine wpAnyH_ready (rs := [3, 5]) (by kernel_rfl) (by simp) ?_
                refine AllReadyH.cons rfl (fun K hK => ?_) (AllReadyH.cons rfl (fun K hK => ?_) AllReadyH.nil)
                · go_simp
                  refine hK.out _ _ trivial (fun _ => ?_)
                  clear hK K
                  try simp only [Act.put]
                  refine wpAnyH_ready (rs := [5]) (by kernel_rfl) (by simp) ?_
                  refine AllReadyH.cons rfl (fun K hK => ?_) AllReadyH.nil
                  go_simp
                  refine hK.out _ _ trivial (fun _ => ?_)
                  clear hK K
                  try simp only [Act.put]
                  refine wpAnyH_ready (rs := [7]) (by kernel_rfl) (by simp) ?_
                  refine AllReadyH.cons rfl (fun K hK => ?_) AllReadyH.nil
                  refine step_mapUpdate_run rfl _ _ _ 56 rfl _ _ _ w7 rfl rfl rfl HRUN7.out ?_
                  refine hK.out _ _ trivial (fun _ => ?_)
                  clear hK K
                  try simp only [Act.put]
                  refine wpAnyH_done (by kernel_rfl) ?_ _
                  go_wp2_with fail
                  go_roundw
                  case rel => exact ⟨k + 1, g', c', g1, c1, _, _, by omega, by go_num, HRD.out⟩
                  case measure => simp [intOf]; omega
                · go_simp
                  refine hK.out _ _ trivial (fun _ => ?_)
                  clear hK K
                  try simp only [Act.put]
                  refine wpAnyH_ready (rs := [3]) (by kernel_rfl) (by simp) ?_
                  refine AllReadyH.cons rfl (fun K hK => ?_) AllReadyH.nil
                  go_simp
                  refine hK.out _ _ trivial (fun _ => ?_)
                  clear hK K
                  try simp only [Act.put]
                  refine wpAnyH_ready (rs := [7]) (by kernel_rfl) (by simp) ?_
                  refine AllReadyH.cons rfl (fun K hK => ?_) AllReadyH.nil
                  refine step_mapUpdate_run rfl _ _ _ 56 rfl _ _ _ w7 rfl rfl rfl HRUN7.out ?_
                  refine hK.out _ _ trivial (fun _ => ?_)
                  clear hK K
                  try simp only [Act.put]
                  refine wpAnyH_done (by kernel_rfl) ?_ _
                  go_wp2_with fail
                  go_roundw
                  case rel => exact ⟨k + 1, g', c', g1, c1, _, _, by omega, by go_num, HRD.out⟩
                  case measure => simp [intOf]; omega
        · have him : i ∈ M.o 0 := by rw [← hns]; exact (HG.out.mem i).2 (by omega)
          obtain ⟨pq, hpq, hpl⟩ := pos_of him
          have hfi := HX3.out.rn.at_ 0 pq i hpq
          obtain ⟨kk, hkk⟩ : ∃ kk, kk = ini 0 + pq := ⟨_, rfl⟩
          rw [← hkk] at hfi
          have HKK := Lib.hid hkk
          clear hkk
          have hlk : (Instr.lookup 56 (.map (some mb)) (.agg #[.int .u32 0, .int .u32 (i : Int)]) true).run Try.prog w3.drew = .ok (.tuple #[.int .u32 (kk : Int), .bool true]) w3.drew := by
            rw [hfi] at hlk0
            exact hlk0
          clear hlk0 hfi
          go_region_held3 (fun w' => w'.cell? ⟨p, 5, none⟩ = some (.map (some mb)) ∧ w'.cell? ⟨b5, 1, none⟩ = some (.int .u32 0) ∧ w'.cell? ⟨b5, 2, none⟩ = some (.int .u32 (i : Int)) ∧ (Instr.lookup 56 (.map (some mb)) (.agg #[.int .u32 0, .int .u32 (i : Int)]) true).run Try.prog w' = .ok (.tuple #[.int .u32 (kk : Int), .bool true]) w') (first | exact ⟨r5, a1, a2, hlk⟩ | assumption) (fail)
          clear hlk r5 a1 a2
          obtain ⟨w4, hw4⟩ : ∃ w4, w4 = w3.drew := ⟨_, rfl⟩
          have HX4 := Lib.hid (show Sx w B p mb rb A2 A3 q gs n ge m ini K F z4 z5 M g0 c0 g1 c1 f cnt b5 k i x w4 by rw [hw4]; exact HX3.out.below (Below.refl _ _).drew (Nat.le_trans hB HX3.out.bel.size) hq hgs)
          rw [← hw4]
          clear hw4 HX3
          have hno : i ∉ M.o 1 := fun hm => by have := (HG.out.own 1 i hm).1; omega
          have hx4 : Sx w B p mb rb A2 A3 q gs n ge m ini K F z4 z5 M g0 c0 g1 c1 f cnt b5 k i x w4 := HX4.out
          have hsl := slotsL_at (init := ini 0) (cap := flag F) (sum := M.sum) hpq
          rw [← HKK.out] at hsl
          have hst := hx4.rn.b0.cnt hsl
          have hfz := hx4.rn.b0.frozen (kk * 3 + 1)
          have r1 := HX4.out.rn.row.at_ (i := 1) rfl
          have a3 := hx4.row5.at_ (i := 3) rfl
          have hn1 := seen0 hx4.rn (HG.out.nodup 0) hpq hno hneg ((M.sum i + x) % 4294967296)
          rw [← HKK.out] at hn1
          have hx5 : Sx w B p mb rb A2 A3 q gs n ge m ini K F z4 z5 ⟨M.fst, up M.sum i ((M.sum i + x) % 4294967296), M.o⟩ g0 c0 g1 c1 f cnt b5 k i x (w4.setCell ⟨g0, kk * 3 + 1, none⟩ (.int .u32 ((M.sum i + x) % 4294967296))) := hx4.store hn1 hx4.rn.b0.lt.1 HR.out.n0 N5.out.2.2.1 hq hgs
          have HX5 := Lib.hid hx5
          have HME := Lib.hid (show M.step (nsv K) k i x = ⟨M.fst, up M.sum i ((M.sum i + x) % 4294967296), M.o⟩ by unfold Md.step; rw [if_neg hneg, if_neg hneg, up_same])
          obtain ⟨ll, hll⟩ : ∃ ll, ll = ini 0 + (M.o 0).length := ⟨_, rfl⟩
          rw [← hll] at r1
          have i1 : (kk : Int) < (ll : Int) := by have := HKK.out; omega
          have i0 : (0 : Int) ≤ (kk : Int) := by omega
          have HPQ := Lib.hid hpq
          obtain ⟨sm, hsm⟩ : ∃ sm, sm = M.sum i := ⟨_, rfl⟩
          have HSM := Lib.hid hsm
          rw [← hsm] at hst
          have hwr : IntKind.u32.wrap (sm + x) = (sm + x) % 4294967296 := by simp [IntKind.wrap, IntKind.bits, IntKind.signed]
          clear hneg him hpq hno hns hll hpl hsm hsl hn1 hx5 hx4
          go_wp2_with fail
          refine wp_region_held_drew (S := fun _ => True) (by kernel_rfl) trivial (fun hHeld => ?_)
          refine wpAnyH_take (i := 0) (v := .pointer (some ⟨g0, kk * 3, none⟩)) rfl (by kernel_rfl) (by kernel_rfl) (by kernel_rfl) (fun _ _ _ h => h) (Or.inl ⟨by rfl, fun W _ => by go_simp⟩) trivial ?_
          simp only [Act.put, List.setIfInBounds_toArray]
          refine wpAnyH_take (i := 1) (v := .pointer (some ⟨g0, kk * 3, none⟩)) rfl (by kernel_rfl) (by kernel_rfl) (by kernel_rfl) (fun _ _ _ h => h) (Or.inl ⟨by rfl, fun W _ => by go_simp⟩) trivial ?_
          simp only [Act.put]
          refine wpAnyH_take (i := 2) (v := .pointer (some ⟨g0, kk * 3 + 1, none⟩)) rfl (by kernel_rfl) (by kernel_rfl) (by kernel_rfl) (fun _ _ _ h => h) (Or.inl ⟨by rfl, fun W _ => by go_simp⟩) trivial ?_
          simp only [Act.put]
          refine wpAnyH_take (i := 4) (v := .pointer (some ⟨b5, 3, none⟩)) rfl (by kernel_rfl) (by kernel_rfl) (by kernel_rfl) (fun _ _ _ h => h) (Or.inl ⟨by rfl, fun W _ => by go_simp⟩) trivial ?_
          simp only [Act.put]
          refine wpAnyH_ready (rs := [3, 5]) (by kernel_rfl) (by simp) ?_
          refine AllReadyH.cons rfl (fun K hK => ?_) (AllReadyH.cons rfl (fun K hK => ?_) AllReadyH.nil)
          · go_simp
            refine hK.out _ _ trivial (fun _ => ?_)
            clear hK K
            try simp only [Act.put]
            refine wpAnyH_ready (rs := [5]) (by kernel_rfl) (by simp) ?_
            refine AllReadyH.cons rfl (fun K hK => ?_) AllReadyH.nil
            go_simp
            refine hK.out _ _ trivial (fun _ => ?_)
            clear hK K
            try simp only [Act.put]
            refine wpAnyH_take (i := 6) (v := .int .u32 ((sm + x) % 4294967296)) rfl (by kernel_rfl) (by kernel_rfl) (by kernel_rfl) (fun _ _ _ h => h) (Or.inl ⟨by rfl, fun W _ => by go_simp⟩) trivial ?_
            simp only [Act.put]
            refine wpAnyH_take (i := 7) (v := .pointer (some ⟨g0, kk * 3, none⟩)) rfl (by kernel_rfl) (by kernel_rfl) (by kernel_rfl) (fun _ _ _ h => h) (Or.inl ⟨by rfl, fun W _ => by go_simp⟩) trivial ?_
            simp only [Act.put]
            refine wpAnyH_take (i := 8) (v := .pointer (some ⟨g0, kk * 3 + 1, none⟩)) rfl (by kernel_rfl) (by kernel_rfl) (by kernel_rfl) (fun _ _ _ h => h) (Or.inl ⟨by rfl, fun W _ => by go_simp⟩) trivial ?_
            simp only [Act.put]
            refine wpAnyH_ready (rs := [9]) (by kernel_rfl) (by simp) ?_
            refine AllReadyH.cons rfl (fun K hK => ?_) AllReadyH.nil
            go_simp
            refine hK.out _ _ trivial (fun _ => ?_)
            clear hK K
            try simp only [Act.put]
            refine wpAnyH_done (by kernel_rfl) ?_ _
            rw [HSM.out]
            obtain ⟨w5, hw5⟩ : ∃ w5, w5 = (w4.setCell ⟨g0, kk * 3 + 1, none⟩ (.int .u32 ((M.sum i + x) % 4294967296))).drew := ⟨_, rfl⟩
            have HX6 := Lib.hid (show Sx w B p mb rb A2 A3 q gs n ge m ini K F z4 z5 ⟨M.fst, up M.sum i ((M.sum i + x) % 4294967296), M.o⟩ g0 c0 g1 c1 f cnt b5 k i x w5 by rw [hw5]; exact HX5.out.below (Below.refl _ _).drew (Nat.le_trans hB HX5.out.bel.size) hq hgs)
            rw [← hw5]
            clear hw5 hst hfz r1 a3
            have f7 := K7.out w5 _ HX6.out
            have H25 := Lib.hid (has25 (flv F i) 2 (jsx F i) w5 (has_jsx F i))
            have hf2 := HX6.out.rn.b0.frozen (kk * 3 + 2)
            have hsl := slotsL_at (init := ini 0) (cap := flag F) (sum := up M.sum i ((M.sum i + x) % 4294967296)) HPQ.out
            rw [← HKK.out] at hsl
            have hc2 := HX6.out.rn.b0.cap hsl
            clear hsl
            cases hj : jsx F i with
            | false =>
              rw [hj] at H25
              go_wp2_with (go_at_call 25; (with_reducible refine H25.out.mono ?_); rintro e w9 ⟨rfl, rfl⟩)
              go_roundw
              case rel => exact ⟨k + 1, g0, c0, g1, c1, f, cnt, by omega, by go_num, HX6.out.rd (HM1.out.trans HME.out) HR.out.n0 HR.out.n1⟩
              case measure => simp [intOf]; omega
            | true =>
              rw [hj] at H25
              have hm := mark0 HX6.out.rn (q := pq) (i := i) HPQ.out (show flag F i = 1 by unfold flag; rw [hj]; rfl)
              rw [← HKK.out] at hm
              have HM := Lib.hid (HX6.out.store hm HX6.out.rn.b0.lt.1 HR.out.n0 N5.out.2.2.1 hq hgs)
              clear hm
              go_wp2_with (go_at_call 25; (with_reducible refine H25.out.mono ?_); rintro e w9 ⟨rfl, rfl⟩)
              go_roundw
              case rel => exact ⟨k + 1, g0, c0, g1, c1, f, cnt, by omega, by go_num, HM.out.rd (HM1.out.trans HME.out) HR.out.n0 HR.out.n1⟩
              case measure => simp [intOf]; omega
          · go_simp
            refine hK.out _ _ trivial (fun _ => ?_)
            clear hK K
            try simp only [Act.put]
            refine wpAnyH_ready (rs := [3]) (by kernel_rfl) (by simp) ?_
            refine AllReadyH.cons rfl (fun K hK => ?_) AllReadyH.nil
            go_simp
            refine hK.out _ _ trivial (fun _ => ?_)
            clear hK K
            try simp only [Act.put]
            refine wpAnyH_take (i := 6) (v := .int .u32 ((sm + x) % 4294967296)) rfl (by kernel_rfl) (by kernel_rfl) (by kernel_rfl) (fun _ _ _ h => h) (Or.inl ⟨by rfl, fun W _ => by go_simp⟩) trivial ?_
            simp only [Act.put]
            refine wpAnyH_take (i := 7) (v := .pointer (some ⟨g0, kk * 3, none⟩)) rfl (by kernel_rfl) (by kernel_rfl) (by kernel_rfl) (fun _ _ _ h => h) (Or.inl ⟨by rfl, fun W _ => by go_simp⟩) trivial ?_
            simp only [Act.put]
            refine wpAnyH_take (i := 8) (v := .pointer (some ⟨g0, kk * 3 + 1, none⟩)) rfl (by kernel_rfl) (by kernel_rfl) (by kernel_rfl) (fun _ _ _ h => h) (Or.inl ⟨by rfl, fun W _ => by go_simp⟩) trivial ?_
            simp only [Act.put]
            refine wpAnyH_ready (rs := [9]) (by kernel_rfl) (by simp) ?_
            refine AllReadyH.cons rfl (fun K hK => ?_) AllReadyH.nil
            go_simp
            refine hK.out _ _ trivial (fun _ => ?_)
            clear hK K
            try simp only [Act.put]
            refine wpAnyH_done (by kernel_rfl) ?_ _
            rw [HSM.out]
            obtain ⟨w5, hw5⟩ : ∃ w5, w5 = (w4.setCell ⟨g0, kk * 3 + 1, none⟩ (.int .u32 ((M.sum i + x) % 4294967296))).drew := ⟨_, rfl⟩
            have HX6 := Lib.hid (show Sx w B p mb rb A2 A3 q gs n ge m ini K F z4 z5 ⟨M.fst, up M.sum i ((M.sum i + x) % 4294967296), M.o⟩ g0 c0 g1 c1 f cnt b5 k i x w5 by rw [hw5]; exact HX5.out.below (Below.refl _ _).drew (Nat.le_trans hB HX5.out.bel.size) hq hgs)
            rw [← hw5]
            clear hw5 hst hfz r1 a3
            have f7 := K7.out w5 _ HX6.out
            have H25 := Lib.hid (has25 (flv F i) 2 (jsx F i) w5 (has_jsx F i))
            have hf2 := HX6.out.rn.b0.frozen (kk * 3 + 2)
            have hsl := slotsL_at (init := ini 0) (cap := flag F) (sum := up M.sum i ((M.sum i + x) % 4294967296)) HPQ.out
            rw [← HKK.out] at hsl
            have hc2 := HX6.out.rn.b0.cap hsl
            clear hsl
            cases hj : jsx F i with
            | false =>
              rw [hj] at H25
              go_wp2_with (go_at_call 25; (with_reducible refine H25.out.mono ?_); rintro e w9 ⟨rfl, rfl⟩)
              go_roundw
              case rel => exact ⟨k + 1, g0, c0, g1, c1, f, cnt, by omega, by go_num, HX6.out.rd (HM1.out.trans HME.out) HR.out.n0 HR.out.n1⟩
              case measure => simp [intOf]; omega
            | true =>
              rw [hj] at H25
              have hm := mark0 HX6.out.rn (q := pq) (i := i) HPQ.out (show flag F i = 1 by unfold flag; rw [hj]; rfl)
              rw [← HKK.out] at hm
              have HM := Lib.hid (HX6.out.store hm HX6.out.rn.b0.lt.1 HR.out.n0 N5.out.2.2.1 hq hgs)
              clear hm
              go_wp2_with (go_at_call 25; (with_reducible refine H25.out.mono ?_); rintro e w9 ⟨rfl, rfl⟩)
              go_roundw
              case rel => exact ⟨k + 1, g0, c0, g1, c1, f, cnt, by omega, by go_num, HM.out.rd (HM1.out.trans HME.out) HR.out.n0 HR.out.n1⟩
              case measure => simp [intOf]; omega
      · have hkd := kd_ns.2 hns
        have G24 := Lib.hid (show Calls Try.prog 24 #[.pointer (some ⟨gs, i * 10, none⟩)] w2.drew fun e w' => e = .returned (.int .u8 1) ∧ w2.drew = w' by
          have h := slot24 gs (i * 10) 18 (flv F i) w2.drew (K7.out w2 M HX2.out) (by rw [← hkd]; exact K8.out w2 HX2.out) (by decide) (fl_or F i)
          simpa using h)
        go_wp2_with fail
        go_region_held3 (fun _ => True) (trivial) (first | (go_at_call 24; (with_reducible refine G24.out.mono ?_); rintro e w3 ⟨rfl, rfl⟩))
        clear G24
        obtain ⟨w3, hw3⟩ : ∃ w3, w3 = w2.drew := ⟨_, rfl⟩
        have HX3 := Lib.hid (show Sx w B p mb rb A2 A3 q gs n ge m ini K F z4 z5 M g0 c0 g1 c1 f cnt b5 k i x w3 by rw [hw3]; exact HX2.out.below (Below.refl _ _).drew (Nat.le_trans hB HX2.out.bel.size) hq hgs)
        rw [← hw3]
        clear hw3 HX2 hkd
        go_wp2_with fail
        have r5 := HX3.out.rn.row.at_ (i := 5) rfl
        have a1 := HX3.out.row5.at_ (i := 1) rfl
        have a2 := HX3.out.row5.at_ (i := 2) rfl
        have hlk0 := MapF.look_ok HX3.out.rn.mp.drew Try.underlying56 keyed50 (key_ref i (by omega)) (zero23 _)
        by_cases hneg : M.fst i < 0
        · have hfi := HX3.out.rn.no i hneg
          have hlk : (Instr.lookup 56 (.map (some mb)) (.agg #[.int .u32 0, .int .u32 (i : Int)]) true).run Try.prog w3.drew = .ok (.tuple #[.int .u32 0, .bool false]) w3.drew := by
            rw [hfi] at hlk0
            exact hlk0
          clear hlk0 hfi
          go_region_held3 (fun w' => w'.cell? ⟨p, 5, none⟩ = some (.map (some mb)) ∧ w'.cell? ⟨b5, 1, none⟩ = some (.int .u32 0) ∧ w'.cell? ⟨b5, 2, none⟩ = some (.int .u32 (i : Int)) ∧ (Instr.lookup 56 (.map (some mb)) (.agg #[.int .u32 0, .int .u32 (i : Int)]) true).run Try.prog w' = .ok (.tuple #[.int .u32 0, .bool false]) w') (first | exact ⟨r5, a1, a2, hlk⟩ | assumption) (fail)
          clear hlk r5 a1 a2
          obtain ⟨w4, hw4⟩ : ∃ w4, w4 = w3.drew := ⟨_, rfl⟩
          have HX4 := Lib.hid (show Sx w B p mb rb A2 A3 q gs n ge m ini K F z4 z5 M g0 c0 g1 c1 f cnt b5 k i x w4 by rw [hw4]; exact HX3.out.below (Below.refl _ _).drew (Nat.le_trans hB HX3.out.bel.size) hq hgs)
          rw [← hw4]
          clear hw4 HX3
          have hx4 : Sx w B p mb rb A2 A3 q gs n ge m ini K F z4 z5 M g0 c0 g1 c1 f cnt b5 k i x w4 := HX4.out
          have r1 := hx4.rn.row.at_ (i := 2) rfl
          obtain ⟨ll, hll⟩ : ∃ ll, ll = ini 1 + (M.o 1).length := ⟨_, rfl⟩
          have hlb : ll ≤ 10000 := by have h1 := hini 1; have h2 := HG.out.len 1; omega
          rw [← hll] at r1
          have HLL := Lib.hid hll
          have wl : IntKind.u32.wrap (ll : Int) = (ll : Int) := IntWalk.u32_in _ (by omega)
          have f7 := K7.out w4 _ HX4.out
          have H25 := Lib.hid (has25 (flv F i) 2 (jsx F i) w4 (has_jsx F i))
          have HNEG := Lib.hid hneg
          have HNS := Lib.hid hns
          clear hll hneg hns hx4
          cases hj : jsx F i with
          | false =>
            rw [hj] at H25
            have HFL := Lib.hid (show flag F i = 0 by unfold flag; rw [hj]; rfl)
            have hWA : Below w4.heap.size w4 ((w4.alloc (.cells #[.string ByteArray.empty, .int .u32 x, .int .u32 0] 83)).drew) := ((Below.refl _ _).alloc (Nat.le_refl _) _).drew
            have hWB : Below B w4 ((w4.alloc (.cells #[.string ByteArray.empty, .int .u32 x, .int .u32 0] 83)).drew) := hWA.mono (Nat.le_trans hB HX4.out.bel.size)
            have rnA := HX4.out.rn.below hWA
            obtain ⟨i83, hi83, hzz⟩ := Option.map_eq_some_iff.1 info83
            simp only [Prod.mk.injEq] at hzz
            obtain ⟨hz1, hz2, hz3⟩ := hzz
            have hownA : World.ownsRow ((w4.alloc (.cells #[.string ByteArray.empty, .int .u32 x, .int .u32 0] 83)).drew) B 83 3 (.slice (some ⟨g1, 0, none⟩) ll c1) ll (sl (slotsL (ini 1) (flag F) M.sum (M.o 1))) := by
              have h := rnA.b1
              unfold Sb at h
              rw [slotsL_len, ← HLL.out] at h
              exact h
            have hrow8 := (Row.newArr w4 83 #[.string ByteArray.empty, .int .u32 x, .int .u32 0]).drew
            obtain ⟨v5, w5, hrun, hown5, hgr5, _, hat5⟩ := run_append_own_at (P := Try.prog) ((w4.alloc (.cells #[.string ByteArray.empty, .int .u32 x, .int .u32 0] 83)).drew) B 54 54 83 i83 _ 3 24 Try.underlying54 hi83 hz1 hz2 hz3 rfl (by decide) (.slice (some ⟨g1, 0, none⟩) ll c1) ll (sl (slotsL (ini 1) (flag F) M.sum (M.o 1))) hownA ⟨w4.heap.size, 0, none⟩ 1 1 [.string ByteArray.empty, .int .u32 x, .int .u32 0] rfl (fun j u hu => (by
              have hj3 : j < 3 := (List.getElem?_eq_some_iff.1 hu).1
              have hadd : (⟨w4.heap.size, 0, none⟩ : Addr).add j = ⟨w4.heap.size, j, none⟩ := (by unfold Addr.add; split <;> simp_all)
              rw [hadd]
              exact hrow8.at_ hu)) (fun u hu => (by simp only [List.mem_cons, List.not_mem_nil, or_false] at hu; rcases hu with rfl | rfl | rfl <;> rfl)) (by unfold maxLen; omega) (by omega) (by have := hWB.size; have := HX4.out.bel.size; omega)
            obtain ⟨g', c', hv5⟩ := slice_of_own hown5
            subst hv5
            have hat : g' = g1 ∨ g' = ((w4.alloc (.cells #[.string ByteArray.empty, .int .u32 x, .int .u32 0] 83)).drew).heap.size := (by
              rcases hat5 with h | h
              · left; simpa [Value.ownBlock] using h
              · right; simpa [Value.ownBlock] using h)
            have hgr5' : World.grownBy ((w4.alloc (.cells #[.string ByteArray.empty, .int .u32 x, .int .u32 0] 83)).drew) w5 (some g1) := hgr5
            have hr5 := rnA.row.grown hgr5' (fun e => (by injection e with e; exact sb_ne_row rnA.b1 rnA.row (by decide) e))
            have c9 := hr5.at_ (i := 2) rfl
            have f9 := hr5.frozen 2
            rw [← HLL.out] at c9
            have r1b := rnA.row.at_ (i := 2) rfl
            have r1c := (HX4.out.rn.below ((Below.refl w4.heap.size w4).alloc (Nat.le_refl _) (.cells #[.string ByteArray.empty, .int .u32 x, .int .u32 0] 83))).row.at_ (i := 2) rfl
            rw [← HLL.out] at r1b r1c
            have a3 := HX4.out.row5.at_ (i := 3) rfl
            have HRUN := Lib.hid hrun
            have HRNA := Lib.hid rnA
            have HOWN5 := Lib.hid hown5
            have HGR5 := Lib.hid hgr5'
            have HAT := Lib.hid hat
            have HWA := Lib.hid hWA
            have HWB := Lib.hid hWB
            clear hrun rnA hown5 hgr5 hgr5' hat hat5 hownA hrow8 hr5 hWA hWB hj
            have HI83 := Lib.hid hi83
            clear hi83 hz1 hz2 hz3
            go_wp2_with (go_at_call 25; (with_reducible refine H25.out.mono ?_); rintro e w9 ⟨rfl, rfl⟩)
            refine wp_region_held_drew (S := fun _ => True) (by kernel_rfl) trivial (fun hHeld => ?_)
            refine wpAnyH_take (i := 0) (v := .pointer (some ⟨p, 2, none⟩)) rfl (by kernel_rfl) (by kernel_rfl) (by kernel_rfl) (fun _ _ _ h => h) (Or.inl ⟨by rfl, fun W _ => by go_simp⟩) trivial ?_
            simp only [Act.put, List.setIfInBounds_toArray]
            refine wpAnyH_take (i := 1) (v := .pointer (some ⟨p, 2, none⟩)) rfl (by kernel_rfl) (by kernel_rfl) (by kernel_rfl) (fun _ _ _ h => h) (Or.inl ⟨by rfl, fun W _ => by go_simp⟩) trivial ?_
            simp only [Act.put]
            refine wpAnyH_take (i := 2) (v := .pointer (some ⟨p, 2, none⟩)) rfl (by kernel_rfl) (by kernel_rfl) (by kernel_rfl) (fun _ _ _ h => h) (Or.inl ⟨by rfl, fun W _ => by go_simp⟩) trivial ?_
            simp only [Act.put]
            refine wpAnyH_take (i := 4) (v := .pointer (some ⟨b5, 3, none⟩)) rfl (by kernel_rfl) (by kernel_rfl) (by kernel_rfl) (fun _ _ _ h => h) (Or.inl ⟨by rfl, fun W _ => by go_simp⟩) trivial ?_
            simp only [Act.put]
            refine wpAnyH_take (i := 6) (v := .int .u32 0) rfl (by kernel_rfl) (by kernel_rfl) (by kernel_rfl) (fun _ _ _ h => h) (Or.inl ⟨by rfl, fun W _ => by go_simp⟩) trivial ?_
            simp only [Act.put]
            refine wpAnyH_ready (rs := [3, 5]) (by kernel_rfl) (by simp) ?_
            refine AllReadyH.cons rfl (fun K hK => ?_) (AllReadyH.cons rfl (fun K hK => ?_) AllReadyH.nil)
            · go_simp
              refine hK.out _ _ trivial (fun _ => ?_)
              clear hK K
              try simp only [Act.put]
              refine wpAnyH_ready (rs := [5]) (by kernel_rfl) (by simp) ?_
              refine AllReadyH.cons rfl (fun K hK => ?_) AllReadyH.nil
              go_simp
              refine hK.out _ _ trivial (fun _ => ?_)
              clear hK K
              try simp only [Act.put]
              refine wpAnyH_take (i := 7) (v := .agg #[.string ByteArray.empty, .int .u32 x, .int .u32 0]) rfl (by kernel_rfl) (by kernel_rfl) (by kernel_rfl) (fun _ _ _ h => h) (Or.inl ⟨by rfl, fun W _ => by go_simp; rfl⟩) trivial ?_
              simp only [Act.put]
              refine wpAnyH_ready (rs := [8]) (by kernel_rfl) (by simp) ?_
              refine AllReadyH.cons rfl (fun K hK => ?_) AllReadyH.nil
              go_simp
              refine hK.out _ _ trivial (fun _ => ?_)
              clear hK K
              try simp only [Act.put]
              refine wpAnyH_ready (rs := [9]) (by kernel_rfl) (by simp) ?_
              refine AllReadyH.cons rfl (fun K hK => ?_) AllReadyH.nil
              refine step_append_run rfl _ _ 54 54 rfl _ _ _ w5 rfl rfl HRUN.out ?_
              refine hK.out _ _ trivial (fun _ => ?_)
              clear hK K
              try simp only [Act.put]
              refine wpAnyH_take (i := 10) (v := .pointer (some ⟨p, 2, none⟩)) rfl (by kernel_rfl) (by kernel_rfl) (by kernel_rfl) (fun _ _ _ h => h) (Or.inl ⟨by rfl, fun W _ => by go_simp⟩) trivial ?_
              simp only [Act.put]
              refine wpAnyH_ready (rs := [11]) (by kernel_rfl) (by simp) ?_
              refine AllReadyH.cons rfl (fun K hK => ?_) AllReadyH.nil
              go_simp
              refine hK.out _ _ trivial (fun _ => ?_)
              clear hK K
              try simp only [Act.put]
              refine wpAnyH_done (by kernel_rfl) ?_ _
              obtain ⟨w6, hw6⟩ : ∃ w6, w6 = w5.setCell ⟨p, 2, none⟩ (.slice (some ⟨g', 0, none⟩) (ll + 1) c') := ⟨_, rfl⟩
              have hmA : MapF Try.prog w6 mb 50 cnt f := by rw [hw6]; exact (HRNA.out.mp.kept HGR5.out (fun e => by injection e with e; exact sb_ne_map HRNA.out.b1 HRNA.out.mp e)).set (row_ne_map HRNA.out.row HRNA.out.mp) _
              have h5A := (HX4.out.row5.below HWA.out HX4.out.row5.lt).grown HGR5.out (fun e => by injection e with e; exact N5.out.2.2.2.1 e)
              have h56 := h5A.far (p := ⟨p, 2, none⟩) N5.out.1 (.slice (some ⟨g', 0, none⟩) (ll + 1) c')
              have hp6 := (HRNA.out.row.grown HGR5.out (fun e => (by injection e with e; exact sb_ne_row HRNA.out.b1 HRNA.out.row (by decide) e))).set 2 (.slice (some ⟨g', 0, none⟩) (ll + 1) c')
              rw [← hw6] at h56 hp6 ⊢
              have a1 := h56.at_ (i := 1) rfl
              have a2 := h56.at_ (i := 2) rfl
              have r5 := hp6.at_ (i := 5) rfl
              obtain ⟨w7, hrun7, hm7, hgr7, hsz7⟩ := MapF.update hmA.drew Try.underlying56 keyed50 (key_ref i (by omega)) (.int .u32 (ll : Int))
              have HRD := Lib.hid (push1 HX4.out HM1.out HG.out HNEG.out HNS.out HXB.out HFL.out hB hq hgs HR.out.n0 HR.out.n1 hp hmb HLL.out HOWN5.out HGR5.out HAT.out (by rw [← hw6]; exact hgr7) hm7)
              unfold refv at hrun7
              have HRUN7 := Lib.hid hrun7
              clear hrun7 hm7 hgr7 hsz7 hw6 h5A h56 hp6 hmA c9 f9 r1 r1b r1c a3
              go_wp2_with fail
              refine wp_region_held_drew (S := fun _ => True) (by kernel_rfl) trivial (fun hHeld => ?_)
              refine wpAnyH_take (i := 0) (v := .pointer (some ⟨p, 0, none⟩)) rfl (by kernel_rfl) (by kernel_rfl) (by kernel_rfl) (fun _ _ _ h => h) (Or.inl ⟨by rfl, fun W _ => by go_simp⟩) trivial ?_
              simp only [Act.put, List.setIfInBounds_toArray]
              refine wpAnyH_take (i := 1) (v := .pointer (some ⟨p, 0, none⟩)) rfl (by kernel_rfl) (by kernel_rfl) (by kernel_rfl) (fun _ _ _ h => h) (Or.inl ⟨by rfl, fun W _ => by go_simp⟩) trivial ?_
              simp only [Act.put]
              refine wpAnyH_take (i := 2) (v := .pointer (some ⟨p, 5, none⟩)) rfl (by kernel_rfl) (by kernel_rfl) (by kernel_rfl) (fun _ _ _ h => h) (Or.inl ⟨by rfl, fun W _ => by go_simp⟩) trivial ?_
              simp only [Act.put]
              refine wpAnyH_take (i := 4) (v := .pointer (some ⟨b5, 1, none⟩)) rfl (by kernel_rfl) (by kernel_rfl) (by kernel_rfl) (fun _ _ _ h => h) (Or.inl ⟨by rfl, fun W _ => by go_simp⟩) trivial ?_
              simp only [Act.put]
              refine wpAnyH_take (i := 6) (v := .int .u32 (ll : Int)) rfl (by kernel_rfl) (by kernel_rfl) (by kernel_rfl) (fun _ _ _ h => h) (Or.inl ⟨by rfl, fun W _ => by go_simp⟩) trivial ?_
              simp only [Act.put]
              refine wpAnyH_ready (rs := [3, 5]) (by kernel_rfl) (by simp) ?_
              refine AllReadyH.cons rfl (fun K hK => ?_) (AllReadyH.cons rfl (fun K hK => ?_) AllReadyH.nil)
              · go_simp
                refine hK.out _ _ trivial (fun _ => ?_)
                clear hK K
                try simp only [Act.put]
                refine wpAnyH_ready (rs := [5]) (by kernel_rfl) (by simp) ?_
                refine AllReadyH.cons rfl (fun K hK => ?_) AllReadyH.nil
                go_simp
                refine hK.out _ _ trivial (fun _ => ?_)
                clear hK K
                try simp only [Act.put]
                refine wpAnyH_ready (rs := [7]) (by kernel_rfl) (by simp) ?_
                refine AllReadyH.cons rfl (fun K hK => ?_) AllReadyH.nil
                refine step_mapUpdate_run rfl _ _ _ 56 rfl _ _ _ w7 rfl rfl rfl HRUN7.out ?_
                refine hK.out _ _ trivial (fun _ => ?_)
                clear hK K
                try simp only [Act.put]
                refine wpAnyH_done (by kernel_rfl) ?_ _
                go_wp2_with fail
                go_roundw
                case rel => exact ⟨k + 1, g0, c0, g', c', _, _, by omega, by go_num, HRD.out⟩
                case measure => simp [intOf]; omega
              · go_simp
                refine hK.out _ _ trivial (fun _ => ?_)
                clear hK K
                try simp only [Act.put]
                refine wpAnyH_ready (rs := [3]) (by kernel_rfl) (by simp) ?_
                refine AllReadyH.cons rfl (fun K hK => ?_) AllReadyH.nil
                go_simp
                refine hK.out _ _ trivial (fun _ => ?_)
                clear hK K
                try simp only [Act.put]
                refine wpAnyH_ready (rs := [7]) (by kernel_rfl) (by simp) ?_
                refine AllReadyH.cons rfl (fun K hK => ?_) AllReadyH.nil
                refine step_mapUpdate_run rfl _ _ _ 56 rfl _ _ _ w7 rfl rfl rfl HRUN7.out ?_
                refine hK.out _ _ trivial (fun _ => ?_)
                clear hK K
                try simp only [Act.put]
                refine wpAnyH_done (by kernel_rfl) ?_ _
                go_wp2_with fail
                go_roundw
                case rel => exact ⟨k + 1, g0, c0, g', c', _, _, by omega, by go_num, HRD.out⟩
                case measure => simp [intOf]; omega
            · go_simp
              refine hK.out _ _ trivial (fun _ => ?_)
              clear hK K
              try simp only [Act.put]
              refine wpAnyH_take (i := 7) (v := .agg #[.string ByteArray.empty, .int .u32 x, .int .u32 0]) rfl (by kernel_rfl) (by kernel_rfl) (by kernel_rfl) (fun _ _ _ h => h) (Or.inl ⟨by rfl, fun W _ => by go_simp; rfl⟩) trivial ?_
              simp only [Act.put]
              refine wpAnyH_ready (rs := [3, 8]) (by kernel_rfl) (by simp) ?_
              refine AllReadyH.cons rfl (fun K hK => ?_) (AllReadyH.cons rfl (fun K hK => ?_) AllReadyH.nil)
              · go_simp
                refine hK.out _ _ trivial (fun _ => ?_)
                clear hK K
                try simp only [Act.put]
                refine wpAnyH_ready (rs := [8]) (by kernel_rfl) (by simp) ?_
                refine AllReadyH.cons rfl (fun K hK => ?_) AllReadyH.nil
                go_simp
                refine hK.out _ _ trivial (fun _ => ?_)
                clear hK K
                try simp only [Act.put]
                refine wpAnyH_ready (rs := [9]) (by kernel_rfl) (by simp) ?_
                refine AllReadyH.cons rfl (fun K hK => ?_) AllReadyH.nil
                refine step_append_run rfl _ _ 54 54 rfl _ _ _ w5 rfl rfl HRUN.out ?_
                refine hK.out _ _ trivial (fun _ => ?_)
                clear hK K
                try simp only [Act.put]
                refine wpAnyH_take (i := 10) (v := .pointer (some ⟨p, 2, none⟩)) rfl (by kernel_rfl) (by kernel_rfl) (by kernel_rfl) (fun _ _ _ h => h) (Or.inl ⟨by rfl, fun W _ => by go_simp⟩) trivial ?_
                simp only [Act.put]
                refine wpAnyH_ready (rs := [11]) (by kernel_rfl) (by simp) ?_
                refine AllReadyH.cons rfl (fun K hK => ?_) AllReadyH.nil
                go_simp
                refine hK.out _ _ trivial (fun _ => ?_)
                clear hK K
                try simp only [Act.put]
                refine wpAnyH_done (by kernel_rfl) ?_ _
                obtain ⟨w6, hw6⟩ : ∃ w6, w6 = w5.setCell ⟨p, 2, none⟩ (.slice (some ⟨g', 0, none⟩) (ll + 1) c') := ⟨_, rfl⟩
                have hmA : MapF Try.prog w6 mb 50 cnt f := by rw [hw6]; exact (HRNA.out.mp.kept HGR5.out (fun e => by injection e with e; exact sb_ne_map HRNA.out.b1 HRNA.out.mp e)).set (row_ne_map HRNA.out.row HRNA.out.mp) _
                have h5A := (HX4.out.row5.below HWA.out HX4.out.row5.lt).grown HGR5.out (fun e => by injection e with e; exact N5.out.2.2.2.1 e)
                have h56 := h5A.far (p := ⟨p, 2, none⟩) N5.out.1 (.slice (some ⟨g', 0, none⟩) (ll + 1) c')
                have hp6 := (HRNA.out.row.grown HGR5.out (fun e => (by injection e with e; exact sb_ne_row HRNA.out.b1 HRNA.out.row (by decide) e))).set 2 (.slice (some ⟨g', 0, none⟩) (ll + 1) c')
                rw [← hw6] at h56 hp6 ⊢
                have a1 := h56.at_ (i := 1) rfl
                have a2 := h56.at_ (i := 2) rfl
                have r5 := hp6.at_ (i := 5) rfl
                obtain ⟨w7, hrun7, hm7, hgr7, hsz7⟩ := MapF.update hmA.drew Try.underlying56 keyed50 (key_ref i (by omega)) (.int .u32 (ll : Int))
                have HRD := Lib.hid (push1 HX4.out HM1.out HG.out HNEG.out HNS.out HXB.out HFL.out hB hq hgs HR.out.n0 HR.out.n1 hp hmb HLL.out HOWN5.out HGR5.out HAT.out (by rw [← hw6]; exact hgr7) hm7)
                unfold refv at hrun7
                have HRUN7 := Lib.hid hrun7
                clear hrun7 hm7 hgr7 hsz7 hw6 h5A h56 hp6 hmA c9 f9 r1 r1b r1c a3
                go_wp2_with fail
                refine wp_region_held_drew (S := fun _ => True) (by kernel_rfl) trivial (fun hHeld => ?_)
                refine wpAnyH_take (i := 0) (v := .pointer (some ⟨p, 0, none⟩)) rfl (by kernel_rfl) (by kernel_rfl) (by kernel_rfl) (fun _ _ _ h => h) (Or.inl ⟨by rfl, fun W _ => by go_simp⟩) trivial ?_
                simp only [Act.put, List.setIfInBounds_toArray]
                refine wpAnyH_take (i := 1) (v := .pointer (some ⟨p, 0, none⟩)) rfl (by kernel_rfl) (by kernel_rfl) (by kernel_rfl) (fun _ _ _ h => h) (Or.inl ⟨by rfl, fun W _ => by go_simp⟩) trivial ?_
                simp only [Act.put]
                refine wpAnyH_take (i := 2) (v := .pointer (some ⟨p, 5, none⟩)) rfl (by kernel_rfl) (by kernel_rfl) (by kernel_rfl) (fun _ _ _ h => h) (Or.inl ⟨by rfl, fun W _ => by go_simp⟩) trivial ?_
                simp only [Act.put]
                refine wpAnyH_take (i := 4) (v := .pointer (some ⟨b5, 1, none⟩)) rfl (by kernel_rfl) (by kernel_rfl) (by kernel_rfl) (fun _ _ _ h => h) (Or.inl ⟨by rfl, fun W _ => by go_simp⟩) trivial ?_
                simp only [Act.put]
                refine wpAnyH_take (i := 6) (v := .int .u32 (ll : Int)) rfl (by kernel_rfl) (by kernel_rfl) (by kernel_rfl) (fun _ _ _ h => h) (Or.inl ⟨by rfl, fun W _ => by go_simp⟩) trivial ?_
                simp only [Act.put]
                refine wpAnyH_ready (rs := [3, 5]) (by kernel_rfl) (by simp) ?_
                refine AllReadyH.cons rfl (fun K hK => ?_) (AllReadyH.cons rfl (fun K hK => ?_) AllReadyH.nil)
                · go_simp
                  refine hK.out _ _ trivial (fun _ => ?_)
                  clear hK K
                  try simp only [Act.put]
                  refine wpAnyH_ready (rs := [5]) (by kernel_rfl) (by simp) ?_
                  refine AllReadyH.cons rfl (fun K hK => ?_) AllReadyH.nil
                  go_simp
                  refine hK.out _ _ trivial (fun _ => ?_)
                  clear hK K
                  try simp only [Act.put]
                  refine wpAnyH_ready (rs := [7]) (by kernel_rfl) (by simp) ?_
                  refine AllReadyH.cons rfl (fun K hK => ?_) AllReadyH.nil
                  refine step_mapUpdate_run rfl _ _ _ 56 rfl _ _ _ w7 rfl rfl rfl HRUN7.out ?_
                  refine hK.out _ _ trivial (fun _ => ?_)
                  clear hK K
                  try simp only [Act.put]
                  refine wpAnyH_done (by kernel_rfl) ?_ _
                  go_wp2_with fail
                  go_roundw
                  case rel => exact ⟨k + 1, g0, c0, g', c', _, _, by omega, by go_num, HRD.out⟩
                  case measure => simp [intOf]; omega
                · go_simp
                  refine hK.out _ _ trivial (fun _ => ?_)
                  clear hK K
                  try simp only [Act.put]
                  refine wpAnyH_ready (rs := [3]) (by kernel_rfl) (by simp) ?_
                  refine AllReadyH.cons rfl (fun K hK => ?_) AllReadyH.nil
                  go_simp
                  refine hK.out _ _ trivial (fun _ => ?_)
                  clear hK K
                  try simp only [Act.put]
                  refine wpAnyH_ready (rs := [7]) (by kernel_rfl) (by simp) ?_
                  refine AllReadyH.cons rfl (fun K hK => ?_) AllReadyH.nil
                  refine step_mapUpdate_run rfl _ _ _ 56 rfl _ _ _ w7 rfl rfl rfl HRUN7.out ?_
                  refine hK.out _ _ trivial (fun _ => ?_)
                  clear hK K
                  try simp only [Act.put]
                  refine wpAnyH_done (by kernel_rfl) ?_ _
                  go_wp2_with fail
                  go_roundw
                  case rel => exact ⟨k + 1, g0, c0, g', c', _, _, by omega, by go_num, HRD.out⟩
                  case measure => simp [intOf]; omega
              · go_simp
                refine hK.out _ _ trivial (fun _ => ?_)
                clear hK K
                try simp only [Act.put]
                refine wpAnyH_ready (rs := [3]) (by kernel_rfl) (by simp) ?_
                refine AllReadyH.cons rfl (fun K hK => ?_) AllReadyH.nil
                go_simp
                refine hK.out _ _ trivial (fun _ => ?_)
                clear hK K
                try simp only [Act.put]
                refine wpAnyH_ready (rs := [9]) (by kernel_rfl) (by simp) ?_
                refine AllReadyH.cons rfl (fun K hK => ?_) AllReadyH.nil
                refine step_append_run rfl _ _ 54 54 rfl _ _ _ w5 rfl rfl HRUN.out ?_
                refine hK.out _ _ trivial (fun _ => ?_)
                clear hK K
                try simp only [Act.put]
                refine wpAnyH_take (i := 10) (v := .pointer (some ⟨p, 2, none⟩)) rfl (by kernel_rfl) (by kernel_rfl) (by kernel_rfl) (fun _ _ _ h => h) (Or.inl ⟨by rfl, fun W _ => by go_simp⟩) trivial ?_
                simp only [Act.put]
                refine wpAnyH_ready (rs := [11]) (by kernel_rfl) (by simp) ?_
                refine AllReadyH.cons rfl (fun K hK => ?_) AllReadyH.nil
                go_simp
                refine hK.out _ _ trivial (fun _ => ?_)
                clear hK K
                try simp only [Act.put]
                refine wpAnyH_done (by kernel_rfl) ?_ _
                obtain ⟨w6, hw6⟩ : ∃ w6, w6 = w5.setCell ⟨p, 2, none⟩ (.slice (some ⟨g', 0, none⟩) (ll + 1) c') := ⟨_, rfl⟩
                have hmA : MapF Try.prog w6 mb 50 cnt f := by rw [hw6]; exact (HRNA.out.mp.kept HGR5.out (fun e => by injection e with e; exact sb_ne_map HRNA.out.b1 HRNA.out.mp e)).set (row_ne_map HRNA.out.row HRNA.out.mp) _
                have h5A := (HX4.out.row5.below HWA.out HX4.out.row5.lt).grown HGR5.out (fun e => by injection e with e; exact N5.out.2.2.2.1 e)
                have h56 := h5A.far (p := ⟨p, 2, none⟩) N5.out.1 (.slice (some ⟨g', 0, none⟩) (ll + 1) c')
                have hp6 := (HRNA.out.row.grown HGR5.out (fun e => (by injection e with e; exact sb_ne_row HRNA.out.b1 HRNA.out.row (by decide) e))).set 2 (.slice (some ⟨g', 0, none⟩) (ll + 1) c')
                rw [← hw6] at h56 hp6 ⊢
                have a1 := h56.at_ (i := 1) rfl
                have a2 := h56.at_ (i := 2) rfl
                have r5 := hp6.at_ (i := 5) rfl
                obtain ⟨w7, hrun7, hm7, hgr7, hsz7⟩ := MapF.update hmA.drew Try.underlying56 keyed50 (key_ref i (by omega)) (.int .u32 (ll : Int))
                have HRD := Lib.hid (push1 HX4.out HM1.out HG.out HNEG.out HNS.out HXB.out HFL.out hB hq hgs HR.out.n0 HR.out.n1 hp hmb HLL.out HOWN5.out HGR5.out HAT.out (by rw [← hw6]; exact hgr7) hm7)
                unfold refv at hrun7
                have HRUN7 := Lib.hid hrun7
                clear hrun7 hm7 hgr7 hsz7 hw6 h5A h56 hp6 hmA c9 f9 r1 r1b r1c a3
                go_wp2_with fail
                refine wp_region_held_drew (S := fun _ => True) (by kernel_rfl) trivial (fun hHeld => ?_)
                refine wpAnyH_take (i := 0) (v := .pointer (some ⟨p, 0, none⟩)) rfl (by kernel_rfl) (by kernel_rfl) (by kernel_rfl) (fun _ _ _ h => h) (Or.inl ⟨by rfl, fun W _ => by go_simp⟩) trivial ?_
                simp only [Act.put, List.setIfInBounds_toArray]
                refine wpAnyH_take (i := 1) (v := .pointer (some ⟨p, 0, none⟩)) rfl (by kernel_rfl) (by kernel_rfl) (by kernel_rfl) (fun _ _ _ h => h) (Or.inl ⟨by rfl, fun W _ => by go_simp⟩) trivial ?_
                simp only [Act.put]
                refine wpAnyH_take (i := 2) (v := .pointer (some ⟨p, 5, none⟩)) rfl (by kernel_rfl) (by kernel_rfl) (by kernel_rfl) (fun _ _ _ h => h) (Or.inl ⟨by rfl, fun W _ => by go_simp⟩) trivial ?_
                simp only [Act.put]
                refine wpAnyH_take (i := 4) (v := .pointer (some ⟨b5, 1, none⟩)) rfl (by kernel_rfl) (by kernel_rfl) (by kernel_rfl) (fun _ _ _ h => h) (Or.inl ⟨by rfl, fun W _ => by go_simp⟩) trivial ?_
                simp only [Act.put]
                refine wpAnyH_take (i := 6) (v := .int .u32 (ll : Int)) rfl (by kernel_rfl) (by kernel_rfl) (by kernel_rfl) (fun _ _ _ h => h) (Or.inl ⟨by rfl, fun W _ => by go_simp⟩) trivial ?_
                simp only [Act.put]
                refine wpAnyH_ready (rs := [3, 5]) (by kernel_rfl) (by simp) ?_
                refine AllReadyH.cons rfl (fun K hK => ?_) (AllReadyH.cons rfl (fun K hK => ?_) AllReadyH.nil)
                · go_simp
                  refine hK.out _ _ trivial (fun _ => ?_)
                  clear hK K
                  try simp only [Act.put]
                  refine wpAnyH_ready (rs := [5]) (by kernel_rfl) (by simp) ?_
                  refine AllReadyH.cons rfl (fun K hK => ?_) AllReadyH.nil
                  go_simp
                  refine hK.out _ _ trivial (fun _ => ?_)
                  clear hK K
                  try simp only [Act.put]
                  refine wpAnyH_ready (rs := [7]) (by kernel_rfl) (by simp) ?_
                  refine AllReadyH.cons rfl (fun K hK => ?_) AllReadyH.nil
                  refine step_mapUpdate_run rfl _ _ _ 56 rfl _ _ _ w7 rfl rfl rfl HRUN7.out ?_
                  refine hK.out _ _ trivial (fun _ => ?_)
                  clear hK K
                  try simp only [Act.put]
                  refine wpAnyH_done (by kernel_rfl) ?_ _
                  go_wp2_with fail
                  go_roundw
                  case rel => exact ⟨k + 1, g0, c0, g', c', _, _, by omega, by go_num, HRD.out⟩
                  case measure => simp [intOf]; omega
                · go_simp
                  refine hK.out _ _ trivial (fun _ => ?_)
                  clear hK K
                  try simp only [Act.put]
                  refine wpAnyH_ready (rs := [3]) (by kernel_rfl) (by simp) ?_
                  refine AllReadyH.cons rfl (fun K hK => ?_) AllReadyH.nil
                  go_simp
                  refine hK.out _ _ trivial (fun _ => ?_)
                  clear hK K
                  try simp only [Act.put]
                  refine wpAnyH_ready (rs := [7]) (by kernel_rfl) (by simp) ?_
                  refine AllReadyH.cons rfl (fun K hK => ?_) AllReadyH.nil
                  refine step_mapUpdate_run rfl _ _ _ 56 rfl _ _ _ w7 rfl rfl rfl HRUN7.out ?_
                  refine hK.out _ _ trivial (fun _ => ?_)
                  clear hK K
                  try simp only [Act.put]
                  refine wpAnyH_done (by kernel_rfl) ?_ _
                  go_wp2_with fail
                  go_roundw
                  case rel => exact ⟨k + 1, g0, c0, g', c', _, _, by omega, by go_num, HRD.out⟩
                  case measure => simp [intOf]; omega
          | true =>
            rw [hj] at H25
            have HFL := Lib.hid (show flag F i = 1 by unfold flag; rw [hj]; rfl)
            have hWA : Below w4.heap.size w4 ((w4.alloc (.cells #[.string ByteArray.empty, .int .u32 x, .int .u32 1] 83)).drew) := ((Below.refl _ _).alloc (Nat.le_refl _) _).drew
            have hWB : Below B w4 ((w4.alloc (.cells #[.string ByteArray.empty, .int .u32 x, .int .u32 1] 83)).drew) := hWA.mono (Nat.le_trans hB HX4.out.bel.size)
            have rnA := HX4.out.rn.below hWA
            obtain ⟨i83, hi83, hzz⟩ := Option.map_eq_some_iff.1 info83
            simp only [Prod.mk.injEq] at hzz
            obtain ⟨hz1, hz2, hz3⟩ := hzz
            have hownA : World.ownsRow ((w4.alloc (.cells #[.string ByteArray.empty, .int .u32 x, .int .u32 1] 83)).drew) B 83 3 (.slice (some ⟨g1, 0, none⟩) ll c1) ll (sl (slotsL (ini 1) (flag F) M.sum (M.o 1))) := by
              have h := rnA.b1
              unfold Sb at h
              rw [slotsL_len, ← HLL.out] at h
              exact h
            have hrow8 := (Row.newArr w4 83 #[.string ByteArray.empty, .int .u32 x, .int .u32 1]).drew
            obtain ⟨v5, w5, hrun, hown5, hgr5, _, hat5⟩ := run_append_own_at (P := Try.prog) ((w4.alloc (.cells #[.string ByteArray.empty, .int .u32 x, .int .u32 1] 83)).drew) B 54 54 83 i83 _ 3 24 Try.underlying54 hi83 hz1 hz2 hz3 rfl (by decide) (.slice (some ⟨g1, 0, none⟩) ll c1) ll (sl (slotsL (ini 1) (flag F) M.sum (M.o 1))) hownA ⟨w4.heap.size, 0, none⟩ 1 1 [.string ByteArray.empty, .int .u32 x, .int .u32 1] rfl (fun j u hu => (by
              have hj3 : j < 3 := (List.getElem?_eq_some_iff.1 hu).1
              have hadd : (⟨w4.heap.size, 0, none⟩ : Addr).add j = ⟨w4.heap.size, j, none⟩ := (by unfold Addr.add; split <;> simp_all)
              rw [hadd]
              exact hrow8.at_ hu)) (fun u hu => (by simp only [List.mem_cons, List.not_mem_nil, or_false] at hu; rcases hu with rfl | rfl | rfl <;> rfl)) (by unfold maxLen; omega) (by omega) (by have := hWB.size; have := HX4.out.bel.size; omega)
            obtain ⟨g', c', hv5⟩ := slice_of_own hown5
            subst hv5
            have hat : g' = g1 ∨ g' = ((w4.alloc (.cells #[.string ByteArray.empty, .int .u32 x, .int .u32 1] 83)).drew).heap.size := (by
              rcases hat5 with h | h
              · left; simpa [Value.ownBlock] using h
              · right; simpa [Value.ownBlock] using h)
            have hgr5' : World.grownBy ((w4.alloc (.cells #[.string ByteArray.empty, .int .u32 x, .int .u32 1] 83)).drew) w5 (some g1) := hgr5
            have hr5 := rnA.row.grown hgr5' (fun e => (by injection e with e; exact sb_ne_row rnA.b1 rnA.row (by decide) e))
            have c9 := hr5.at_ (i := 2) rfl
            have f9 := hr5.frozen 2
            rw [← HLL.out] at c9
            have r1b := rnA.row.at_ (i := 2) rfl
            have r1c := (HX4.out.rn.below ((Below.refl w4.heap.size w4).alloc (Nat.le_refl _) (.cells #[.string ByteArray.empty, .int .u32 x, .int .u32 1] 83))).row.at_ (i := 2) rfl
            rw [← HLL.out] at r1b r1c
            have a3 := HX4.out.row5.at_ (i := 3) rfl
            have HRUN := Lib.hid hrun
            have HRNA := Lib.hid rnA
            have HOWN5 := Lib.hid hown5
            have HGR5 := Lib.hid hgr5'
            have HAT := Lib.hid hat
            have HWA := Lib.hid hWA
            have HWB := Lib.hid hWB
            clear hrun rnA hown5 hgr5 hgr5' hat hat5 hownA hrow8 hr5 hWA hWB hj
            have HI83 := Lib.hid hi83
            clear hi83 hz1 hz2 hz3
            go_wp2_with (go_at_call 25; (with_reducible refine H25.out.mono ?_); rintro e w9 ⟨rfl, rfl⟩)
            refine wp_region_held_drew (S := fun _ => True) (by kernel_rfl) trivial (fun hHeld => ?_)
            refine wpAnyH_take (i := 0) (v := .pointer (some ⟨p, 2, none⟩)) rfl (by kernel_rfl) (by kernel_rfl) (by kernel_rfl) (fun _ _ _ h => h) (Or.inl ⟨by rfl, fun W _ => by go_simp⟩) trivial ?_
            simp only [Act.put, List.setIfInBounds_toArray]
            refine wpAnyH_take (i := 1) (v := .pointer (some ⟨p, 2, none⟩)) rfl (by kernel_rfl) (by kernel_rfl) (by kernel_rfl) (fun _ _ _ h => h) (Or.inl ⟨by rfl, fun W _ => by go_simp⟩) trivial ?_
            simp only [Act.put]
            refine wpAnyH_take (i := 2) (v := .pointer (some ⟨p, 2, none⟩)) rfl (by kernel_rfl) (by kernel_rfl) (by kernel_rfl) (fun _ _ _ h => h) (Or.inl ⟨by rfl, fun W _ => by go_simp⟩) trivial ?_
            simp only [Act.put]
            refine wpAnyH_take (i := 4) (v := .pointer (some ⟨b5, 3, none⟩)) rfl (by kernel_rfl) (by kernel_rfl) (by kernel_rfl) (fun _ _ _ h => h) (Or.inl ⟨by rfl, fun W _ => by go_simp⟩) trivial ?_
            simp only [Act.put]
            refine wpAnyH_take (i := 6) (v := .int .u32 1) rfl (by kernel_rfl) (by kernel_rfl) (by kernel_rfl) (fun _ _ _ h => h) (Or.inl ⟨by rfl, fun W _ => by go_simp⟩) trivial ?_
            simp only [Act.put]
            refine wpAnyH_ready (rs := [3, 5]) (by kernel_rfl) (by simp) ?_
            refine AllReadyH.cons rfl (fun K hK => ?_) (AllReadyH.cons rfl (fun K hK => ?_) AllReadyH.nil)
            · go_simp
              refine hK.out _ _ trivial (fun _ => ?_)
              clear hK K
              try simp only [Act.put]
              refine wpAnyH_ready (rs := [5]) (by kernel_rfl) (by simp) ?_
              refine AllReadyH.cons rfl (fun K hK => ?_) AllReadyH.nil
              go_simp
              refine hK.out _ _ trivial (fun _ => ?_)
              clear hK K
              try simp only [Act.put]
              refine wpAnyH_take (i := 7) (v := .agg #[.string ByteArray.empty, .int .u32 x, .int .u32 1]) rfl (by kernel_rfl) (by kernel_rfl) (by kernel_rfl) (fun _ _ _ h => h) (Or.inl ⟨by rfl, fun W _ => by go_simp; rfl⟩) trivial ?_
              simp only [Act.put]
              refine wpAnyH_ready (rs := [8]) (by kernel_rfl) (by simp) ?_
              refine AllReadyH.cons rfl (fun K hK => ?_) AllReadyH.nil
              go_simp
              refine hK.out _ _ trivial (fun _ => ?_)
              clear hK K
              try simp only [Act.put]
              refine wpAnyH_ready (rs := [9]) (by kernel_rfl) (by simp) ?_
              refine AllReadyH.cons rfl (fun K hK => ?_) AllReadyH.nil
              refine step_append_run rfl _ _ 54 54 rfl _ _ _ w5 rfl rfl HRUN.out ?_
              refine hK.out _ _ trivial (fun _ => ?_)
              clear hK K
              try simp only [Act.put]
              refine wpAnyH_take (i := 10) (v := .pointer (some ⟨p, 2, none⟩)) rfl (by kernel_rfl) (by kernel_rfl) (by kernel_rfl) (fun _ _ _ h => h) (Or.inl ⟨by rfl, fun W _ => by go_simp⟩) trivial ?_
              simp only [Act.put]
              refine wpAnyH_ready (rs := [11]) (by kernel_rfl) (by simp) ?_
              refine AllReadyH.cons rfl (fun K hK => ?_) AllReadyH.nil
              go_simp
              refine hK.out _ _ trivial (fun _ => ?_)
              clear hK K
              try simp only [Act.put]
              refine wpAnyH_done (by kernel_rfl) ?_ _
              obtain ⟨w6, hw6⟩ : ∃ w6, w6 = w5.setCell ⟨p, 2, none⟩ (.slice (some ⟨g', 0, none⟩) (ll + 1) c') := ⟨_, rfl⟩
              have hmA : MapF Try.prog w6 mb 50 cnt f := by rw [hw6]; exact (HRNA.out.mp.kept HGR5.out (fun e => by injection e with e; exact sb_ne_map HRNA.out.b1 HRNA.out.mp e)).set (row_ne_map HRNA.out.row HRNA.out.mp) _
              have h5A := (HX4.out.row5.below HWA.out HX4.out.row5.lt).grown HGR5.out (fun e => by injection e with e; exact N5.out.2.2.2.1 e)
              have h56 := h5A.far (p := ⟨p, 2, none⟩) N5.out.1 (.slice (some ⟨g', 0, none⟩) (ll + 1) c')
              have hp6 := (HRNA.out.row.grown HGR5.out (fun e => (by injection e with e; exact sb_ne_row HRNA.out.b1 HRNA.out.row (by decide) e))).set 2 (.slice (some ⟨g', 0, none⟩) (ll + 1) c')
              rw [← hw6] at h56 hp6 ⊢
              have a1 := h56.at_ (i := 1) rfl
              have a2 := h56.at_ (i := 2) rfl
              have r5 := hp6.at_ (i := 5) rfl
              obtain ⟨w7, hrun7, hm7, hgr7, hsz7⟩ := MapF.update hmA.drew Try.underlying56 keyed50 (key_ref i (by omega)) (.int .u32 (ll : Int))
              have HRD := Lib.hid (push1 HX4.out HM1.out HG.out HNEG.out HNS.out HXB.out HFL.out hB hq hgs HR.out.n0 HR.out.n1 hp hmb HLL.out HOWN5.out HGR5.out HAT.out (by rw [← hw6]; exact hgr7) hm7)
              unfold refv at hrun7
              have HRUN7 := Lib.hid hrun7
              clear hrun7 hm7 hgr7 hsz7 hw6 h5A h56 hp6 hmA c9 f9 r1 r1b r1c a3
              go_wp2_with fail
              refine wp_region_held_drew (S := fun _ => True) (by kernel_rfl) trivial (fun hHeld => ?_)
              refine wpAnyH_take (i := 0) (v := .pointer (some ⟨p, 0, none⟩)) rfl (by kernel_rfl) (by kernel_rfl) (by kernel_rfl) (fun _ _ _ h => h) (Or.inl ⟨by rfl, fun W _ => by go_simp⟩) trivial ?_
              simp only [Act.put, List.setIfInBounds_toArray]
              refine wpAnyH_take (i := 1) (v := .pointer (some ⟨p, 0, none⟩)) rfl (by kernel_rfl) (by kernel_rfl) (by kernel_rfl) (fun _ _ _ h => h) (Or.inl ⟨by rfl, fun W _ => by go_simp⟩) trivial ?_
              simp only [Act.put]
              refine wpAnyH_take (i := 2) (v := .pointer (some ⟨p, 5, none⟩)) rfl (by kernel_rfl) (by kernel_rfl) (by kernel_rfl) (fun _ _ _ h => h) (Or.inl ⟨by rfl, fun W _ => by go_simp⟩) trivial ?_
              simp only [Act.put]
              refine wpAnyH_take (i := 4) (v := .pointer (some ⟨b5, 1, none⟩)) rfl (by kernel_rfl) (by kernel_rfl) (by kernel_rfl) (fun _ _ _ h => h) (Or.inl ⟨by rfl, fun W _ => by go_simp⟩) trivial ?_
              simp only [Act.put]
              refine wpAnyH_take (i := 6) (v := .int .u32 (ll : Int)) rfl (by kernel_rfl) (by kernel_rfl) (by kernel_rfl) (fun _ _ _ h => h) (Or.inl ⟨by rfl, fun W _ => by go_simp⟩) trivial ?_
              simp only [Act.put]
              refine wpAnyH_ready (rs := [3, 5]) (by kernel_rfl) (by simp) ?_
              refine AllReadyH.cons rfl (fun K hK => ?_) (AllReadyH.cons rfl (fun K hK => ?_) AllReadyH.nil)
              · go_simp
                refine hK.out _ _ trivial (fun _ => ?_)
                clear hK K
                try simp only [Act.put]
                refine wpAnyH_ready (rs := [5]) (by kernel_rfl) (by simp) ?_
                refine AllReadyH.cons rfl (fun K hK => ?_) AllReadyH.nil
                go_simp
                refine hK.out _ _ trivial (fun _ => ?_)
                clear hK K
                try simp only [Act.put]
                refine wpAnyH_ready (rs := [7]) (by kernel_rfl) (by simp) ?_
                refine AllReadyH.cons rfl (fun K hK => ?_) AllReadyH.nil
                refine step_mapUpdate_run rfl _ _ _ 56 rfl _ _ _ w7 rfl rfl rfl HRUN7.out ?_
                refine hK.out _ _ trivial (fun _ => ?_)
                clear hK K
                try simp only [Act.put]
                refine wpAnyH_done (by kernel_rfl) ?_ _
                go_wp2_with fail
                go_roundw
                case rel => exact ⟨k + 1, g0, c0, g', c', _, _, by omega, by go_num, HRD.out⟩
                case measure => simp [intOf]; omega
              · go_simp
                refine hK.out _ _ trivial (fun _ => ?_)
                clear hK K
                try simp only [Act.put]
                refine wpAnyH_ready (rs := [3]) (by kernel_rfl) (by simp) ?_
                refine AllReadyH.cons rfl (fun K hK => ?_) AllReadyH.nil
                go_simp
                refine hK.out _ _ trivial (fun _ => ?_)
                clear hK K
                try simp only [Act.put]
                refine wpAnyH_ready (rs := [7]) (by kernel_rfl) (by simp) ?_
                refine AllReadyH.cons rfl (fun K hK => ?_) AllReadyH.nil
                refine step_mapUpdate_run rfl _ _ _ 56 rfl _ _ _ w7 rfl rfl rfl HRUN7.out ?_
                refine hK.out _ _ trivial (fun _ => ?_)
                clear hK K
                try simp only [Act.put]
                refine wpAnyH_done (by kernel_rfl) ?_ _
                go_wp2_with fail
                go_roundw
                case rel => exact ⟨k + 1, g0, c0, g', c', _, _, by omega, by go_num, HRD.out⟩
                case measure => simp [intOf]; omega
            · go_simp
              refine hK.out _ _ trivial (fun _ => ?_)
              clear hK K
              try simp only [Act.put]
              refine wpAnyH_take (i := 7) (v := .agg #[.string ByteArray.empty, .int .u32 x, .int .u32 1]) rfl (by kernel_rfl) (by kernel_rfl) (by kernel_rfl) (fun _ _ _ h => h) (Or.inl ⟨by rfl, fun W _ => by go_simp; rfl⟩) trivial ?_
              simp only [Act.put]
              refine wpAnyH_ready (rs := [3, 8]) (by kernel_rfl) (by simp) ?_
              refine AllReadyH.cons rfl (fun K hK => ?_) (AllReadyH.cons rfl (fun K hK => ?_) AllReadyH.nil)
              · go_simp
                refine hK.out _ _ trivial (fun _ => ?_)
                clear hK K
                try simp only [Act.put]
                refine wpAnyH_ready (rs := [8]) (by kernel_rfl) (by simp) ?_
                refine AllReadyH.cons rfl (fun K hK => ?_) AllReadyH.nil
                go_simp
                refine hK.out _ _ trivial (fun _ => ?_)
                clear hK K
                try simp only [Act.put]
                refine wpAnyH_ready (rs := [9]) (by kernel_rfl) (by simp) ?_
                refine AllReadyH.cons rfl (fun K hK => ?_) AllReadyH.nil
                refine step_append_run rfl _ _ 54 54 rfl _ _ _ w5 rfl rfl HRUN.out ?_
                refine hK.out _ _ trivial (fun _ => ?_)
                clear hK K
                try simp only [Act.put]
                refine wpAnyH_take (i := 10) (v := .pointer (some ⟨p, 2, none⟩)) rfl (by kernel_rfl) (by kernel_rfl) (by kernel_rfl) (fun _ _ _ h => h) (Or.inl ⟨by rfl, fun W _ => by go_simp⟩) trivial ?_
                simp only [Act.put]
                refine wpAnyH_ready (rs := [11]) (by kernel_rfl) (by simp) ?_
                refine AllReadyH.cons rfl (fun K hK => ?_) AllReadyH.nil
                go_simp
                refine hK.out _ _ trivial (fun _ => ?_)
                clear hK K
                try simp only [Act.put]
                refine wpAnyH_done (by kernel_rfl) ?_ _
                obtain ⟨w6, hw6⟩ : ∃ w6, w6 = w5.setCell ⟨p, 2, none⟩ (.slice (some ⟨g', 0, none⟩) (ll + 1) c') := ⟨_, rfl⟩
                have hmA : MapF Try.prog w6 mb 50 cnt f := by rw [hw6]; exact (HRNA.out.mp.kept HGR5.out (fun e => by injection e with e; exact sb_ne_map HRNA.out.b1 HRNA.out.mp e)).set (row_ne_map HRNA.out.row HRNA.out.mp) _
                have h5A := (HX4.out.row5.below HWA.out HX4.out.row5.lt).grown HGR5.out (fun e => by injection e with e; exact N5.out.2.2.2.1 e)
                have h56 := h5A.far (p := ⟨p, 2, none⟩) N5.out.1 (.slice (some ⟨g', 0, none⟩) (ll + 1) c')
                have hp6 := (HRNA.out.row.grown HGR5.out (fun e => (by injection e with e; exact sb_ne_row HRNA.out.b1 HRNA.out.row (by decide) e))).set 2 (.slice (some ⟨g', 0, none⟩) (ll + 1) c')
                rw [← hw6] at h56 hp6 ⊢
                have a1 := h56.at_ (i := 1) rfl
                have a2 := h56.at_ (i := 2) rfl
                have r5 := hp6.at_ (i := 5) rfl
                obtain ⟨w7, hrun7, hm7, hgr7, hsz7⟩ := MapF.update hmA.drew Try.underlying56 keyed50 (key_ref i (by omega)) (.int .u32 (ll : Int))
                have HRD := Lib.hid (push1 HX4.out HM1.out HG.out HNEG.out HNS.out HXB.out HFL.out hB hq hgs HR.out.n0 HR.out.n1 hp hmb HLL.out HOWN5.out HGR5.out HAT.out (by rw [← hw6]; exact hgr7) hm7)
                unfold refv at hrun7
                have HRUN7 := Lib.hid hrun7
                clear hrun7 hm7 hgr7 hsz7 hw6 h5A h56 hp6 hmA c9 f9 r1 r1b r1c a3
                go_wp2_with fail
                refine wp_region_held_drew (S := fun _ => True) (by kernel_rfl) trivial (fun hHeld => ?_)
                refine wpAnyH_take (i := 0) (v := .pointer (some ⟨p, 0, none⟩)) rfl (by kernel_rfl) (by kernel_rfl) (by kernel_rfl) (fun _ _ _ h => h) (Or.inl ⟨by rfl, fun W _ => by go_simp⟩) trivial ?_
                simp only [Act.put, List.setIfInBounds_toArray]
                refine wpAnyH_take (i := 1) (v := .pointer (some ⟨p, 0, none⟩)) rfl (by kernel_rfl) (by kernel_rfl) (by kernel_rfl) (fun _ _ _ h => h) (Or.inl ⟨by rfl, fun W _ => by go_simp⟩) trivial ?_
                simp only [Act.put]
                refine wpAnyH_take (i := 2) (v := .pointer (some ⟨p, 5, none⟩)) rfl (by kernel_rfl) (by kernel_rfl) (by kernel_rfl) (fun _ _ _ h => h) (Or.inl ⟨by rfl, fun W _ => by go_simp⟩) trivial ?_
                simp only [Act.put]
                refine wpAnyH_take (i := 4) (v := .pointer (some ⟨b5, 1, none⟩)) rfl (by kernel_rfl) (by kernel_rfl) (by kernel_rfl) (fun _ _ _ h => h) (Or.inl ⟨by rfl, fun W _ => by go_simp⟩) trivial ?_
                simp only [Act.put]
                refine wpAnyH_take (i := 6) (v := .int .u32 (ll : Int)) rfl (by kernel_rfl) (by kernel_rfl) (by kernel_rfl) (fun _ _ _ h => h) (Or.inl ⟨by rfl, fun W _ => by go_simp⟩) trivial ?_
                simp only [Act.put]
                refine wpAnyH_ready (rs := [3, 5]) (by kernel_rfl) (by simp) ?_
                refine AllReadyH.cons rfl (fun K hK => ?_) (AllReadyH.cons rfl (fun K hK => ?_) AllReadyH.nil)
                · go_simp
                  refine hK.out _ _ trivial (fun _ => ?_)
                  clear hK K
                  try simp only [Act.put]
                  refine wpAnyH_ready (rs := [5]) (by kernel_rfl) (by simp) ?_
                  refine AllReadyH.cons rfl (fun K hK => ?_) AllReadyH.nil
                  go_simp
                  refine hK.out _ _ trivial (fun _ => ?_)
                  clear hK K
                  try simp only [Act.put]
                  refine wpAnyH_ready (rs := [7]) (by kernel_rfl) (by simp) ?_
                  refine AllReadyH.cons rfl (fun K hK => ?_) AllReadyH.nil
                  refine step_mapUpdate_run rfl _ _ _ 56 rfl _ _ _ w7 rfl rfl rfl HRUN7.out ?_
                  refine hK.out _ _ trivial (fun _ => ?_)
                  clear hK K
                  try simp only [Act.put]
                  refine wpAnyH_done (by kernel_rfl) ?_ _
                  go_wp2_with fail
                  go_roundw
                  case rel => exact ⟨k + 1, g0, c0, g', c', _, _, by omega, by go_num, HRD.out⟩
                  case measure => simp [intOf]; omega
                · go_simp
                  refine hK.out _ _ trivial (fun _ => ?_)
                  clear hK K
                  try simp only [Act.put]
                  refine wpAnyH_ready (rs := [3]) (by kernel_rfl) (by simp) ?_
                  refine AllReadyH.cons rfl (fun K hK => ?_) AllReadyH.nil
                  go_simp
                  refine hK.out _ _ trivial (fun _ => ?_)
                  clear hK K
                  try simp only [Act.put]
                  refine wpAnyH_ready (rs := [7]) (by kernel_rfl) (by simp) ?_
                  refine AllReadyH.cons rfl (fun K hK => ?_) AllReadyH.nil
                  refine step_mapUpdate_run rfl _ _ _ 56 rfl _ _ _ w7 rfl rfl rfl HRUN7.out ?_
                  refine hK.out _ _ trivial (fun _ => ?_)
                  clear hK K
                  try simp only [Act.put]
                  refine wpAnyH_done (by kernel_rfl) ?_ _
                  go_wp2_with fail
                  go_roundw
                  case rel => exact ⟨k + 1, g0, c0, g', c', _, _, by omega, by go_num, HRD.out⟩
                  case measure => simp [intOf]; omega
              · go_simp
                refine hK.out _ _ trivial (fun _ => ?_)
                clear hK K
                try simp only [Act.put]
                refine wpAnyH_ready (rs := [3]) (by kernel_rfl) (by simp) ?_
                refine AllReadyH.cons rfl (fun K hK => ?_) AllReadyH.nil
                go_simp
                refine hK.out _ _ trivial (fun _ => ?_)
                clear hK K
                try simp only [Act.put]
                refine wpAnyH_ready (rs := [9]) (by kernel_rfl) (by simp) ?_
                refine AllReadyH.cons rfl (fun K hK => ?_) AllReadyH.nil
                refine step_append_run rfl _ _ 54 54 rfl _ _ _ w5 rfl rfl HRUN.out ?_
                refine hK.out _ _ trivial (fun _ => ?_)
                clear hK K
                try simp only [Act.put]
                refine wpAnyH_take (i := 10) (v := .pointer (some ⟨p, 2, none⟩)) rfl (by kernel_rfl) (by kernel_rfl) (by kernel_rfl) (fun _ _ _ h => h) (Or.inl ⟨by rfl, fun W _ => by go_simp⟩) trivial ?_
                simp only [Act.put]
                refine wpAnyH_ready (rs := [11]) (by kernel_rfl) (by simp) ?_
                refine AllReadyH.cons rfl (fun K hK => ?_) AllReadyH.nil
                go_simp
                refine hK.out _ _ trivial (fun _ => ?_)
                clear hK K
                try simp only [Act.put]
                refine wpAnyH_done (by kernel_rfl) ?_ _
                obtain ⟨w6, hw6⟩ : ∃ w6, w6 = w5.setCell ⟨p, 2, none⟩ (.slice (some ⟨g', 0, none⟩) (ll + 1) c') := ⟨_, rfl⟩
                have hmA : MapF Try.prog w6 mb 50 cnt f := by rw [hw6]; exact (HRNA.out.mp.kept HGR5.out (fun e => by injection e with e; exact sb_ne_map HRNA.out.b1 HRNA.out.mp e)).set (row_ne_map HRNA.out.row HRNA.out.mp) _
                have h5A := (HX4.out.row5.below HWA.out HX4.out.row5.lt).grown HGR5.out (fun e => by injection e with e; exact N5.out.2.2.2.1 e)
                have h56 := h5A.far (p := ⟨p, 2, none⟩) N5.out.1 (.slice (some ⟨g', 0, none⟩) (ll + 1) c')
                have hp6 := (HRNA.out.row.grown HGR5.out (fun e => (by injection e with e; exact sb_ne_row HRNA.out.b1 HRNA.out.row (by decide) e))).set 2 (.slice (some ⟨g', 0, none⟩) (ll + 1) c')
                rw [← hw6] at h56 hp6 ⊢
                have a1 := h56.at_ (i := 1) rfl
                have a2 := h56.at_ (i := 2) rfl
                have r5 := hp6.at_ (i := 5) rfl
                obtain ⟨w7, hrun7, hm7, hgr7, hsz7⟩ := MapF.update hmA.drew Try.underlying56 keyed50 (key_ref i (by omega)) (.int .u32 (ll : Int))
                have HRD := Lib.hid (push1 HX4.out HM1.out HG.out HNEG.out HNS.out HXB.out HFL.out hB hq hgs HR.out.n0 HR.out.n1 hp hmb HLL.out HOWN5.out HGR5.out HAT.out (by rw [← hw6]; exact hgr7) hm7)
                unfold refv at hrun7
                have HRUN7 := Lib.hid hrun7
                clear hrun7 hm7 hgr7 hsz7 hw6 h5A h56 hp6 hmA c9 f9 r1 r1b r1c a3
                go_wp2_with fail
                refine wp_region_held_drew (S := fun _ => True) (by kernel_rfl) trivial (fun hHeld => ?_)
                refine wpAnyH_take (i := 0) (v := .pointer (some ⟨p, 0, none⟩)) rfl (by kernel_rfl) (by kernel_rfl) (by kernel_rfl) (fun _ _ _ h => h) (Or.inl ⟨by rfl, fun W _ => by go_simp⟩) trivial ?_
                simp only [Act.put, List.setIfInBounds_toArray]
                refine wpAnyH_take (i := 1) (v := .pointer (some ⟨p, 0, none⟩)) rfl (by kernel_rfl) (by kernel_rfl) (by kernel_rfl) (fun _ _ _ h => h) (Or.inl ⟨by rfl, fun W _ => by go_simp⟩) trivial ?_
                simp only [Act.put]
                refine wpAnyH_take (i := 2) (v := .pointer (some ⟨p, 5, none⟩)) rfl (by kernel_rfl) (by kernel_rfl) (by kernel_rfl) (fun _ _ _ h => h) (Or.inl ⟨by rfl, fun W _ => by go_simp⟩) trivial ?_
                simp only [Act.put]
                refine wpAnyH_take (i := 4) (v := .pointer (some ⟨b5, 1, none⟩)) rfl (by kernel_rfl) (by kernel_rfl) (by kernel_rfl) (fun _ _ _ h => h) (Or.inl ⟨by rfl, fun W _ => by go_simp⟩) trivial ?_
                simp only [Act.put]
                refine wpAnyH_take (i := 6) (v := .int .u32 (ll : Int)) rfl (by kernel_rfl) (by kernel_rfl) (by kernel_rfl) (fun _ _ _ h => h) (Or.inl ⟨by rfl, fun W _ => by go_simp⟩) trivial ?_
                simp only [Act.put]
                refine wpAnyH_ready (rs := [3, 5]) (by kernel_rfl) (by simp) ?_
                refine AllReadyH.cons rfl (fun K hK => ?_) (AllReadyH.cons rfl (fun K hK => ?_) AllReadyH.nil)
                · go_simp
                  refine hK.out _ _ trivial (fun _ => ?_)
                  clear hK K
                  try simp only [Act.put]
                  refine wpAnyH_ready (rs := [5]) (by kernel_rfl) (by simp) ?_
                  refine AllReadyH.cons rfl (fun K hK => ?_) AllReadyH.nil
                  go_simp
                  refine hK.out _ _ trivial (fun _ => ?_)
                  clear hK K
                  try simp only [Act.put]
                  refine wpAnyH_ready (rs := [7]) (by kernel_rfl) (by simp) ?_
                  refine AllReadyH.cons rfl (fun K hK => ?_) AllReadyH.nil
                  refine step_mapUpdate_run rfl _ _ _ 56 rfl _ _ _ w7 rfl rfl rfl HRUN7.out ?_
                  refine hK.out _ _ trivial (fun _ => ?_)
                  clear hK K
                  try simp only [Act.put]
                  refine wpAnyH_done (by kernel_rfl) ?_ _
                  go_wp2_with fail
                  go_roundw
                  case rel => exact ⟨k + 1, g0, c0, g', c', _, _, by omega, by go_num, HRD.out⟩
                  case measure => simp [intOf]; omega
                · go_simp
                  refine hK.out _ _ trivial (fun _ => ?_)
                  clear hK K
                  try simp only [Act.put]
                  refine wpAnyH_ready (rs := [3]) (by kernel_rfl) (by simp) ?_
                  refine AllReadyH.cons rfl (fun K hK => ?_) AllReadyH.nil
                  go_simp
                  refine hK.out _ _ trivial (fun _ => ?_)
                  clear hK K
                  try simp only [Act.put]
                  refine wpAnyH_ready (rs := [7]) (by kernel_rfl) (by simp) ?_
                  refine AllReadyH.cons rfl (fun K hK => ?_) AllReadyH.nil
                  refine step_mapUpdate_run rfl _ _ _ 56 rfl _ _ _ w7 rfl rfl rfl HRUN7.out ?_
                  refine hK.out _ _ trivial (fun _ => ?_)
                  clear hK K
                  try simp only [Act.put]
                  refine wpAnyH_done (by kernel_rfl) ?_ _
                  go_wp2_with fail
                  go_roundw
                  case rel => exact ⟨k + 1, g0, c0, g', c', _, _, by omega, by go_num, HRD.out⟩
                  case measure => simp [intOf]; omega
        · have him : i ∈ M.o 1 := by rw [← hns]; exact (HG.out.mem i).2 (by omega)
          obtain ⟨pq, hpq, hpl⟩ := pos_of him
          have hfi := HX3.out.rn.at_ 1 pq i hpq
          obtain ⟨kk, hkk⟩ : ∃ kk, kk = ini 1 + pq := ⟨_, rfl⟩
          rw [← hkk] at hfi
          have HKK := Lib.hid hkk
          clear hkk
          have hlk : (Instr.lookup 56 (.map (some mb)) (.agg #[.int .u32 0, .int .u32 (i : Int)]) true).run Try.prog w3.drew = .ok (.tuple #[.int .u32 (kk : Int), .bool true]) w3.drew := by
            rw [hfi] at hlk0
            exact hlk0
          clear hlk0 hfi
          go_region_held3 (fun w' => w'.cell? ⟨p, 5, none⟩ = some (.map (some mb)) ∧ w'.cell? ⟨b5, 1, none⟩ = some (.int .u32 0) ∧ w'.cell? ⟨b5, 2, none⟩ = some (.int .u32 (i : Int)) ∧ (Instr.lookup 56 (.map (some mb)) (.agg #[.int .u32 0, .int .u32 (i : Int)]) true).run Try.prog w' = .ok (.tuple #[.int .u32 (kk : Int), .bool true]) w') (first | exact ⟨r5, a1, a2, hlk⟩ | assumption) (fail)
          clear hlk r5 a1 a2
          obtain ⟨w4, hw4⟩ : ∃ w4, w4 = w3.drew := ⟨_, rfl⟩
          have HX4 := Lib.hid (show Sx w B p mb rb A2 A3 q gs n ge m ini K F z4 z5 M g0 c0 g1 c1 f cnt b5 k i x w4 by rw [hw4]; exact HX3.out.below (Below.refl _ _).drew (Nat.le_trans hB HX3.out.bel.size) hq hgs)
          rw [← hw4]
          clear hw4 HX3
          have hno : i ∉ M.o 0 := fun hm => by have := (HG.out.own 0 i hm).1; omega
          have hx4 : Sx w B p mb rb A2 A3 q gs n ge m ini K F z4 z5 M g0 c0 g1 c1 f cnt b5 k i x w4 := HX4.out
          have hsl := slotsL_at (init := ini 1) (cap := flag F) (sum := M.sum) hpq
          rw [← HKK.out] at hsl
          have hst := hx4.rn.b1.cnt hsl
          have hfz := hx4.rn.b1.frozen (kk * 3 + 1)
          have r1 := HX4.out.rn.row.at_ (i := 2) rfl
          have a3 := hx4.row5.at_ (i := 3) rfl
          have hn1 := seen1 hx4.rn (HG.out.nodup 1) hpq hno hneg ((M.sum i + x) % 4294967296)
          rw [← HKK.out] at hn1
          have hx5 : Sx w B p mb rb A2 A3 q gs n ge m ini K F z4 z5 ⟨M.fst, up M.sum i ((M.sum i + x) % 4294967296), M.o⟩ g0 c0 g1 c1 f cnt b5 k i x (w4.setCell ⟨g1, kk * 3 + 1, none⟩ (.int .u32 ((M.sum i + x) % 4294967296))) := hx4.store hn1 hx4.rn.b1.lt.1 HR.out.n1 N5.out.2.2.2.1 hq hgs
          have HX5 := Lib.hid hx5
          have HME := Lib.hid (show M.step (nsv K) k i x = ⟨M.fst, up M.sum i ((M.sum i + x) % 4294967296), M.o⟩ by unfold Md.step; rw [if_neg hneg, if_neg hneg, up_same])
          obtain ⟨ll, hll⟩ : ∃ ll, ll = ini 1 + (M.o 1).length := ⟨_, rfl⟩
          rw [← hll] at r1
          have i1 : (kk : Int) < (ll : Int) := by have := HKK.out; omega
          have i0 : (0 : Int) ≤ (kk : Int) := by omega
          have HPQ := Lib.hid hpq
          obtain ⟨sm, hsm⟩ : ∃ sm, sm = M.sum i := ⟨_, rfl⟩
          have HSM := Lib.hid hsm
          rw [← hsm] at hst
          have hwr : IntKind.u32.wrap (sm + x) = (sm + x) % 4294967296 := by simp [IntKind.wrap, IntKind.bits, IntKind.signed]
          clear hneg him hpq hno hns hll hpl hsm hsl hn1 hx5 hx4
          go_wp2_with fail
          refine wp_region_held_drew (S := fun _ => True) (by kernel_rfl) trivial (fun hHeld => ?_)
          refine wpAnyH_take (i := 0) (v := .pointer (some ⟨g1, kk * 3, none⟩)) rfl (by kernel_rfl) (by kernel_rfl) (by kernel_rfl) (fun _ _ _ h => h) (Or.inl ⟨by rfl, fun W _ => by go_simp⟩) trivial ?_
          simp only [Act.put, List.setIfInBounds_toArray]
          refine wpAnyH_take (i := 1) (v := .pointer (some ⟨g1, kk * 3, none⟩)) rfl (by kernel_rfl) (by kernel_rfl) (by kernel_rfl) (fun _ _ _ h => h) (Or.inl ⟨by rfl, fun W _ => by go_simp⟩) trivial ?_
          simp only [Act.put]
          refine wpAnyH_take (i := 2) (v := .pointer (some ⟨g1, kk * 3 + 1, none⟩)) rfl (by kernel_rfl) (by kernel_rfl) (by kernel_rfl) (fun _ _ _ h => h) (Or.inl ⟨by rfl, fun W _ => by go_simp⟩) trivial ?_
          simp only [Act.put]
          refine wpAnyH_take (i := 4) (v := .pointer (some ⟨b5, 3, none⟩)) rfl (by kernel_rfl) (by kernel_rfl) (by kernel_rfl) (fun _ _ _ h => h) (Or.inl ⟨by rfl, fun W _ => by go_simp⟩) trivial ?_
          simp only [Act.put]
          refine wpAnyH_ready (rs := [3, 5]) (by kernel_rfl) (by simp) ?_
          refine AllReadyH.cons rfl (fun K hK => ?_) (AllReadyH.cons rfl (fun K hK => ?_) AllReadyH.nil)
          · go_simp
            refine hK.out _ _ trivial (fun _ => ?_)
            clear hK K
            try simp only [Act.put]
            refine wpAnyH_ready (rs := [5]) (by kernel_rfl) (by simp) ?_
            refine AllReadyH.cons rfl (fun K hK => ?_) AllReadyH.nil
            go_simp
            refine hK.out _ _ trivial (fun _ => ?_)
            clear hK K
            try simp only [Act.put]
            refine wpAnyH_take (i := 6) (v := .int .u32 ((sm + x) % 4294967296)) rfl (by kernel_rfl) (by kernel_rfl) (by kernel_rfl) (fun _ _ _ h => h) (Or.inl ⟨by rfl, fun W _ => by go_simp⟩) trivial ?_
            simp only [Act.put]
            refine wpAnyH_take (i := 7) (v := .pointer (some ⟨g1, kk * 3, none⟩)) rfl (by kernel_rfl) (by kernel_rfl) (by kernel_rfl) (fun _ _ _ h => h) (Or.inl ⟨by rfl, fun W _ => by go_simp⟩) trivial ?_
            simp only [Act.put]
            refine wpAnyH_take (i := 8) (v := .pointer (some ⟨g1, kk * 3 + 1, none⟩)) rfl (by kernel_rfl) (by kernel_rfl) (by kernel_rfl) (fun _ _ _ h => h) (Or.inl ⟨by rfl, fun W _ => by go_simp⟩) trivial ?_
            simp only [Act.put]
            refine wpAnyH_ready (rs := [9]) (by kernel_rfl) (by simp) ?_
            refine AllReadyH.cons rfl (fun K hK => ?_) AllReadyH.nil
            go_simp
            refine hK.out _ _ trivial (fun _ => ?_)
            clear hK K
            try simp only [Act.put]
            refine wpAnyH_done (by kernel_rfl) ?_ _
            rw [HSM.out]
            obtain ⟨w5, hw5⟩ : ∃ w5, w5 = (w4.setCell ⟨g1, kk * 3 + 1, none⟩ (.int .u32 ((M.sum i + x) % 4294967296))).drew := ⟨_, rfl⟩
            have HX6 := Lib.hid (show Sx w B p mb rb A2 A3 q gs n ge m ini K F z4 z5 ⟨M.fst, up M.sum i ((M.sum i + x) % 4294967296), M.o⟩ g0 c0 g1 c1 f cnt b5 k i x w5 by rw [hw5]; exact HX5.out.below (Below.refl _ _).drew (Nat.le_trans hB HX5.out.bel.size) hq hgs)
            rw [← hw5]
            clear hw5 hst hfz r1 a3
            have f7 := K7.out w5 _ HX6.out
            have H25 := Lib.hid (has25 (flv F i) 2 (jsx F i) w5 (has_jsx F i))
            have hf2 := HX6.out.rn.b1.frozen (kk * 3 + 2)
            have hsl := slotsL_at (init := ini 1) (cap := flag F) (sum := up M.sum i ((M.sum i + x) % 4294967296)) HPQ.out
            rw [← HKK.out] at hsl
            have hc2 := HX6.out.rn.b1.cap hsl
            clear hsl
            cases hj : jsx F i with
            | false =>
              rw [hj] at H25
              go_wp2_with (go_at_call 25; (with_reducible refine H25.out.mono ?_); rintro e w9 ⟨rfl, rfl⟩)
              go_roundw
              case rel => exact ⟨k + 1, g0, c0, g1, c1, f, cnt, by omega, by go_num, HX6.out.rd (HM1.out.trans HME.out) HR.out.n0 HR.out.n1⟩
              case measure => simp [intOf]; omega
            | true =>
              rw [hj] at H25
              have hm := mark1 HX6.out.rn (q := pq) (i := i) HPQ.out (show flag F i = 1 by unfold flag; rw [hj]; rfl)
              rw [← HKK.out] at hm
              have HM := Lib.hid (HX6.out.store hm HX6.out.rn.b1.lt.1 HR.out.n1 N5.out.2.2.2.1 hq hgs)
              clear hm
              go_wp2_with (go_at_call 25; (with_reducible refine H25.out.mono ?_); rintro e w9 ⟨rfl, rfl⟩)
              go_roundw
              case rel => exact ⟨k + 1, g0, c0, g1, c1, f, cnt, by omega, by go_num, HM.out.rd (HM1.out.trans HME.out) HR.out.n0 HR.out.n1⟩
              case measure => simp [intOf]; omega
          · go_simp
            refine hK.out _ _ trivial (fun _ => ?_)
            clear hK K
            try simp only [Act.put]
            refine wpAnyH_ready (rs := [3]) (by kernel_rfl) (by simp) ?_
            refine AllReadyH.cons rfl (fun K hK => ?_) AllReadyH.nil
            go_simp
            refine hK.out _ _ trivial (fun _ => ?_)
            clear hK K
            try simp only [Act.put]
            refine wpAnyH_take (i := 6) (v := .int .u32 ((sm + x) % 4294967296)) rfl (by kernel_rfl) (by kernel_rfl) (by kernel_rfl) (fun _ _ _ h => h) (Or.inl ⟨by rfl, fun W _ => by go_simp⟩) trivial ?_
            simp only [Act.put]
            refine wpAnyH_take (i := 7) (v := .pointer (some ⟨g1, kk * 3, none⟩)) rfl (by kernel_rfl) (by kernel_rfl) (by kernel_rfl) (fun _ _ _ h => h) (Or.inl ⟨by rfl, fun W _ => by go_simp⟩) trivial ?_
            simp only [Act.put]
            refine wpAnyH_take (i := 8) (v := .pointer (some ⟨g1, kk * 3 + 1, none⟩)) rfl (by kernel_rfl) (by kernel_rfl) (by kernel_rfl) (fun _ _ _ h => h) (Or.inl ⟨by rfl, fun W _ => by go_simp⟩) trivial ?_
            simp only [Act.put]
            refine wpAnyH_ready (rs := [9]) (by kernel_rfl) (by simp) ?_
            refine AllReadyH.cons rfl (fun K hK => ?_) AllReadyH.nil
            go_simp
            refine hK.out _ _ trivial (fun _ => ?_)
            clear hK K
            try simp only [Act.put]
            refine wpAnyH_done (by kernel_rfl) ?_ _
            rw [HSM.out]
            obtain ⟨w5, hw5⟩ : ∃ w5, w5 = (w4.setCell ⟨g1, kk * 3 + 1, none⟩ (.int .u32 ((M.sum i + x) % 4294967296))).drew := ⟨_, rfl⟩
            have HX6 := Lib.hid (show Sx w B p mb rb A2 A3 q gs n ge m ini K F z4 z5 ⟨M.fst, up M.sum i ((M.sum i + x) % 4294967296), M.o⟩ g0 c0 g1 c1 f cnt b5 k i x w5 by rw [hw5]; exact HX5.out.below (Below.refl _ _).drew (Nat.le_trans hB HX5.out.bel.size) hq hgs)
            rw [← hw5]
            clear hw5 hst hfz r1 a3
            have f7 := K7.out w5 _ HX6.out
            have H25 := Lib.hid (has25 (flv F i) 2 (jsx F i) w5 (has_jsx F i))
            have hf2 := HX6.out.rn.b1.frozen (kk * 3 + 2)
            have hsl := slotsL_at (init := ini 1) (cap := flag F) (sum := up M.sum i ((M.sum i + x) % 4294967296)) HPQ.out
            rw [← HKK.out] at hsl
            have hc2 := HX6.out.rn.b1.cap hsl
            clear hsl
            cases hj : jsx F i with
            | false =>
              rw [hj] at H25
              go_wp2_with (go_at_call 25; (with_reducible refine H25.out.mono ?_); rintro e w9 ⟨rfl, rfl⟩)
              go_roundw
              case rel => exact ⟨k + 1, g0, c0, g1, c1, f, cnt, by omega, by go_num, HX6.out.rd (HM1.out.trans HME.out) HR.out.n0 HR.out.n1⟩
              case measure => simp [intOf]; omega
            | true =>
              rw [hj] at H25
              have hm := mark1 HX6.out.rn (q := pq) (i := i) HPQ.out (show flag F i = 1 by unfold flag; rw [hj]; rfl)
              rw [← HKK.out] at hm
              have HM := Lib.hid (HX6.out.store hm HX6.out.rn.b1.lt.1 HR.out.n1 N5.out.2.2.2.1 hq hgs)
              clear hm
              go_wp2_with (go_at_call 25; (with_reducible refine H25.out.mono ?_); rintro e w9 ⟨rfl, rfl⟩)
              go_roundw
              case rel => exact ⟨k + 1, g0, c0, g1, c1, f, cnt, by omega, by go_num, HM.out.rd (HM1.out.trans HME.out) HR.out.n0 HR.out.n1⟩
              case measure => simp [intOf]; omega
    · obtain rfl : k = m := by omega
      have HR := Lib.hid hr
      clear hr
      go_wp2_with fail
      go_end0
      exact ⟨rfl, g0, c0, g1, c1, f, cnt, HR.out⟩
end Go.Proofs.Ytidcbknnjpecbaa.AtE
