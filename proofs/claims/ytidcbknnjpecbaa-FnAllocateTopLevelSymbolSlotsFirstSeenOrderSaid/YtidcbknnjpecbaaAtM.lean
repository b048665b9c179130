/- FnAllocateTopLevelSymbolSlotsFirstSeenOrder: the law. -/
import Derived.Test.YtidcbknnjpecbaaRows
import Derived.Test.YtidcbknnjpecbaaMem
import Derived.Test.YtidcbknnjpecbaaSl
import Derived.Test.YtidcbknnjpecbaaAtL
import Derived.Carry
import Derived.Great.BuildSlice
import Derived.Deep.RegionLaw
import Derived.Deep.RegionHeld3
import Derived.WalkKit
import Derived.ProofKit
import Derived.OpenShut
import Derived.Below
import Derived.WalkLawsBesides
import Derived.Lib.Hide
import Derived.Outline
import Derived.RegionTactic
import Derived.Deep.QuietTactic
import Derived.BigQuiet
import Derived.WalkSpells
import Derived.Deep.OwnRows
import Derived.IntWalk
import Derived.Deep.DeepMust
namespace Go.Proofs.Ytidcbknnjpecbaa.AtM
open Go.RowKit Mem Sl
set_option linter.unusedVariables false
open Args AtA AtB AtP AtC AtD AtE AtF AtG AtL MapK Go.Proofs.Ytidcbknnjpecbaa.Arr Go.Maps

theorem up_neg (k i : Nat) : up (fun i => if i < k then (-1 : Int) else 0) k (-1) i = if i < k + 1 then -1 else 0 := by
  unfold up
  by_cases e : i = k
  · simp [e]
  · have : (i < k + 1) = (i < k) := by apply propext; omega
    simp [e, this]
theorem step_neg {ns : Nat → Nat} {m m' : Md} {t i : Nat} {c X : Int} (h : m' = m.step ns t i c) (hX : X = m.fst i) (hn : X < 0) : m'.fst = up m.fst i (t : Int) ∧ m'.sum = up m.sum i ((m.sum i + c) % 4294967296) := by
  subst h hX
  exact ⟨by unfold Md.step; simp only [if_pos hn], rfl⟩
theorem step_pos {ns : Nat → Nat} {m m' : Md} {t i : Nat} {c X : Int} (h : m' = m.step ns t i c) (hX : X = m.fst i) (hn : ¬ X < 0) : m'.fst = m.fst ∧ m'.sum = up m.sum i ((m.sum i + c) % 4294967296) := by
  subst h hX
  exact ⟨by unfold Md.step; simp only [if_neg hn, up_same], rfl⟩
theorem dis_skip {ns : Nat → Nat} {n t k : Nat} {M : Md} (hg : AtP.Good ns n t M) (hn : M.fst k < 0) (s : Nat) : below (M.o s) (k + 1) = below (M.o s) k :=
  below_skip (fun hm => by have e := (hg.own s k hm).1; subst e; have := (hg.mem k).1 hm; omega)
theorem dis_hit {ns : Nat → Nat} {n t k : Nat} {M : Md} (hg : AtP.Good ns n t M) (hn : ¬ M.fst k < 0) (s : Nat) : up (fun s => (below (M.o s) k : Int)) (ns k) ((below (M.o (ns k)) k : Int) + 1) s = (below (M.o s) (k + 1) : Int) := by
  by_cases e : s = ns k
  · subst e
    rw [up_self, below_hit (hg.nodup _) ((hg.mem k).2 (by omega))]
    omega
  · rw [up_ne _ _ e, below_skip (fun hm => e (hg.own s k hm).1.symm)]
theorem lenS_eq {K : List Int} {n t a b : Nat} {M : Md} (hg : AtP.Good (nsv K) n t M) (s : Nat) : lenS (iniF a b) M s = iniF a b s + (M.o s).length := by
  unfold lenS
  split
  · rfl
  · rw [o_nil hg (by omega)]
    unfold iniF
    rw [if_neg (by omega), if_neg (by omega)]
    rfl
theorem flipc {f : FuncId} {args : Array Value} {w : World} {v : Value} (h : Calls Try.prog f args w fun e w' => e = .returned v ∧ w = w') : Calls Try.prog f args w fun e w' => e = .returned v ∧ w' = w := h.mono fun _ _ ⟨a, b⟩ => ⟨a, b.symm⟩
theorem len12q {w : World} {B p mb n t a b : Nat} {K : List Int} {rb sm : Value} {A2 A3 : Option Addr} {cap : Nat → Int} {m : Md} {g0 c0 g1 c1 : Nat} {f : Value → Option Value} {cnt : Nat} (h : Rn w B p mb rb sm A2 A3 (iniF a b) cap m g0 c0 g1 c1 f cnt) (hg : AtP.Good (nsv K) n t m) (s : Nat) (hs : s < 4) {X Y : Nat} (hX : X = iniF a b s) (hY : Y = (m.o s).length) (q : Nat) :
    Calls Try.prog 12 #[.pointer (some ⟨p, 0, none⟩), .int .i64 (s : Int)] (w.drewN q) fun e w' => e = .returned (.int .i64 ((X : Int) + (Y : Int))) ∧ w' = w.drewN q := by
  have h := flipc (len12 (h.below (below_drewN (Below.refl _ _) q)) s hs)
  rw [lenS_eq hg, ← hX, ← hY, Int.natCast_add] at h
  exact h
def tblV (bb : Nat) (L : Nat → Nat) (k s : Nat) : Value := if s < k then .slice (some ⟨bb + 1 + s, 0, none⟩) (L s) (L s) else .slice none 0 0
theorem tbl_step {w : World} {bb k : Nat} {L : Nat → Nat} (h : Fv w bb 4 (tblV bb L k)) (hk : k < 4) : Fv (w.setCell ⟨bb, k, none⟩ (.slice (some ⟨bb + 1 + k, 0, none⟩) (L k) (L k))) bb 4 (tblV bb L (k + 1)) := by
  refine (h.set hk _).congr (fun s hs => ?_)
  unfold up tblV
  by_cases e : s = k
  · simp [e]
  · have : (s < k + 1) = (s < k) := by apply propext; omega
    simp [e, this]
theorem tbl_at {w : World} {bb k s : Nat} {L : Nat → Nat} (h : Fv w bb 4 (tblV bb L k)) (hk : s < k) (h4 : s < 4) : w.cell? ⟨bb, s, none⟩ = some (.slice (some ⟨bb + 1 + s, 0, none⟩) (L s) (L s)) := by
  rw [h.cell s h4]
  unfold tblV
  rw [if_pos hk]
structure Tb (w : World) (bb : Nat) (L : Nat → Nat) (k : Nat) : Prop where
  tbl : Fv w bb 4 (tblV bb L k)
  rows : ∀ s, s < k → Fr w (bb + 1 + s) (L s) .i64 (fun _ => -1)
  sz : w.heap.size = bb + 1 + k
theorem Tb.step {w u w3 : World} {bb k : Nat} {L : Nat → Nat} (h : Tb w bb L k) (hu : u = (w.alloc (.cells (madeCells #[.int .i64 0] (L k)) 3)).setCell ⟨bb, k, none⟩ (.slice (some ⟨bb + 1 + k, 0, none⟩) (L k) (L k))) (hk : k < 4) (hb : Below (bb + 1 + k) u w3) (hsz : w3.heap.size = bb + 1 + (k + 1)) (hr : Fr w3 (bb + 1 + k) (L k) .i64 (fun i => if i < L k then -1 else 0)) : Tb w3 bb L (k + 1) := by
  have ha : Below w.heap.size w (w.alloc (.cells (madeCells #[.int .i64 0] (L k)) 3)) := (Below.refl _ _).alloc (Nat.le_refl _) _
  have t1 := tbl_step (Fv.below h.tbl ha h.tbl.lt) hk
  rw [← hu] at t1
  refine ⟨Fv.below t1 hb (by omega), fun s hs => ?_, hsz⟩
  by_cases e : s = k
  · subst e
    exact hr.congr (fun i hi => by rw [if_pos hi])
  · have r1 := Fv.far (Fv.below (h.rows s (by omega)) ha (h.rows s (by omega)).lt) (p := ⟨bb, k, none⟩) (by show bb + 1 + s ≠ bb; omega) (.slice (some ⟨bb + 1 + k, 0, none⟩) (L k) (L k))
    rw [← hu] at r1
    exact Fv.below r1 hb (by omega)
theorem fr_cell {wC W : World} {g n C : Nat} {kd : IntKind} {f : Nat → Int} (h : Fr wC g n kd f) (hb : Below C wC W) (hg : g < C) {i : Nat} (hi : i < n) {x : Int} (hx : x = f i) : W.cell? ⟨g, i, none⟩ = some (.int kd x) := by
  rw [hx]
  exact (Fv.below h hb hg).cell i hi
section
variable {w : World} {B p mb : Nat} {rb sm : Value} {A2 A3 : Option Addr} {ini : Nat → Nat} {cp : Nat → Int} {m : Md} {g0 c0 g1 c1 : Nat} {f : Value → Option Value} {cnt : Nat}
theorem Rn.belowC {w' : World} {C : Nat} (h : Rn w B p mb rb sm A2 A3 ini cp m g0 c0 g1 c1 f cnt) (hb : Below C w w') (hp : p < C ∧ mb < C ∧ g0 < C ∧ g1 < C) : Rn w' B p mb rb sm A2 A3 ini cp m g0 c0 g1 c1 f cnt :=
  ⟨h.row.below hb hp.1, h.b0.below hb hp.2.2.1, h.b1.below hb hp.2.2.2, h.ne, h.mp.below hb hp.2.1, h.no, h.at_, h.pB, h.mB⟩
theorem top13n (h : Rn w B p mb rb sm A2 A3 ini cp m g0 c0 g1 c1 f cnt) (i : Nat) (hi : i ≤ 100000) (hn : m.fst i < 0) : Calls Try.prog 13 #[.pointer (some ⟨p, 0, none⟩), .agg #[.int .u32 0, .int .u32 (i : Int)]] w fun e w' => e = .returned (.tuple #[.int .u32 0, .bool false]) ∧ Below w.heap.size w w' := by
  have h9 := top13 h i hi
  rw [h.no i hn] at h9
  exact h9
theorem top13s (h : Rn w B p mb rb sm A2 A3 ini cp m g0 c0 g1 c1 f cnt) (i : Nat) (hi : i ≤ 100000) {s q V : Nat} (hn : (m.o s)[q]? = some i) (hV : V = ini s + q) : Calls Try.prog 13 #[.pointer (some ⟨p, 0, none⟩), .agg #[.int .u32 0, .int .u32 (i : Int)]] w fun e w' => e = .returned (.tuple #[.int .u32 (V : Int), .bool true]) ∧ Below w.heap.size w w' := by
  have h9 := top13 h i hi
  rw [h.at_ s q i hn, ← hV] at h9
  exact h9
end
theorem byF_skip_neg {ns : Nat → Nat} {n t k : Nat} {M : Md} {w : World} {bb : Nat} {L : Nat → Nat} (hg : AtP.Good ns n t M) (hL : L = fun s => (M.o s).length) (hn : M.fst k < 0) (h : ∀ s, s < 4 → Fr w (bb + 1 + s) (L s) .i64 (byF M k s)) : ∀ s, s < 4 → Fr w (bb + 1 + s) (L s) .i64 (byF M (k + 1) s) :=
  fun s hs => (h s hs).congr (fun q hq => (byF_skip (fun hm => by have e := (hg.own s k hm).1; subst e; have := (hg.mem k).1 hm; omega) (by rw [hL] at hq; exact hq)).symm)
theorem rows_below {w w' : World} {bb C : Nat} {L : Nat → Nat} {F : Nat → Nat → Int} (h : ∀ s, s < 4 → Fr w (bb + 1 + s) (L s) .i64 (F s)) (hb : Below C w w') (hC : bb + 5 ≤ C) : ∀ s, s < 4 → Fr w' (bb + 1 + s) (L s) .i64 (F s) :=
  fun s hs => Fv.below (h s hs) hb (by omega)
theorem ns11s {A0 : Option Addr} {n0 c0 : Nat} {z0 : List Int} {A1 : Option Addr} {n1 c1 : Nat} {z1 : List Int} {i S : Nat} {w : World} (hS : S = nsv z0 i) (h0 : IsInts .u8 w A0 n0 c0 z0) (h1 : IsInts .u8 w A1 n1 c1 z1) (hi : i ≤ 100000) :
    Calls Try.prog 11 #[.slice A0 n0 c0, .slice A1 n1 c1, .int .i64 (i : Int), .bool false] w fun e w' => e = .returned (.int .i64 (S : Int)) ∧ w = w' := by
  subst hS
  exact ns11 A0 n0 c0 z0 A1 n1 c1 z1 i w h0 h1 (by omega)
theorem tbl_below {w W : World} {bb s l : Nat} {L : Nat → Nat} (h : Fv w bb 4 (tblV bb L 4)) (hb : Below (bb + 1) w W) (h4 : s < 4) (hl : l = L s) : W.cell? ⟨bb, s, none⟩ = some (.slice (some ⟨bb + 1 + s, 0, none⟩) l l) := by
  rw [hl]
  exact tbl_at (Fv.below h hb (by omega)) h4 h4
theorem rows_hit {ns : Nat → Nat} {n t k S q0 bs : Nat} {M : Md} {w : World} {bb : Nat} {L : Nat → Nat} {X : Int} (hg : AtP.Good ns n t M) (hL : L = fun s => (M.o s).length) (hq : (M.o S)[q0]? = some k) (hX : X = M.fst k) (hbs : bs = bb + 1 + S) (hS : S < 4) (h : ∀ s, s < 4 → Fr w (bb + 1 + s) (L s) .i64 (byF M k s)) :
    ∀ s, s < 4 → Fr (w.setCell ⟨bs, q0, none⟩ (.int .i64 X)) (bb + 1 + s) (L s) .i64 (byF M (k + 1) s) := by
  intro s hs
  subst hX hbs
  have hql : q0 < L S := by rw [hL]; exact (List.getElem?_eq_some_iff.1 hq).1
  by_cases e : s = S
  · subst e
    exact ((h s hs).set hql (M.fst k)).congr (fun q hq' => (byF_hit (hg.nodup s) hq (by rw [hL] at hq'; exact hq')).symm)
  · have hm : k ∈ M.o S := List.mem_of_getElem? hq
    exact Fr.congr (Fv.far (h s hs) (p := ⟨bb + 1 + S, q0, none⟩) (by show bb + 1 + s ≠ bb + 1 + S; omega) _) (fun q hq' => (byF_skip (fun hm' => e (by rw [← (hg.own s k hm').1, (hg.own S k hm).1])) (by rw [hL] at hq'; exact hq')).symm)
section
variable {w : World} {B p mb : Nat} {rb sm : Value} {A2 A3 : Option Addr} {ini : Nat → Nat} {cp : Nat → Int} {m : Md} {g0 c0 g1 c1 : Nat} {f : Value → Option Value} {cnt : Nat}
theorem cnt15q (h : Rn w B p mb rb sm A2 A3 ini cp m g0 c0 g1 c1 f cnt) {s V q i : Nat} (hs : s < 2) (hq : (m.o s)[q]? = some i) (hV : V = ini s + q) {x : Int} (hx : x = m.sum i) (d : Nat) : Calls Try.prog 15 #[.pointer (some ⟨p, 0, none⟩), .int .i64 (s : Int), .int .i64 (V : Int)] (w.drewN d) fun e w' => e = .returned (.int .u32 x) ∧ w' = w.drewN d := by
  subst hx hV
  exact flipc (cnt15 (h.below (below_drewN (Below.refl _ _) d)) s (ini s + q) hs _ _ (slotsL_at hq))
theorem cap16q (h : Rn w B p mb rb sm A2 A3 ini cp m g0 c0 g1 c1 f cnt) {s V q i : Nat} (hs : s < 2) (hq : (m.o s)[q]? = some i) (hV : V = ini s + q) {x : Int} (hx : cp i = x) : Calls Try.prog 16 #[.pointer (some ⟨p, 0, none⟩), .int .i64 (s : Int), .int .i64 (V : Int)] w fun e w' => e = .returned (.int .u32 x) ∧ w = w' := by
  subst hx hV
  exact cap16 h s (ini s + q) hs _ _ (slotsL_at hq)
theorem cnt15z (h : Rn w B p mb rb sm A2 A3 ini cp m g0 c0 g1 c1 f cnt) {s k : Nat} (hs : s < 2) (hk : k < ini s) : Calls Try.prog 15 #[.pointer (some ⟨p, 0, none⟩), .int .i64 (s : Int), .int .i64 (k : Int)] w fun e w' => e = .returned (.int .u32 0) ∧ w = w' :=
  cnt15 h s k hs _ _ (slotsL_init hk)
theorem cap16z (h : Rn w B p mb rb sm A2 A3 ini cp m g0 c0 g1 c1 f cnt) {s k : Nat} (hs : s < 2) (hk : k < ini s) : Calls Try.prog 16 #[.pointer (some ⟨p, 0, none⟩), .int .i64 (s : Int), .int .i64 (k : Int)] w fun e w' => e = .returned (.int .u32 0) ∧ w = w' :=
  cap16 h s k hs _ _ (slotsL_init hk)
end
theorem Rn.dn {w : World} {B p mb : Nat} {rb sm : Value} {A2 A3 : Option Addr} {ini : Nat → Nat} {cap : Nat → Int} {m : Md} {g0 c0 g1 c1 : Nat} {f : Value → Option Value} {cnt : Nat} (h : Rn w B p mb rb sm A2 A3 ini cap m g0 c0 g1 c1 f cnt) (q : Nat) : Rn (w.drewN q) B p mb rb sm A2 A3 ini cap m g0 c0 g1 c1 f cnt := h.below (below_drewN (Below.refl _ _) _)
theorem fr_made {w : World} {g n : Nat} {t : TypeId} {k : IntKind} (h : Row w g t (List.replicate n (.int k 0))) : Fr w g n k (fun _ => 0) := Fv.of_row h (fun i hi => by simp [hi])
set_option maxRecDepth 100000 in
set_option maxHeartbeats 32000000 in
theorem law (A0 : Option Addr) (n0 c0 : Nat) (z0 : List Int) (A1 : Option Addr) (n1 c1 : Nat) (z1 : List Int) (a2 : Int) (a3 : Int) (A4 : Option Addr) (n4 c4 : Nat) (z4 : List Int) (A5 : Option Addr) (n5 c5 : Nat) (z5 : List Int) (w : World) (w0 : Args.IsInts .u8 w A0 n0 c0 z0) (w1 : Args.IsInts .u8 w A1 n1 c1 z1) (w2 : (Lit.int .u32 a2).wf = true) (w3 : (Lit.int .u32 a3).wf = true) (w4 : Args.IsInts .u32 w A4 n4 c4 z4) (w5 : Args.IsInts .u32 w A5 n5 c5 z5) :
    Calls Try.prog 3 #[.slice A0 n0 c0, .slice A1 n1 c1, .int .u32 a2, .int .u32 a3, .slice A4 n4 c4, .slice A5 n5 c5] w fun e w' => e = .returned (.bool true) ∧ Below w.heap.size w w' := by
  have BY := Lib.hid (bytes4 A0 n0 c0 A1 n1 c1 a2 a3 A4 n4 c4 A5 n5 c5 w (Nat.le_trans w0.1 w0.2.1) (Nat.le_trans w1.1 w1.2.1) (Nat.le_trans w4.1 w4.2.1) (Nat.le_trans w5.1 w5.2.1))
  have H0 := Lib.hid w0
  have H1 := Lib.hid w1
  have H4 := Lib.hid w4
  have H5 := Lib.hid w5
  have m0 : n0 ≤ maxLen := Nat.le_trans w0.1 w0.2.1
  have m1 : n1 ≤ maxLen := Nat.le_trans w1.1 w1.2.1
  have m4 : n4 ≤ maxLen := Nat.le_trans w4.1 w4.2.1
  have m5 : n5 ≤ maxLen := Nat.le_trans w5.1 w5.2.1
  unfold maxLen at m0 m1 m4 m5
  obtain ⟨b2a, b2b⟩ := bounds_u32 w2
  obtain ⟨b3a, b3b⟩ := bounds_u32 w3
  clear w0 w1 w2 w3 w4 w5
  generalize decide (n0 + n1 + n4 + n5 ≤ 1048576) = q0 at BY
  go_enter Try.func3, Try.ntmps3
  go_wp2_with fail
  refine BY.out.mono ?_
  rintro e wx ⟨rfl, rfl⟩
  cases q0
  · go_wp2_with fail
    go_ret
    exact ⟨rfl, Below.refl _ _⟩
  by_cases q0 : 4096 < n0
  · have g0 : decide ((4096 : Int) < (n0 : Int)) = true := by simp; omega
    go_wp2_with fail
    go_ret
    exact ⟨rfl, Below.refl _ _⟩
  have g0 : decide ((4096 : Int) < (n0 : Int)) = false := by simp; omega
  by_cases q1 : 4096 < n1
  · have g1 : decide ((4096 : Int) < (n1 : Int)) = true := by simp; omega
    go_wp2_with fail
    go_ret
    exact ⟨rfl, Below.refl _ _⟩
  have g1 : decide ((4096 : Int) < (n1 : Int)) = false := by simp; omega
  by_cases q2 : 4096 < n4
  · have g2 : decide ((4096 : Int) < (n4 : Int)) = true := by simp; omega
    go_wp2_with fail
    go_ret
    exact ⟨rfl, Below.refl _ _⟩
  have g2 : decide ((4096 : Int) < (n4 : Int)) = false := by simp; omega
  by_cases q3 : 4096 < n5
  · have g3 : decide ((4096 : Int) < (n5 : Int)) = true := by simp; omega
    go_wp2_with fail
    go_ret
    exact ⟨rfl, Below.refl _ _⟩
  have g3 : decide ((4096 : Int) < (n5 : Int)) = false := by simp; omega
  by_cases q4 : 4096 < a2
  · have g4 : decide ((4096 : Int) < a2) = true := by simp; omega
    go_wp2_with fail
    go_ret
    exact ⟨rfl, Below.refl _ _⟩
  have g4 : decide ((4096 : Int) < a2) = false := by simp; omega
  by_cases q5 : 4096 < a3
  · have g5 : decide ((4096 : Int) < a3) = true := by simp; omega
    go_wp2_with fail
    go_ret
    exact ⟨rfl, Below.refl _ _⟩
  have g5 : decide ((4096 : Int) < a3) = false := by simp; omega
  by_cases q6 : n0 = 0
  · have g6 : ((n0 : Int) == 0) = true := by simp; omega
    clear q6
    go_wp2_with fail
    go_ret
    exact ⟨rfl, Below.refl _ _⟩
  have g6 : ((n0 : Int) == 0) = false := by simp; omega
  go_wp2_with fail
  refine (bld6 A0 A1 n0 c0 n1 c1 z0 z1 w H0.out H1.out (by omega)).mono ?_
  rintro e u1 ⟨q, gs, rfl, hsy, hb1, hq, hgs⟩
  obtain ⟨a, ha⟩ : ∃ a : Nat, a2 = (a : Int) := ⟨a2.toNat, by omega⟩
  obtain ⟨b, hb⟩ : ∃ b : Nat, a3 = (b : Int) := ⟨a3.toNat, by omega⟩
  subst ha hb
  clear g0 g1 g2 g3 g4 g5 g6
  have na : a ≤ 4096 := by omega
  have nb : b ≤ 4096 := by omega
  have nn : n0 ≤ 4096 := by omega
  have n1n : 1 ≤ n0 := by omega
  have n4n : n4 ≤ 4096 := by omega
  clear q0 q1 q2 q3 q4 q5 q6 m0 m1 m4 m5 b2a b2b b3a b3b
  have HSY := Lib.hid hsy
  have HB1 := Lib.hid hb1
  have HQ := Lib.hid (And.intro hsy.row.lt hsy.arr.lt)
  clear hsy hb1 hq hgs
  go_wp2_with fail
  refine (cnt7 (a : Int) (b : Int) u1).mono ?_
  rintro e u2 ⟨rfl, hb2⟩
  have HB2 := Lib.hid (HB1.out.trans (hb2.mono HB1.out.size))
  have HS2 := Lib.hid (HSY.out.below (hb2.mono (Nat.le_refl _)) HQ.out.1 HQ.out.2)
  have HQ2 := Lib.hid (And.intro HS2.out.row.lt HS2.out.arr.lt)
  clear hb2 HB1 HSY HQ BY
  have hmm := @run_makeMap Try.prog 35 u2
  go_wp2_with fail
  clear hmm
  have hbm : Below u2.heap.size u2 (u2.alloc (.map #[] 0)) := (Below.refl _ _).alloc (Nat.le_refl _) _
  obtain ⟨u3, hu3⟩ : ∃ u3, u3 = u2.alloc (.map #[] 0) := ⟨_, rfl⟩
  rw [← hu3] at hbm ⊢
  have HB3 := Lib.hid (HB2.out.trans (hbm.mono HB2.out.size))
  have HS3 := Lib.hid (HS2.out.below hbm HQ2.out.1 HQ2.out.2)
  have HQ3 := Lib.hid (And.intro HS3.out.row.lt HS3.out.arr.lt)
  clear hbm hu3 HB2 HS2 HQ2
  have N5 := Lib.hid (new5 a b 0 0 (.map (some u2.heap.size)) (.slice (some ⟨q, 0, none⟩) 1 1) u3 (by omega) (by omega) (by omega) (by omega) ⟨_, rfl⟩ ⟨_, _, _, rfl⟩)
  refine N5.out.mono ?_
  rintro e u4 ⟨⟨v, rfl, hren⟩, hb4⟩
  obtain ⟨p, s0, s1, s2, s3, mv, rfl, hr, hs, hm, hp⟩ := hren
  obtain ⟨g0, g1, mb, A2, A3, hrn⟩ := rn_made (cp := flag z1) hr hs hm hp na nb
  have HRN := Lib.hid hrn
  have HB4 := Lib.hid (HB3.out.trans (hb4.mono HB3.out.size))
  have HS4 := Lib.hid (HS3.out.below hb4 HQ3.out.1 HQ3.out.2)
  have HBB := Lib.hid hb4.size
  obtain ⟨B, hB⟩ : ∃ B, B = u3.heap.size := ⟨_, rfl⟩
  rw [← hB] at HRN HQ3 HBB
  have HBW := Lib.hid HB3.out.size
  rw [← hB] at HBW
  obtain ⟨rb, hrb⟩ : ∃ rb, rb = Value.map (some u2.heap.size) := ⟨_, rfl⟩
  rw [← hrb] at HRN
  clear hr hs hm hp hrn hb4 HB3 HS3 N5 hB hrb
  go_wp2_with fail
  refine (ents9 A4 A5 n4 c4 n5 c5 n0 z4 z5 u4 (H4.out.later HB4.out) (H5.out.later HB4.out) n4n nn n1n).mono ?_
  rintro e u5 ⟨ge, rfl, hen, hb5, hge⟩
  have HRD := Lib.hid (show Rd u5 B p mb rb A2 A3 q gs n0 ge n4 (iniF a b) z0 z1 z4 z5 0 g0 a g1 b (fun _ => none) 0 u5 from
    ⟨HRN.out.below hb5, hen, HS4.out.below (hb5.mono HBB.out) HQ3.out.1 HQ3.out.2, Below.refl _ _, by have := HRN.out.b0.lt; omega, by have := HRN.out.b1.lt; omega⟩)
  have HB5 := Lib.hid (HB4.out.trans (hb5.mono HB4.out.size))
  have hn1 : ge ≠ p := by have := HRN.out.row.lt; omega
  have hn2 : ge ≠ mb := by have := HRN.out.mp.lt; omega
  have HN := Lib.hid (And.intro hn1 hn2)
  have HBC := Lib.hid (Nat.le_trans HBB.out hb5.size)
  have H5U := Lib.hid (fun t => at0_u32 H5.out.2.2.2.1 t)
  have HINI := Lib.hid (show ∀ s, iniF a b s ≤ 4096 by intro s; unfold iniF; split <;> (try split) <;> omega)
  clear hen hb5 hge hn1 hn2 HB4 HS4 HRN HBB
  go_wp2_with fail
  refine (all8 B p mb q gs n0 ge n4 rb A2 A3 (iniF a b) z0 z1 z4 z5 g0 a g1 b (fun _ => none) 0 u5 HRD.out nn n1n n4n HINI.out H5U.out HQ3.out.1 HQ3.out.2 HBC.out HN.out.1 HN.out.2).mono ?_
  rintro e u6 ⟨rfl, g0', c0', g1', c1', f, cnt, hrd⟩
  obtain ⟨D, hD⟩ : ∃ D : Nat → Md, D = fun k => md (nsv z0) (ix z4 n0) (at0 z5) k := ⟨_, rfl⟩
  have HG := Lib.hid (show ∀ k, AtP.Good (nsv z0) n0 k (D k) by intro k; rw [hD]; exact good_md (nsv z0) (ix z4 n0) (at0 z5) n0 (fun t => Nat.mod_lt _ (by omega)) k)
  have HD0 := Lib.hid (show D 0 = Md.zero by rw [hD]; rfl)
  have HD1 := Lib.hid (show ∀ k, D (k + 1) = (D k).step (nsv z0) k (ix z4 n0 k) (at0 z5 k) by intro k; rw [hD]; rfl)
  have HRN := Lib.hid (show Rn u6 B p mb rb (.slice (some ⟨q, 0, none⟩) 1 1) A2 A3 (iniF a b) (flag z1) (D n4) g0' c0' g1' c1' f cnt by rw [hD]; exact hrd.rn)
  have HB6 := Lib.hid (HB5.out.trans (hrd.bel.mono HBW.out))
  clear hrd HRD HB5 HN HBC H5U HQ3 HBW
  clear hD
  have hmk1 := run_make_row' (P := Try.prog) 40 3 (.int .i64 0) 8 Try.underlying40 info3 rfl .i64 .i64 n0 (by omega) (by omega) u6
  have hmk2 := run_make_row' (P := Try.prog) 24 23 (.int .u32 0) 4 Try.underlying24 info23 rfl .i64 .i64 n0 (by omega) (by omega) (u6.alloc (.cells (madeCells #[.int .i64 0] n0) 3))
  go_wp2_with fail
  clear hmk1 hmk2
  have hr1 := (made_row u6 3 (.int .i64 0) n0).alloc (.cells (madeCells #[.int .u32 0] n0) 23)
  have hr2 := made_row (u6.alloc (.cells (madeCells #[.int .i64 0] n0) 3)) 23 (.int .u32 0) n0
  rw [show (u6.alloc (.cells (madeCells #[.int .i64 0] n0) 3)).heap.size = u6.heap.size + 1 by simp] at hr2
  have hb7 : Below u6.heap.size u6 ((u6.alloc (.cells (madeCells #[.int .i64 0] n0) 3)).alloc (.cells (madeCells #[.int .u32 0] n0) 23)) := ((Below.refl _ _).alloc (Nat.le_refl _) _).alloc (by simp) _
  obtain ⟨u7, hu7⟩ : ∃ u7, u7 = (u6.alloc (.cells (madeCells #[.int .i64 0] n0) 3)).alloc (.cells (madeCells #[.int .u32 0] n0) 23) := ⟨_, rfl⟩
  have hwb := HB6.out.size
  obtain ⟨b1, hb1⟩ : ∃ b1, b1 = u6.heap.size := ⟨_, rfl⟩
  rw [← hu7, ← hb1] at hr1 hr2 hb7
  rw [← hu7, ← hb1]
  rw [← hb1] at hwb
  have HZ1 := Lib.hid hb1
  have F1 := Lib.hid (fr_made hr1)
  have F2 := Lib.hid (fr_made hr2)
  have HB7 := Lib.hid hb7
  clear hu7 hb1 hr1 hr2 hb7
  go_loopw [17] (fun i wr => ∃ k : Nat, k ≤ n0 ∧ i = .int .i64 k ∧ Fr wr b1 n0 .i64 (fun i => if i < k then -1 else 0) ∧ Fr wr (b1 + 1) n0 .u32 (fun _ => 0) ∧ Below b1 u6 wr) (fun i _ => n0 - (intOf i).toNat)
  case atStart => exact ⟨0, Nat.zero_le _, rfl, F1.out.congr (fun i _ => by simp), F2.out, HB7.out⟩
  case round =>
    obtain ⟨k, hk, rfl, hf, hs, hbel⟩ := hrel
    have HF := Lib.hid hf
    have HS := Lib.hid hs
    have HBEL := Lib.hid hbel
    clear hs hbel F1 F2 HB7
    by_cases hlt : k < n0
    · have e0 : wr.cell? ⟨b1, k, none⟩ = some (.int .i64 0) := by have := hf.cell k hlt; simpa using this
      have fz := hf.frozen k
      clear hf
      go_wp2_with fail
      go_roundw
      case rel => exact ⟨k + 1, by omega, by go_num, (HF.out.set hlt (-1)).congr (fun i _ => up_neg k i), Fv.far HS.out (by simp) _, HBEL.out.setCell (Nat.le_refl _) _⟩
      case measure => simp [intOf]; omega
    · obtain rfl : n0 = k := by omega
      clear hf hk
      have R4 := Lib.hid (fun j => H4.out.read j)
      go_wp2_with fail
      go_loopw [18] (fun i wr => ∃ t : Nat, t ≤ n4 ∧ i = .int .i64 t ∧ Fr wr b1 n0 .i64 (D t).fst ∧ Fr wr (b1 + 1) n0 .u32 (D t).sum ∧ Below b1 u6 wr) (fun i _ => n4 - (intOf i).toNat)
      case atStart => exact ⟨0, Nat.zero_le _, rfl, HF.out.congr (fun i hi => by rw [HD0.out, if_pos hi]; rfl), HS.out.congr (fun i _ => by rw [HD0.out]; rfl), HBEL.out⟩
      case round =>
        clear HF HS HBEL
        obtain ⟨t, ht, rfl, hf, hs, hbel⟩ := hrel
        have HF := Lib.hid hf
        have HS := Lib.hid hs
        have HBEL := Lib.hid hbel
        have hbw := HB6.out.trans (hbel.mono hwb)
        have HBW := Lib.hid hbw
        clear hbel
        by_cases hlt : t < n4
        · obtain ⟨b0, o0, ha0, hb0, hc0⟩ := R4.out t hlt
          subst ha0
          have d0 := cell_later hbw hc0
          obtain ⟨x, hx⟩ : ∃ x, x = z4.getD t 0 := ⟨_, rfl⟩
          rw [← hx] at d0
          obtain ⟨x0, x1⟩ := at0_u32 H4.out.2.2.2.1 t
          have hx9 : at0 z4 t = x := hx.symm
          rw [hx9] at x0 x1
          obtain ⟨i, hi⟩ : ∃ i, i = ix z4 n0 t := ⟨_, rfl⟩
          have hin : i < n0 := by rw [hi]; exact Nat.mod_lt _ (by omega)
          have hxi : x % (n0 : Int) = (i : Int) := by
            rw [hi]
            unfold ix
            rw [hx9, Int.natCast_emod, Int.toNat_of_nonneg x0]
          have hnw : (n0 : Int) % 4294967296 = (n0 : Int) := by omega
          have hn1 : ¬ (n0 : Int) = 0 := by omega
          have hn2 : n0 ≠ 0 := by omega
          have HI := Lib.hid hi
          have wr1 : IntKind.i64.wrap (i : Int) = (i : Int) := IntWalk.i64_in _ (by omega)
          have wr3 : IntKind.u32.wrap (n0 : Int) = (n0 : Int) := IntWalk.u32_in _ (by omega)
          have wr4 : IntKind.u32.wrap (x % (n0 : Int)) = (i : Int) := by rw [hxi]; exact IntWalk.u32_in _ (by omega)
          have e1 := hf.cell i hin
          have fz1 := hf.frozen i
          have e2 := hs.cell i hin
          have fz2 := hs.frozen i
          have HIN := Lib.hid hin
          obtain ⟨X, hX⟩ : ∃ X, X = (D t).fst i := ⟨_, rfl⟩
          obtain ⟨S, hS⟩ : ∃ S, S = (D t).sum i := ⟨_, rfl⟩
          have hd1 := HD1.out t
          rw [← hi] at hd1
          have HDX := Lib.hid hd1
          rw [← hX] at e1
          rw [← hS] at e2
          have HXX := Lib.hid hX
          have HSS := Lib.hid hS
          have i1 : (i : Int) < (n0 : Int) := by omega
          have i0 : (0 : Int) ≤ (i : Int) := by omega
          clear hf hs hbw hx hx9 hi hc0 hb0 hX hS hd1
          have HW5 := Lib.hid (fun (W : World) (hW : Below w.heap.size w W) => word10 A5 n5 c5 z5 t W (H5.out.later hW) (by omega))
          obtain ⟨y, hy⟩ : ∃ y, y = at0 z5 t := ⟨_, rfl⟩
          have HC := Lib.hid hy
          have hwr : IntKind.u32.wrap (S + y) = (S + y) % 4294967296 := by simp [IntKind.wrap, IntKind.bits, IntKind.signed]
          clear hy
          by_cases hneg : X < 0
          · have hst := step_neg HDX.out HXX.out hneg
            have HST := Lib.hid hst
            clear hst
            have e3 : (wr.setCell ⟨b1, i, none⟩ (.int .i64 (t : Int))).cell? ⟨b1 + 1, i, none⟩ = some (.int .u32 S) := by
              have := (Fv.far HS.out (p := ⟨b1, i, none⟩) (by simp) (.int .i64 (t : Int))).cell i HIN.out
              rw [← HSS.out] at this
              exact this
            go_wp2_with fail
            have C9 := Lib.hid (HW5.out (wr.setCell ⟨b1, i, none⟩ (.int .i64 (t : Int))).drew ((HBW.out.setCell hwb _).drew))
            rw [← HC.out] at C9
            go_region_with (go_at_call 10; (with_reducible refine C9.out.mono ?_); rintro e w9 ⟨rfl, rfl⟩)
            all_goals
              go_wp2_with fail
              go_roundw
              case rel => exact ⟨t + 1, by omega, by go_num, (by rw [HST.out.1]; exact Fv.drew (Fv.far (Fr.set HF.out HIN.out (t : Int)) (p := ⟨b1 + 1, i, none⟩) (by simp) _)), (by rw [HST.out.2, ← HSS.out, ← HC.out]; exact Fv.drew (Fr.set (Fv.far HS.out (p := ⟨b1, i, none⟩) (by simp) _) HIN.out _)), ((HBEL.out.setCell (Nat.le_refl _) _).setCell (Nat.le_succ _) _).drew⟩
              case measure => simp [intOf]; omega
          · have hst := step_pos HDX.out HXX.out hneg
            have HST := Lib.hid hst
            clear hst
            go_wp2_with fail
            have C9 := Lib.hid (HW5.out wr.drew HBW.out.drew)
            rw [← HC.out] at C9
            go_region_with (go_at_call 10; (with_reducible refine C9.out.mono ?_); rintro e w9 ⟨rfl, rfl⟩)
            all_goals
              go_wp2_with fail
              go_roundw
              case rel => exact ⟨t + 1, by omega, by go_num, (by rw [HST.out.1]; exact Fv.drew (Fv.far HF.out (p := ⟨b1 + 1, i, none⟩) (by simp) _)), (by rw [HST.out.2, ← HSS.out, ← HC.out]; exact Fv.drew (Fr.set HS.out HIN.out _)), (HBEL.out.setCell (Nat.le_succ _) _).drew⟩
              case measure => simp [intOf]; omega
        · obtain rfl : n4 = t := by omega
          obtain ⟨M, hM⟩ : ∃ M, M = D n4 := ⟨_, rfl⟩
          have HGM := Lib.hid (HG.out n4)
          have HRN8 := Lib.hid (HRN.out.below (by rw [← HZ1.out]; exact HBEL.out))
          rw [← hM] at HGM HRN8 HF HS
          have HB8 := Lib.hid hbw
          clear hf hs hbw HRN HG HD0 HD1 hM HBEL HBW HB6 R4 ht hlt
          go_wp2_with fail
          have r2 := (Row.newArr wr 42 #[.int .i64 (a : Int), .int .i64 (b : Int), .int .i64 0, .int .i64 0])
          have hb9 : Below wr.heap.size wr (wr.alloc (.cells #[.int .i64 (a : Int), .int .i64 (b : Int), .int .i64 0, .int .i64 0] 42)) := (Below.refl _ _).alloc (Nat.le_refl _) _
          have hsz : (wr.alloc (.cells #[.int .i64 (a : Int), .int .i64 (b : Int), .int .i64 0, .int .i64 0] 42)).heap.size = wr.heap.size + 1 := by simp
          have r3 := (Row.newArr (wr.alloc (.cells #[.int .i64 (a : Int), .int .i64 (b : Int), .int .i64 0, .int .i64 0] 42)) 42 #[.int .i64 0, .int .i64 0, .int .i64 0, .int .i64 0])
          have hb10 : Below (wr.heap.size + 1) (wr.alloc (.cells #[.int .i64 (a : Int), .int .i64 (b : Int), .int .i64 0, .int .i64 0] 42)) ((wr.alloc (.cells #[.int .i64 (a : Int), .int .i64 (b : Int), .int .i64 0, .int .i64 0] 42)).alloc (.cells #[.int .i64 0, .int .i64 0, .int .i64 0, .int .i64 0] 42)) := (Below.refl _ _).alloc (by simp) _
          have hlt1 := HF.out.lt
          have hlt2 := HS.out.lt
          have f1 := Fv.below HF.out hb9 hlt1
          have f2 := Fv.below HS.out hb9 hlt2
          have rn9 := HRN8.out.below hb9
          have b9 := HB8.out.trans (hb9.mono HB8.out.size)
          rw [hsz] at r3
          obtain ⟨u9, hu9⟩ : ∃ u, u = wr.alloc (.cells #[.int .i64 (a : Int), .int .i64 (b : Int), .int .i64 0, .int .i64 0] 42) := ⟨_, rfl⟩
          obtain ⟨bi, hbi⟩ : ∃ x, x = wr.heap.size := ⟨_, rfl⟩
          rw [← hu9, ← hbi] at hb10
          rw [← hu9] at f1 f2 rn9 b9 r3 hsz
          rw [← hu9, ← hbi] at r2
          rw [← hbi] at r3 hsz
          rw [← hu9, ← hbi]
          have FI : Fr u9 bi 4 .i64 (fun s => (iniF a b s : Int)) := Fv.of_row r2 (fun i hi => (by have e : i = 0 ∨ i = 1 ∨ i = 2 ∨ i = 3 := (by omega); rcases e with rfl | rfl | rfl | rfl <;> rfl))
          have FD : Fr (u9.alloc (.cells #[.int .i64 0, .int .i64 0, .int .i64 0, .int .i64 0] 42)) (bi + 1) 4 .i64 (fun s => 0) := Fv.of_row r3 (fun i hi => (by have e : i = 0 ∨ i = 1 ∨ i = 2 ∨ i = 3 := (by omega); rcases e with rfl | rfl | rfl | rfl <;> rfl))
          have F1 := Lib.hid f1
          have F2 := Lib.hid f2
          have FI := Lib.hid FI
          have FD := Lib.hid FD
          have RN9 := Lib.hid rn9
          have B9 := Lib.hid b9
          have SZ := Lib.hid hsz
          have HB10 := Lib.hid hb10
          rw [← hbi] at hlt1 hlt2
          clear f1 f2 rn9 b9 hsz hb10 hb9 r2 r3 hu9 hbi HRN8 HB8 HF HS
          obtain ⟨bd, hbd⟩ : ∃ x, x = bi + 1 := ⟨_, rfl⟩
          have hbi : bi < bd := by omega
          rw [← hbd] at FD SZ HB10
          rw [← hbd]
          have HBD := Lib.hid hbd
          clear hbd
          go_loopw [22] (fun i wr => ∃ k : Nat, k ≤ n0 ∧ i = .int .i64 k ∧ Fr wr bd 4 .i64 (fun s => (below (M.o s) k : Int)) ∧ Below bd u9 wr) (fun i _ => n0 - (intOf i).toNat)
          case atStart => exact ⟨0, Nat.zero_le _, rfl, FD.out.congr (fun i _ => by simp [below_zero]), HB10.out⟩
          case round =>
            clear FD HB10
            obtain ⟨k, hk, rfl, hf, hbel⟩ := hrel
            have HF := Lib.hid hf
            have HBEL := Lib.hid hbel
            have hf1 := Fv.below F1.out hbel (by omega)
            by_cases hlt : k < n0
            · -- Q<
              have e1 := hf1.cell k hlt
              obtain ⟨X, hX⟩ : ∃ X, X = M.fst k := ⟨_, rfl⟩
              have hns := nsv_lt z0 k
              have hdo := dis_hit HGM.out (k := k)
              have hds := dis_skip HGM.out (k := k)
              have HDO := Lib.hid hdo
              have HDS := Lib.hid hds
              obtain ⟨S, hS⟩ : ∃ S, S = nsv z0 k := ⟨_, rfl⟩
              have hbl : below (M.o S) k ≤ 4096 := by have := below_le (M.o S) k; have := HGM.out.len S; omega
              have hns11 := ns11 A0 n0 c0 z0 A1 n1 c1 z1 k wr (H0.out.later (B9.out.trans (hbel.mono (Nat.le_trans B9.out.size (Nat.le_of_eq SZ.out))))) (H1.out.later (B9.out.trans (hbel.mono (Nat.le_trans B9.out.size (Nat.le_of_eq SZ.out))))) (by omega)
              rw [← hS] at hns11 HDO hns
              rw [← hX] at e1 HDO HDS
              have e2 := hf.cell S (by omega)
              have fz2 := hf.frozen S
              obtain ⟨Y, hY⟩ : ∃ Y, Y = below (M.o S) k := ⟨_, rfl⟩
              simp only [← hY] at e2 HDO hbl
              have HNS := Lib.hid hns11
              have i1 : (S : Int) < 4 := by omega
              have i0 : (0 : Int) ≤ (S : Int) := by omega
              have hS4 : S < 4 := by omega
              clear hf hf1 hbel hdo hds hns11 hX hS hY hns
              by_cases hneg : X < 0
              · go_wp2_with fail
                go_roundw
                case rel => exact ⟨k + 1, by omega, by go_num, HF.out.congr (fun s _ => by rw [HDS.out hneg s]), HBEL.out⟩
                case measure => simp [intOf]; omega
              · have hpos : 0 ≤ X := by omega
                go_wp2_with fail
                refine HNS.out.mono ?_
                rintro e w9 ⟨rfl, rfl⟩
                go_wp2_with fail
                go_roundw
                case rel => exact ⟨k + 1, by omega, by go_num, (HF.out.set hS4 ((Y : Int) + 1)).congr (fun s _ => HDO.out hneg s), HBEL.out.setCell (Nat.le_refl _) _⟩
                case measure => simp [intOf]; omega
              -- Q>
            · obtain rfl : n0 = k := by omega
              have hd := hf.congr (f' := fun s => ((M.o s).length : Int)) (fun s _ => by rw [below_all (fun i hi => (HGM.out.own s i hi).2)])
              have FD := Lib.hid hd
              have G1 := Lib.hid hf1
              have G2 := Lib.hid (Fv.below F2.out hbel (by omega))
              have GI := Lib.hid (Fv.below FI.out hbel (by omega))
              have RNA := Lib.hid (RN9.out.below (by rw [SZ.out]; exact hbel))
              have BA := Lib.hid (B9.out.trans (hbel.mono (Nat.le_trans B9.out.size (Nat.le_of_eq SZ.out))))
              have hld := hd.lt
              clear hf hf1 hd hbel HF HBEL F1 F2 FI RN9 B9 SZ HBD
              go_wp2_with fail
              obtain ⟨wA, rfl⟩ : ∃ x, x = wr := ⟨_, rfl⟩
              go_loopw [23] (fun i w2 => ∃ k : Nat, k ≤ 4 ∧ i = .int .i64 k ∧ Below wA.heap.size wA w2) (fun i _ => 4 - (intOf i).toNat)
              case atStart => exact ⟨0, Nat.zero_le _, rfl, Below.refl _ _⟩
              case round =>
                obtain ⟨k, hk, rfl, hbel⟩ := hrel
                by_cases hlt : k < 4
                · -- Q<
                  have e1 := (Fv.below GI.out hbel GI.out.lt).cell k hlt
                  have e2 := (Fv.below FD.out hbel hld).cell k hlt
                  have hrn := RNA.out.below hbel
                  have b1_ : iniF a b k ≤ 4096 := HINI.out k
                  have b2_ : (M.o k).length ≤ 4096 := by have := HGM.out.len k; omega
                  obtain ⟨X, hX⟩ : ∃ X, X = iniF a b k := ⟨_, rfl⟩
                  obtain ⟨Y, hY⟩ : ∃ Y, Y = (M.o k).length := ⟨_, rfl⟩
                  have tt : ((X : Int) + (Y : Int) != (X : Int) + (Y : Int)) = false := by simp
                  have HRQ := Lib.hid (len12q hrn HGM.out k hlt hX hY)
                  have HBEL := Lib.hid hbel
                  have i1 : (k : Int) < 4 := by omega
                  have i0 : (0 : Int) ≤ (k : Int) := by omega
                  simp only [← hX] at e1 b1_
                  simp only [← hY] at e2 b2_
                  have wp : IntKind.i64.wrap ((X : Int) + (Y : Int)) = (X : Int) + (Y : Int) := IntWalk.i64_in _ (by omega)
                  clear hrn hX hY hbel
                  go_wp2_with fail
                  go_quiet ((go_at_call 12; exact Calls.quiet_of_same (HRQ.out _)))
                  go_wp2_with fail
                  go_roundw
                  case rel => exact ⟨k + 1, by omega, by go_num, below_drewN HBEL.out _⟩
                  case measure => simp [intOf]; omega
                  -- Q>
                · obtain rfl : k = 4 := by omega
                  have g1 := Lib.hid (Fv.below G1.out hbel G1.out.lt)
                  have g2 := Lib.hid (Fv.below G2.out hbel G2.out.lt)
                  have gi := Lib.hid (Fv.below GI.out hbel GI.out.lt)
                  have gd := Lib.hid (Fv.below FD.out hbel hld)
                  have RNB := Lib.hid (RNA.out.below hbel)
                  have BB := Lib.hid (BA.out.trans (hbel.mono BA.out.size))
                  have r4 := Row.newArr wr 46 #[.slice none 0 0, .slice none 0 0, .slice none 0 0, .slice none 0 0]
                  have hb5 : Below wr.heap.size wr (wr.alloc (.cells #[.slice none 0 0, .slice none 0 0, .slice none 0 0, .slice none 0 0] 46)) := (Below.refl _ _).alloc (Nat.le_refl _) _
                  have hsz : (wr.alloc (.cells #[.slice none 0 0, .slice none 0 0, .slice none 0 0, .slice none 0 0] 46)).heap.size = wr.heap.size + 1 + 0 := by simp
                  obtain ⟨bb, hbb⟩ : ∃ x, x = wr.heap.size := ⟨_, rfl⟩
                  obtain ⟨L, hL⟩ : ∃ L : Nat → Nat, L = fun s => (M.o s).length := ⟨_, rfl⟩
                  obtain ⟨wB, rfl⟩ : ∃ x, x = wr := ⟨_, rfl⟩
                  have TB := Lib.hid (show Tb (wB.alloc (.cells #[.slice none 0 0, .slice none 0 0, .slice none 0 0, .slice none 0 0] 46)) wB.heap.size L 0 from ⟨Fv.of_row r4 (fun i hi => (by have e : i = 0 ∨ i = 1 ∨ i = 2 ∨ i = 3 := (by omega); rcases e with rfl | rfl | rfl | rfl <;> rfl)), fun s hs => (by omega), hsz⟩)
                  have HB5 := Lib.hid hb5
                  have HLL := Lib.hid (show ∀ s, L s ≤ 4096 by intro s; rw [hL]; have := HGM.out.len s; show (M.o s).length ≤ 4096; omega)
                  have l1 := g1.out.lt
                  have l2 := g2.out.lt
                  have li := gi.out.lt
                  have ld := gd.out.lt
                  have GD := Lib.hid (show Fr wB bd 4 .i64 (fun s => ((L s : Nat) : Int)) by rw [hL]; exact gd.out)
                  rw [← hbb] at TB HB5 l1 l2 li ld
                  have HLE := Lib.hid hL
                  have HBBE := Lib.hid hbb
                  clear hb5 r4 hsz hbel G1 G2 GI FD RNA BA gd hL
                  go_wp2_with fail
                  rw [← hbb]
                  clear hbb
                  go_loopw [25] (fun i wr => ∃ k : Nat, k ≤ 4 ∧ i = .int .i64 k ∧ Tb wr bb L k ∧ Below bb wB wr) (fun i _ => 4 - (intOf i).toNat)
                  case atStart => exact ⟨0, Nat.zero_le _, rfl, TB.out, HB5.out⟩
                  case round =>
                    clear TB HB5
                    obtain ⟨k, hk, rfl, htb, hbel⟩ := hrel
                    have e2 := (Fv.below GD.out hbel ld).cell
                    have HBEL := Lib.hid hbel
                    have HTB := Lib.hid htb
                    by_cases hlt : k < 4
                    · -- Q<
                      have e3 := e2 k hlt
                      have htl := Fv.below htb.tbl ((Below.refl _ _).alloc (Nat.le_refl _) (.cells (madeCells #[.int .i64 0] (L k)) 3) : Below wr.heap.size wr _) htb.tbl.lt
                      have hfz := htl.frozen k
                      have hct := htl.cell k hlt
                      unfold tblV at hct
                      rw [if_neg (Nat.lt_irrefl k)] at hct
                      have hLk := HLL.out k
                      have i1 : (k : Int) < 4 := by omega
                      have i0 : (0 : Int) ≤ (k : Int) := by omega
                      have HSZ := Lib.hid htb.sz
                      have hmk := run_make_row' (P := Try.prog) 40 3 (.int .i64 0) 8 Try.underlying40 info3 rfl .i64 .i64 (L k) (by omega) (by omega) wr
                      obtain ⟨l, hl⟩ : ∃ l, l = L k := ⟨_, rfl⟩
                      simp only [← hl] at hmk e3 hLk hct hfz
                      have HL := Lib.hid hl
                      clear e2 htb hbel hl htl
                      go_wp2_with fail
                      obtain ⟨u, hu⟩ : ∃ u, u = (wr.alloc (.cells (madeCells #[.int .i64 0] l) 3)).setCell ⟨bb, k, none⟩ (.slice (some ⟨wr.heap.size, 0, none⟩) l l) := ⟨_, rfl⟩
                      have hr := (made_row wr 3 (.int .i64 0) l)
                      have hle : bb ≤ wr.heap.size := by have := HSZ.out; omega
                      have hbu : Below bb wr u := by rw [hu]; exact ((Below.refl _ _).alloc hle _).setCell (Nat.le_refl _) _
                      have hfu : Fr u wr.heap.size l .i64 (fun _ => 0) := by rw [hu]; exact Fv.far (fr_made hr) (by have := HSZ.out; show wr.heap.size ≠ bb; omega) _
                      have htu : u.cell? ⟨bb, k, none⟩ = some (.slice (some ⟨wr.heap.size, 0, none⟩) l l) := by rw [hu]; exact cell_self _ (by rw [hct]; rfl)
                      have hsu : u.heap.size = bb + 1 + (k + 1) := by rw [hu]; simp; have := HSZ.out; omega
                      rw [← hu]
                      rw [HSZ.out] at hu hfu htu ⊢
                      rw [HL.out] at hu
                      have HU := Lib.hid hu
                      have HFU := Lib.hid hfu
                      have HBU := Lib.hid hbu
                      have HSU := Lib.hid hsu
                      obtain ⟨bk, hbk⟩ : ∃ x, x = bb + 1 + k := ⟨_, rfl⟩
                      have HBK := Lib.hid hbk
                      rw [← hbk] at HFU htu
                      have HTU := Lib.hid htu
                      have hkb : bb < bk := by omega
                      have hubk : bk ≤ u.heap.size := by omega
                      rw [← hbk]
                      clear hu hr hbu hfu htu hsu hct hfz e3 hmk hbk hle
                      go_wp2_with fail
                      go_loopw [26] (fun i w3 => ∃ p : Nat, p ≤ l ∧ i = .int .i64 p ∧ Fr w3 bk l .i64 (fun j => if j < p then -1 else 0) ∧ Below bk u w3 ∧ w3.heap.size = bb + 1 + (k + 1)) (fun i _ => l - (intOf i).toNat)
                      case atStart => exact ⟨0, Nat.zero_le _, rfl, HFU.out.congr (fun i _ => by simp), Below.refl _ _, HSU.out⟩
                      case round =>
                        clear HFU HSU
                        obtain ⟨p', hp, rfl, hf, hb, hsz⟩ := hrel
                        have hbb := HBEL.out.trans (HBU.out.trans (hb.mono (Nat.le_of_lt hkb)))
                        have e3 := (Fv.below GD.out hbb ld).cell k hlt
                        simp only [← HL.out] at e3
                        have e4 : wr.cell? ⟨bb, k, none⟩ = _ := (hb.cell (p := ⟨bb, k, none⟩) hkb).trans HTU.out
                        have HB := Lib.hid hb
                        have HF := Lib.hid hf
                        have HSZ3 := Lib.hid hsz
                        by_cases hlt2 : p' < l
                        · have fz := hf.frozen p'
                          have ep := hf.cell p' hlt2
                          simp only [Nat.lt_irrefl, if_false] at ep
                          have i2 : (p' : Int) < (l : Int) := by omega
                          have i3 : (0 : Int) ≤ (p' : Int) := by omega
                          clear hf hb hsz hbb
                          go_wp2_with fail
                          go_roundw
                          case rel => exact ⟨p' + 1, by omega, by go_num, (HF.out.set hlt2 (-1)).congr (fun i _ => up_neg p' i), HB.out.setCell (Nat.le_refl _) _, by simp; exact HSZ3.out⟩
                          case measure => simp [intOf]; omega
                        · obtain rfl : l = p' := by omega
                          have hstep := HTB.out.step HU.out hlt (by rw [← HBK.out]; exact hb) hsz (by rw [← HBK.out, ← HL.out]; exact hf)
                          have HST := Lib.hid hstep
                          have HBZ := Lib.hid (HBEL.out.trans (HBU.out.trans (hb.mono (Nat.le_of_lt hkb))))
                          have hlb : Below bb wB wr := HBZ.out
                          clear hf hb hsz hbb hstep hlb HB HF HSZ3 HTU HBU HU HTB HBEL HSZ HBK
                          go_wp2_with fail
                          go_roundw
                          case rel => exact ⟨k + 1, by omega, by go_num, HST.out, HBZ.out⟩
                          case measure => simp [intOf]; omega
                      -- Q>
                    · obtain rfl : k = 4 := by omega
                      clear e2
                      have hbp : Below bb wB wr := hbel
                      have C1 := Lib.hid (Fv.below g1.out hbp l1)
                      have C2 := Lib.hid (Fv.below g2.out hbp l2)
                      have CI := Lib.hid (Fv.below gi.out hbp li)
                      have CD := Lib.hid (Fv.below GD.out hbp ld)
                      have CRN := Lib.hid (RNB.out.below (by rw [← HBBE.out]; exact hbp))
                      have CB := Lib.hid (BB.out.trans (hbp.mono (by rw [HBBE.out]; exact BB.out.size)))
                      have CT := Lib.hid htb.tbl
                      have BS0 := Lib.hid (show ∀ s, s < 4 → Fr wr (bb + 1 + s) (L s) .i64 (byF M 0 s) from fun s hs => (htb.rows s hs).congr (fun q hq => (byF_zero M s q).symm))
                      have HRL := Lib.hid (show p < bb + 1 ∧ mb < bb + 1 ∧ g0' < bb + 1 ∧ g1' < bb + 1 by have h1 := RNB.out.row.lt; have h2 := RNB.out.mp.lt; have h3 := RNB.out.b0.lt.2; have h4 := RNB.out.b1.lt.2; have h5 := HBBE.out; omega)
                      have hszC : bb + 1 ≤ wr.heap.size := by have := htb.sz; omega
                      have hszD : bb + 5 ≤ wr.heap.size := by have := htb.sz; omega
                      have hwC : w.heap.size ≤ bb + 1 := by have h1 := BB.out.size; have h2 := HBBE.out; omega
                      obtain ⟨wC, rfl⟩ : ∃ x, x = wr := ⟨_, rfl⟩
                      clear hbp hbel htb g1 g2 gi GD RNB BB HBEL HTB HBBE
                      go_wp2_with fail
                      go_loopw [27] (fun i wr => ∃ k : Nat, k ≤ n0 ∧ i = .int .i64 k ∧ (∀ s, s < 4 → Fr wr (bb + 1 + s) (L s) .i64 (byF M k s)) ∧ Below (bb + 1) wC wr) (fun i _ => n0 - (intOf i).toNat)
                      case atStart => exact ⟨0, Nat.zero_le _, rfl, BS0.out, Below.refl _ _⟩
                      case round =>
                        clear BS0
                        obtain ⟨k, hk, rfl, hbs, hbel⟩ := hrel
                        have HBS := Lib.hid hbs
                        have HBEL := Lib.hid hbel
                        clear hbs
                        have hle5 : bb + 5 ≤ wr.heap.size := Nat.le_trans hszD hbel.size
                        by_cases hlt : k < n0
                        · -- Q<
                          have R14 := Lib.hid (ref14 k wr (by omega))
                          obtain ⟨X, hX⟩ : ∃ X, X = M.fst k := ⟨_, rfl⟩
                          have hl1 : b1 < bb + 1 := by omega
                          have K1 := Lib.hid (fun W (h : Below (bb + 1) wC W) => fr_cell C1.out h hl1 hlt hX)
                          clear hbel
                          have HX := Lib.hid hX
                          clear hX
                          have hk5 : k ≤ 100000 := by omega
                          by_cases hneg : X < 0
                          · have hng : M.fst k < 0 := by rw [← HX.out]; exact hneg
                            have K13 := Lib.hid (fun W (h : Below (bb + 1) wC W) => top13n (Rn.belowC CRN.out h HRL.out) k hk5 hng)
                            have HNG := Lib.hid hng
                            clear hng
                            go_wp2_with fail
                            refine R14.out.mono ?_
                            rintro e w1 ⟨rfl, hb1⟩
                            have HB1 := Lib.hid (HBEL.out.trans (hb1.mono (by omega)))
                            have HB1' := Lib.hid hb1
                            clear hb1
                            go_wp2_with fail
                            refine (K13.out w1 HB1.out).mono ?_
                            rintro e w2 ⟨rfl, hb2⟩
                            have HB12 := Lib.hid (HB1'.out.trans (hb2.mono HB1'.out.size))
                            have HB2 := Lib.hid (HBEL.out.trans (HB12.out.mono (by omega)))
                            have e1 := K1.out w2 HB2.out
                            clear hb2 R14 HB1 HB1' K13 K1
                            go_wp2_with fail
                            go_roundw
                            case rel => exact ⟨k + 1, by omega, by go_num, rows_below (byF_skip_neg HGM.out HLE.out HNG.out HBS.out) HB12.out hle5, HB2.out⟩
                            case measure => simp [intOf]; omega
                          · obtain ⟨q0, hq0, hql⟩ := pos_of ((HGM.out.mem k).2 (by rw [← HX.out]; omega))
                            obtain ⟨S, hS⟩ : ∃ S, S = nsv z0 k := ⟨_, rfl⟩
                            have hs2 := nsv_lt z0 k
                            rw [← hS] at hq0 hql hs2
                            obtain ⟨V, hV⟩ : ∃ V, V = iniF a b S + q0 := ⟨_, rfl⟩
                            obtain ⟨I, hI⟩ : ∃ I : Nat, I = iniF a b S := ⟨_, rfl⟩
                            obtain ⟨l, hl⟩ : ∃ l, l = L S := ⟨_, rfl⟩
                            obtain ⟨sg, hsg⟩ : ∃ x, x = M.sum k := ⟨_, rfl⟩
                            have hql2 : q0 < l := by rw [hl, HLE.out]; exact hql
                            have hl4 : l ≤ 4096 := by rw [hl]; exact HLL.out S
                            have hI4 : I ≤ 4096 := by rw [hI]; exact HINI.out S
                            have hS4 : S < 4 := by omega
                            have hVI : V = I + q0 := by rw [hI]; exact hV
                            have K13 := Lib.hid (fun W (h : Below (bb + 1) wC W) => top13s (Rn.belowC CRN.out h HRL.out) k hk5 hq0 hV)
                            have K11 := Lib.hid (fun W (h : Below w.heap.size w W) => ns11s hS (H0.out.later h) (H1.out.later h) hk5)
                            have hl2 : b1 + 1 < bb + 1 := by omega
                            have hli : bi < bb + 1 := by omega
                            have hld' : bd < bb + 1 := by omega
                            have K2 := Lib.hid (fun W (h : Below (bb + 1) wC W) => fr_cell C2.out h hl2 hlt hsg)
                            have KI := Lib.hid (fun W (h : Below (bb + 1) wC W) => fr_cell CI.out h hli hS4 (x := (I : Int)) (by rw [hI]))
                            have KD := Lib.hid (fun W (h : Below (bb + 1) wC W) => fr_cell CD.out h hld' hS4 (x := (l : Int)) (by rw [hl]))
                            have KT := Lib.hid (fun W (h : Below (bb + 1) wC W) => tbl_below CT.out h hS4 hl)
                            have HROW := Lib.hid (show Fr wr (bb + 1 + S) l .i64 (byF M k S) by rw [hl]; exact HBS.out S hS4)
                            have HMO := Lib.hid (show byF M k S q0 = -1 from byF_at hq0)
                            obtain ⟨bs, hbs⟩ : ∃ x, x = bb + 1 + S := ⟨_, rfl⟩
                            rw [← hbs] at KT HROW
                            have hbs1 : bs < bb + 5 := by omega
                            have hbs2 : bb + 1 ≤ bs := by omega
                            have HQ0 := Lib.hid hq0
                            have HEQ := Lib.hid (And.intro hS (And.intro hI (And.intro hl (And.intro hsg (And.intro hbs hV)))))
                            have HVI := Lib.hid hVI
                            have hVl : I ≤ V := by omega
                            have hVu : V < I + l := by omega
                            have wI : IntKind.u32.wrap (I : Int) = (I : Int) := IntWalk.u32_in _ (by omega)
                            have wIl : IntKind.i64.wrap ((I : Int) + (l : Int)) = (I : Int) + (l : Int) := IntWalk.i64_in _ (by omega)
                            have wIl2 : IntKind.u32.wrap ((I : Int) + (l : Int)) = (I : Int) + (l : Int) := IntWalk.u32_in _ (by omega)
                            have wV : IntKind.i64.wrap (V : Int) = (V : Int) := IntWalk.i64_in _ (by omega)
                            have wVI : IntKind.i64.wrap ((V : Int) - (I : Int)) = (q0 : Int) := by rw [hVI]; rw [show (((I + q0 : Nat) : Int) - (I : Int)) = (q0 : Int) by omega]; exact IntWalk.i64_in _ (by omega)
                            have t1 : decide ((V : Int) < (I : Int)) = false := by simp; omega
                            have t2 : decide ((I : Int) + (l : Int) ≤ (V : Int)) = false := by simp; omega
                            have i1 : (S : Int) < 4 := by omega
                            have i0 : (0 : Int) ≤ (S : Int) := by omega
                            have i2 : (q0 : Int) < (l : Int) := by omega
                            have i3 : (0 : Int) ≤ (q0 : Int) := by omega
                            have i4 : (k : Int) < (n0 : Int) := by omega
                            clear hq0 hql hS hV hI hl hsg hVI hbs
                            go_wp2_with fail
                            refine R14.out.mono ?_
                            rintro e w1 ⟨rfl, hb1⟩
                            have HB1 := Lib.hid (HBEL.out.trans (hb1.mono (by omega)))
                            have HB1' := Lib.hid hb1
                            clear hb1
                            go_wp2_with fail
                            refine (K13.out w1 HB1.out).mono ?_
                            rintro e w2 ⟨rfl, hb2⟩
                            have HB12 := Lib.hid (HB1'.out.trans (hb2.mono HB1'.out.size))
                            have HB2 := Lib.hid (HBEL.out.trans (HB12.out.mono (by omega)))
                            have HW2 := Lib.hid (CB.out.trans (HB2.out.mono (by omega)))
                            have e1 := K1.out w2 HB2.out
                            have eI := KI.out w2 HB2.out
                            have eD := KD.out w2 HB2.out
                            have eT := KT.out w2 HB2.out
                            have hrow := Fv.below HROW.out HB12.out (by omega)
                            have HROW2 := Lib.hid hrow
                            have eR := hrow.cell q0 hql2
                            simp only [HMO.out] at eR
                            have fR := hrow.frozen q0
                            clear hb2 R14 HB1 HB1' K13 hrow
                            go_wp2_with fail
                            refine (K11.out w2 HW2.out).mono ?_
                            rintro e w9 ⟨rfl, rfl⟩
                            go_wp2_with fail
                            go_quiet (fail)
                            go_wp2_with fail
                            obtain ⟨w3, hw3⟩ : ∃ w3, w3 = w2.drewN nq := ⟨_, rfl⟩
                            have HB3 := Lib.hid (show Below (bb + 1) wC w3 by rw [hw3]; exact below_drewN HB2.out nq)
                            have HROW3 := Lib.hid (show Fr w3 bs l .i64 (byF M k S) by rw [hw3]; exact Fv.below HROW2.out (below_drewN (Below.refl _ _) _) HROW2.out.lt)
                            have HBS3 := Lib.hid (show ∀ s, s < 4 → Fr w3 (bb + 1 + s) (L s) .i64 (byF M k s) by rw [hw3]; exact rows_below HBS.out (below_drewN HB12.out nq) hle5)
                            rw [← hw3]
                            clear hw3 e1 eI eD eT eR fR HB2 HROW2 HB12 HW2 HBEL HBS
                            have e1 := K1.out w3 HB3.out
                            have eT := KT.out w3 HB3.out
                            have fR := HROW3.out.frozen q0
                            have eR := HROW3.out.cell q0 hql2
                            simp only [HMO.out] at eR
                            go_region
                            obtain ⟨w4, hw4⟩ : ∃ w4, w4 = (w3.setCell ⟨bs, q0, none⟩ (.int .i64 X)).drew := ⟨_, rfl⟩
                            have HB4 := Lib.hid (show Below (bb + 1) wC w4 by rw [hw4]; exact (HB3.out.setCell hbs2 _).drew)
                            have HBS4 := Lib.hid (show ∀ s, s < 4 → Fr w4 (bb + 1 + s) (L s) .i64 (byF M (k + 1) s) by rw [hw4]; exact fun s hs => Fv.drew (rows_hit HGM.out HLE.out HQ0.out HX.out HEQ.out.2.2.2.2.1 hS4 HBS3.out s hs))
                            have K15 := Lib.hid (cnt15q (Rn.belowC CRN.out HB4.out HRL.out) hs2 HQ0.out HEQ.out.2.2.2.2.2 HEQ.out.2.2.2.1)
                            have e2 := K2.out w4 HB4.out
                            have tsg : (sg != sg) = false := by simp
                            rw [← hw4]
                            clear hw4 e1 eT fR eR HB3 HROW3 HBS3
                            go_wp2_with fail
                            go_quiet ((go_at_call 15; exact Calls.quiet_of_same (K15.out _)))
                            go_wp2_with fail
                            obtain ⟨w5, hw5⟩ : ∃ w5, w5 = w4.drewN nq := ⟨_, rfl⟩
                            have HB5 := Lib.hid (show Below (bb + 1) wC w5 by rw [hw5]; exact below_drewN HB4.out nq)
                            have HBS5 := Lib.hid (show ∀ s, s < 4 → Fr w5 (bb + 1 + s) (L s) .i64 (byF M (k + 1) s) by rw [hw5]; exact fun s hs => Fv.below (HBS4.out s hs) (below_drewN (Below.refl _ _) _) (HBS4.out s hs).lt)
                            have HW5 := Lib.hid (CB.out.trans (HB5.out.mono hwC))
                            rw [← hw5]
                            clear hw5 e2 HB4 HBS4 K15
                            cases hj : jsx z1 k with
                            | false =>
                              have K16 := Lib.hid (cap16q (Rn.belowC CRN.out HB5.out HRL.out) hs2 HQ0.out HEQ.out.2.2.2.2.2 (x := 0) (by unfold flag; rw [hj]; rfl))
                              have K17 := Lib.hid (jsx17 A1 n1 c1 z1 k w5 (H1.out.later HW5.out) (by omega))
                              rw [hj] at K17
                              clear hj
                              refine K16.out.mono ?_
                              rintro e w9 ⟨rfl, rfl⟩
                              go_wp2_with fail
                              refine K17.out.mono ?_
                              rintro e w9 ⟨rfl, rfl⟩
                              go_wp2_with fail
                              go_roundw
                              case rel => exact ⟨k + 1, by omega, by go_num, HBS5.out, HB5.out⟩
                              case measure => simp [intOf]; omega
                            | true =>
                              have K16 := Lib.hid (cap16q (Rn.belowC CRN.out HB5.out HRL.out) hs2 HQ0.out HEQ.out.2.2.2.2.2 (x := 1) (by unfold flag; rw [hj]; rfl))
                              have K17 := Lib.hid (jsx17 A1 n1 c1 z1 k w5 (H1.out.later HW5.out) (by omega))
                              rw [hj] at K17
                              clear hj
                              refine K16.out.mono ?_
                              rintro e w9 ⟨rfl, rfl⟩
                              go_wp2_with fail
                              refine K17.out.mono ?_
                              rintro e w9 ⟨rfl, rfl⟩
                              go_wp2_with fail
                              go_roundw
                              case rel => exact ⟨k + 1, by omega, by go_num, HBS5.out, HB5.out⟩
                              case measure => simp [intOf]; omega
                          -- Q>
                        · obtain rfl : n0 = k := by omega
                          have CID := Lib.hid (Fv.below CI.out hbel (by omega))
                          have CTD := Lib.hid (Fv.below CT.out hbel (by omega))
                          have CRD := Lib.hid (Rn.belowC CRN.out hbel HRL.out)
                          have CBD := Lib.hid (CB.out.trans (hbel.mono hwC))
                          obtain ⟨wD, rfl⟩ : ∃ x, x = wr := ⟨_, rfl⟩
                          have HDS := Lib.hid (show bb + 5 ≤ wD.heap.size from hle5)
                          clear hbel HBEL C1 C2 CI CD CRN CB CT hszC hszD hwC hle5
                          go_wp2_with fail
                          go_loopw [32] (fun i wr => ∃ s : Nat, s ≤ 4 ∧ i = .int .i64 s ∧ Below wD.heap.size wD wr) (fun i _ => 4 - (intOf i).toNat)
                          case atStart => exact ⟨0, Nat.zero_le _, rfl, Below.refl _ _⟩
                          case round =>
                            obtain ⟨s, hs, rfl, hbel⟩ := hrel
                            by_cases hlt : s < 4
                            · have KT := Lib.hid (fun W (h : Below wD.heap.size wD W) => tbl_at (Fv.below CTD.out h CTD.out.lt) hlt hlt)
                              have KR := Lib.hid (fun W (h : Below wD.heap.size wD W) => (Fv.below (HBS.out s hlt) h (HBS.out s hlt).lt))
                              obtain ⟨I, hI⟩ : ∃ I : Nat, I = iniF a b s := ⟨_, rfl⟩
                              have KI := Lib.hid (fun W (h : Below wD.heap.size wD W) => fr_cell CID.out h CID.out.lt hlt (x := (I : Int)) (by rw [hI]))
                              have KN := Lib.hid (fun W (h : Below wD.heap.size wD W) => CRD.out.below h)
                              have hI4 : I ≤ 4096 := by rw [hI]; exact HINI.out s
                              have hI2 : 2 ≤ s → I = 0 := by intro h; rw [hI]; unfold iniF; rw [if_neg (by omega), if_neg (by omega)]
                              have hinc := fun q => byF_inc HGM.out (s := s) (q := q)
                              have hlen : (M.o s).length = L s := by rw [HLE.out]
                              obtain ⟨l, hl⟩ : ∃ l, l = L s := ⟨_, rfl⟩
                              have hl4 : l ≤ 4096 := by rw [hl]; exact HLL.out s
                              simp only [hlen] at hinc
                              simp only [← hl] at KT KR hinc
                              obtain ⟨bs, hbs⟩ : ∃ x, x = bb + 1 + s := ⟨_, rfl⟩
                              simp only [← hbs] at KT KR
                              have HINC := Lib.hid hinc
                              have HI := Lib.hid hI
                              have HI2 := Lib.hid hI2
                              have i1 : (s : Int) < 4 := by omega
                              have i0 : (0 : Int) ≤ (s : Int) := by omega
                              have HBEL := Lib.hid hbel
                              obtain ⟨wE, rfl⟩ : ∃ x, x = wr := ⟨_, rfl⟩
                              clear hI hI2 hinc hlen hl hbs hbel
                              go_wp2_with fail
                              go_loopw [33] (fun i wr => ∃ p : Nat, 1 ≤ p ∧ p ≤ l + 1 ∧ i = .int .i64 p ∧ Below wD.heap.size wD wr) (fun i _ => l + 1 - (intOf i).toNat)
                              case atStart => exact ⟨1, Nat.le_refl _, by omega, rfl, HBEL.out⟩
                              case round =>
                                clear HBEL
                                obtain ⟨p', hp1, hp2, rfl, hbel⟩ := hrel
                                have HBEL := Lib.hid hbel
                                have eT := KT.out wr hbel
                                by_cases hlt2 : p' < l
                                · obtain ⟨p1, hp⟩ : ∃ p1, p' = p1 + 1 := ⟨p' - 1, by omega⟩
                                  have hr := KR.out wr hbel
                                  have x1 := hr.cell p1 (by omega)
                                  have x2 := hr.cell p' hlt2
                                  have hi := HINC.out p1 (by omega)
                                  rw [← hp] at hi
                                  obtain ⟨X1, hX1⟩ : ∃ X, X = byF M n0 s p1 := ⟨_, rfl⟩
                                  obtain ⟨X2, hX2⟩ : ∃ X, X = byF M n0 s p' := ⟨_, rfl⟩
                                  simp only [← hX1] at x1 hi
                                  simp only [← hX2] at x2 hi
                                  have wsub : IntKind.i64.wrap ((p' : Int) - 1) = (p1 : Int) := by rw [show ((p' : Int) - 1) = (p1 : Int) by omega]; exact IntWalk.i64_in _ (by omega)
                                  have tx : decide (X2 ≤ X1) = false := by simp; omega
                                  have i2 : (p' : Int) < (l : Int) := by omega
                                  have i3 : (0 : Int) ≤ (p' : Int) := by omega
                                  have i4 : (p1 : Int) < (l : Int) := by omega
                                  have i5 : (0 : Int) ≤ (p1 : Int) := by omega
                                  clear hbel hr hX1 hX2 hp
                                  go_wp2_with fail
                                  go_quiet (fail)
                                  go_wp2_with fail
                                  go_roundw
                                  case rel => exact ⟨p' + 1, by omega, by omega, by go_num, below_drewN HBEL.out _⟩
                                  case measure => simp [intOf]; omega
                                · obtain ⟨wF, rfl⟩ : ∃ x, x = wr := ⟨_, rfl⟩
                                  clear hbel
                                  go_wp2_with fail
                                  go_loopw [34] (fun i wr => ∃ q : Nat, q ≤ I ∧ i = .int .i64 q ∧ Below wD.heap.size wD wr) (fun i _ => I - (intOf i).toNat)
                                  case atStart => exact ⟨0, Nat.zero_le _, rfl, HBEL.out⟩
                                  case round =>
                                    clear HBEL eT
                                    obtain ⟨q, hq, rfl, hbel⟩ := hrel
                                    have eI := KI.out wr hbel
                                    have HBEL := Lib.hid hbel
                                    by_cases hlt3 : q < I
                                    · have hs2 : s < 2 := by have := HI2.out; omega
                                      have K15 := Lib.hid (cnt15z (KN.out wr hbel) hs2 (show q < iniF a b s by rw [← HI.out]; exact hlt3))
                                      have K16 := Lib.hid (cap16z (KN.out wr hbel) hs2 (show q < iniF a b s by rw [← HI.out]; exact hlt3))
                                      clear hbel
                                      go_wp2_with fail
                                      refine K15.out.mono ?_
                                      rintro e w9 ⟨rfl, rfl⟩
                                      go_wp2_with fail
                                      refine K16.out.mono ?_
                                      rintro e w9 ⟨rfl, rfl⟩
                                      go_wp2_with fail
                                      go_roundw
                                      case rel => exact ⟨q + 1, by omega, by go_num, HBEL.out⟩
                                      case measure => simp [intOf]; omega
                                    · clear hbel
                                      go_wp2_with fail
                                      go_roundw
                                      case rel => exact ⟨s + 1, by omega, by go_num, HBEL.out⟩
                                      case measure => simp [intOf]; omega
                            · obtain rfl : s = 4 := by omega
                              go_wp2_with fail
                              go_ret
                              exact ⟨rfl, CBD.out.trans (hbel.mono CBD.out.size)⟩
end Go.Proofs.Ytidcbknnjpecbaa.AtM
