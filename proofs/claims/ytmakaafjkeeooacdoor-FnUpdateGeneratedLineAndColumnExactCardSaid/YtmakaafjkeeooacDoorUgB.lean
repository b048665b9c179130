/- FnUpdateGeneratedLineAndColumnExact: encodeVLQ. -/
import Derived.Test.YtmakaafjkeeooacDoorRows
import Derived.Test.YtmakaafjkeeooacDoorMem
import Derived.Test.YtmakaafjkeeooacDoorSl
import Derived.Test.YtmakaafjkeeooacDoorUgA
import Derived.Test.YtmakaafjkeeooacDoorPru
import Derived.Laws.BitsLemmas
import Derived.WalkKit
import Derived.ProofKit
import Derived.OpenShut
import Derived.Below
import Derived.WalkLawsBesides
import Derived.Lib.Hide
import Derived.Outline
import Derived.RegionTactic
import Derived.Deep.QuietTactic
import Derived.BigQuiet
import Derived.WalkSpells
import Derived.Deep.OwnRows
import Derived.IntWalk
import Derived.Deep.DeepMust
namespace Go.Proofs.YtmakaafjkeeooacDoor.UgB
open Go.RowKit Mem Sl
set_option linter.unusedVariables false
open Own Vq Dec Lin Str Prn Owg UgA Args

/-- Only v's own block and new blocks were touched. -/
def Gr (w : World) (v : Value) (w' : World) (v' : Value) : Prop := ∀ p, Prn.Step p w v w' v'
section
variable {w w' w'' : World} {v v' v'' : Value} {B : Nat}
theorem Gr.refl (w : World) (v : Value) : Gr w v w v := fun p => Prn.Step.refl p w v
theorem Gr.trans (h : Gr w v w' v') (k : Gr w' v' w'' v'') : Gr w v w'' v'' := fun p => (h p).trans (k p)
theorem Gr.below (h : Gr w v w' v') (hv : ∀ g, v.ownBlock = some g → B ≤ g) (hB : B ≤ w.heap.size) : Below B w w' := (h B).below (Nat.le_refl _) hv hB
theorem Gr.size (h : Gr w v w' v') : w.heap.size ≤ w'.heap.size := (h 0).size
theorem Gr.of_below {C : Nat} (h : Below C w w') (hC : w.heap.size ≤ C) : Gr w v w' v := fun p => Prn.Step.of_below h hC
theorem Gr.alloc (h : Gr w v w' v') (o : Obj) : Gr w v (w'.alloc o) v' := h.trans (Gr.of_below ((Below.refl _ _).alloc (Nat.le_refl _) o) (Nat.le_refl _))
theorem Gr.grown (hg : w.grownBy w' v.ownBlock) (ha : v'.ownBlock = v.ownBlock ∨ v'.ownBlock = some w.heap.size) : Gr w v w' v' := fun p => Prn.Step.of_grown hg ha
theorem Gr.row (h : Gr w v w' v') {g : Nat} {t : TypeId} {xs : List Value} (hr : Row w g t xs) (hv : v.ownBlock ≠ some g) : Row w' g t xs := (h (g + 1)).row hr (by omega) (fun e => hv e.symm)
theorem Gr.drewN (h : Gr w v w' v') (n : Nat) : Gr w v (w'.drewN n) v' := fun p => (h p).drewN n
theorem Gr.step (h : Gr w v w' v') (p : Nat) : Prn.Step p w v w' v' := h p
end
section
variable {P : Program} (w : World)
/-- append(v, z) of one number that lies in a block of its own: what became of every other block. -/
theorem wpList_push_g {ops : Array Oper} {rest : List Oper} {o : Oper} {a : Act} {Q : Exit → Act → World → Prop} (hgd : o.guard = none) (s x : Operand) (t : TypeId)
    (ho : o.op = .call { callee := .builtin .append, args := #[s, x], argTypes := #[t, t] })
    (B : Nat) (E : TypeId) (k : IntKind) (bytes : Nat) (ht : P.underlying t = some (.slice E)) (hinfo : (P.info? E).map (fun i => (i.zero, i.size, i.bytes)) = some (some (.int k 0), 1, bytes)) (hby : bytes ≤ 8)
    (v : Value) (zs : List Int) (hs : a.eval s = v) (hown : Own w B E k v zs) (g : Nat) (z : Int) (hx : a.eval x = .slice (some ⟨g, 0, none⟩) 1 1) (hcell : w.cell? ⟨g, 0, none⟩ = some (.int k z))
    (hlen : zs.length + 1 ≤ 1000000000) (hB : B ≤ w.heap.size)
    (h : ∀ A' n' c' w', Own w' B E k (.slice A' n' c') (zs ++ [z]) → Gr w v w' (.slice A' n' c') → wpList P ops Q rest (a.put o.dst (.slice A' n' c')) w') : wpList P ops Q (o :: rest) a w := by
  refine wpList_own_g w hgd s x t ho B E k bytes ht hinfo hby v zs hs hown g 0 1 1 [z] hx rfl (fun i hi => ?_) hlen hB ?_
  · obtain rfl : i = 0 := by omega
    exact hcell
  · intro A' n' c' w' h1 h2 h3
    exact h A' n' c' w' h1 (Gr.grown h2 h3)
end
/-- The variable base64, all of it below B. -/
def B64 (B : Nat) (w : World) : Prop := B ≤ w.heap.size ∧ 0 < B ∧ ∃ b off c, b < B ∧ w.cell? ⟨0, 0, none⟩ = some (.slice (some ⟨b, off, none⟩) 64 c) ∧ ∀ i, i < 64 → w.cell? ⟨b, off + i, none⟩ = some (.int .u8 (ch i))
theorem B64.below {B : Nat} {w w' : World} (h : B64 B w) (hb : Below B w w') : B64 B w' := by
  obtain ⟨h1, h2, b, off, c, h3, h4, h5⟩ := h
  exact ⟨Nat.le_trans h1 hb.size, h2, b, off, c, h3, (hb.cell (p := ⟨0, 0, none⟩) h2).trans h4, fun i hi => (hb.cell (p := ⟨b, off + i, none⟩) h3).trans (h5 i hi)⟩
/-- What encodeVLQ leaves. -/
def Enc (B : Nat) (w : World) (v : Value) (zs : List Int) (value : Int) (e : Ending) (w' : World) : Prop := ∃ A' n' c', e = .returned (.slice A' n' c') ∧ Own w' B 5 .u8 (.slice A' n' c') (zs ++ code (vlqOf value)) ∧ Gr w v w' (.slice A' n' c')
theorem vlqOf_ltw {v : Int} (h0 : -4294967296 ≤ v) (h1 : v ≤ 4294967296) : vlqOf v < 17179869184 := by
  unfold vlqOf; split <;> omega
theorem vlq_negw (v : Int) (h : v < 0) (h0 : -4294967296 ≤ v) : bits .or .i64 (-v * 2) 1 = ((vlqOf v : Nat) : Int) := by
  rw [bits_join .i64 62 (by decide) wraps_i64 1 (-v * 2) 1 (by omega) (by omega) (by omega) (by omega) (by omega) (by omega)]
  unfold vlqOf
  rw [if_pos h]
  omega
theorem vlq_pos (v : Int) (h : ¬ v < 0) : v * 2 = ((vlqOf v : Nat) : Int) := by
  unfold vlqOf
  rw [if_neg h]
  omega
theorem and31w (n : Nat) (h : n < 17179869184) : bits .and .i64 (n : Int) 31 = ((n % 32 : Nat) : Int) := by
  rw [show (31 : Int) = 2 ^ 5 - 1 by decide, bits_mask .i64 62 (by decide) wraps_i64 5 (by omega) n (by omega) (by omega)]
  omega
theorem or32n (n : Nat) (h : n < 32) : bits .or .i64 (n : Int) 32 = ((n + 32 : Nat) : Int) := by
  rw [or32 _ (by omega) (by omega)]
  omega
theorem code_lenw (n : Nat) (h : n < 17179869184) : (code n).length ≤ 7 := by rw [code_len]; exact vq_len_le 6 n (by omega)
theorem own_low {w : World} {B : Nat} {v : Value} {zs : List Int} (h : Own w B 5 .u8 v zs) : ∀ g, v.ownBlock = some g → B ≤ g := fun g hg => (h.lt g hg).1
set_option maxHeartbeats 8000000 in
set_option maxRecDepth 100000 in
theorem enc27 (B : Nat) (v : Value) (zs : List Int) (value : Int) (w : World) (hb : B64 B w) (hown : Own w B 5 .u8 v zs) (hz : zs.length ≤ 100000000) (h0 : -4294967296 ≤ value) (h1 : value ≤ 4294967296) :
    Calls Tryd.prog 27 #[v, .int .i64 value] w (Enc B w v zs value) := by
  have HBB := Lib.hid hb
  have HO := Lib.hid hown
  have hB := hb.1
  obtain ⟨b, off, c, hbB, g0, hcell⟩ := hb.2.2
  clear hb hown
  obtain ⟨N, hN⟩ : ∃ N, N = vlqOf value := ⟨_, rfl⟩
  by_cases hneg : value < 0
  · skip
    have hNl : N < 17179869184 := by rw [hN]; exact vlqOf_ltw h0 h1
    have eV : bits .or .i64 (-value * 2) 1 = (N : Int) := by rw [hN]; exact vlq_negw value hneg h0
    have HN := Lib.hid hN
    clear hN
    by_cases hs : N < 32
    · have e31 := and31w N hNl
      have em : N % 32 = N := by omega
      rw [em] at e31
      have t0 : ((N : Int) / 32 == 0) = true := by simp; omega
      have i0 : (0 : Int) ≤ (N : Int) := by omega
      have i1 : (N : Int) < 64 := by omega
      have cN := hcell N (by omega)
      have HC := Lib.hid (code_small N hs)
      have HOX := HO
      clear em hcell
      go_enter Tryd.func27, Tryd.ntmps27
      go_wp2_with (at_builtin; refine wpList_push_g _ rfl _ _ 22 rfl B 5 .u8 1 Tryd.underlying22 info5 (by decide) v zs rfl (HOX.out.alloc _) _ (ch N) rfl ((Row.newArr _ 5 _).at_ (i := 0) rfl) (by omega) (by simp; omega) ?_; intro A1 n1 c1 w1 hown1 hgr1; have HO1 := Lib.hid hown1; have HG1 := Lib.hid hgr1; clear hown1 hgr1)
      go_ret
      exact ⟨_, _, _, rfl, by rw [← HN.out, HC.out]; exact HO1.out, (Gr.refl w v).alloc _ |>.trans HG1.out⟩
    · have t0 : ((N : Int) / 32 == 0) = false := by simp; omega
      have HC := Lib.hid hcell
      clear hcell
      go_enter Tryd.func27, Tryd.ntmps27
      go_wp2_with fail
      clear eV t0
      go_loopw [0, 5] (fun u i wr => ∃ (u' : Value) (n : Nat) (done : List Int), u' = u ∧ i = .int .i64 n ∧ n < 17179869184 ∧ Own wr B 5 .u8 u' (zs ++ done) ∧ Gr w v wr u' ∧ done ++ code n = code N) (fun _ i _ => (intOf i).toNat)
      case atStart => exact ⟨_, N, [], rfl, rfl, hNl, by rw [List.append_nil]; exact HO.out, Gr.refl _ _, rfl⟩
      case round =>
        obtain ⟨u, n, done, rfl, rfl, hn, hownr, hgr, hcode⟩ := hrel
        have hdl : done.length ≤ 7 := by
          have := code_lenw N hNl
          rw [← hcode, List.length_append] at this
          omega
        have HOX := Lib.hid hownr
        have HGr := Lib.hid hgr
        have HCo := Lib.hid hcode
        have hzl : (zs ++ done).length + 1 ≤ 1000000000 := by rw [List.length_append]; omega
        have HZL := Lib.hid hzl
        have hbr := hgr.below (own_low HO.out) hB
        have hBr : B ≤ wr.heap.size := Nat.le_trans hB hbr.size
        obtain ⟨b', off', c', hb', g0, hcell⟩ := (HBB.out.below hbr).2.2
        clear hownr hgr hcode hzl hbr
        have e31 := and31w n hn
        have hm : n % 32 < 32 := Nat.mod_lt _ (by omega)
        by_cases hs' : n < 32
        · have em : n % 32 = n := by omega
          rw [em] at e31
          have t0 : ((n : Int) / 32) = 0 := by omega
          have i0 : (0 : Int) ≤ (n : Int) := by omega
          have i1 : (n : Int) < 64 := by omega
          have cN := hcell n (by omega)
          have HCs := Lib.hid (code_small n hs')
          clear em hcell hm
          go_wp2_with (at_builtin; refine wpList_push_g _ rfl _ _ 22 rfl B 5 .u8 1 Tryd.underlying22 info5 (by decide) u (zs ++ done) rfl (HOX.out.alloc _) _ (ch n) rfl ((Row.newArr _ 5 _).at_ (i := 0) rfl) (by exact HZL.out) (by simp; omega) ?_; intro A1 n1 c1 w1 hown1 hgr1; have HO1 := Lib.hid hown1; have HG1 := Lib.hid hgr1; clear hown1 hgr1)
          go_ret
          refine ⟨_, _, _, rfl, ?_, (HGr.out.alloc _).trans HG1.out⟩
          rw [← HN.out, ← HCo.out, HCs.out, ← List.append_assoc]
          exact HO1.out
        · obtain ⟨q, hq⟩ : ∃ q, q = n / 32 := ⟨_, rfl⟩
          obtain ⟨d, hd⟩ : ∃ d, d = n % 32 := ⟨_, rfl⟩
          rw [← hd] at e31 hm
          have e32 := or32n d hm
          have t0 : ((n : Int) / 32) = (q : Int) := by omega
          have t1 : ((q : Int) != 0) = true := by simp; omega
          have t2 : ((q : Int) == 0) = false := by simp; omega
          have i0 : (0 : Int) ≤ ((d + 32 : Nat) : Int) := by omega
          have i1 : ((d + 32 : Nat) : Int) < 64 := by omega
          have cN := hcell (d + 32) (by omega)
          have HCs := Lib.hid (code_big n (by omega))
          have hqn : q < n := by omega
          have HQ := Lib.hid hq
          have HD := Lib.hid hd
          clear hcell hq hd
          go_wp2_with (at_builtin; refine wpList_push_g _ rfl _ _ 22 rfl B 5 .u8 1 Tryd.underlying22 info5 (by decide) u (zs ++ done) rfl (HOX.out.alloc _) _ (ch (d + 32)) rfl ((Row.newArr _ 5 _).at_ (i := 0) rfl) (by exact HZL.out) (by simp; omega) ?_; intro A1 n1 c1 w1 hown1 hgr1; have HO1 := Lib.hid hown1; have HG1 := Lib.hid hgr1; clear hown1 hgr1)
          go_roundw
          case rel =>
            refine ⟨_, q, done ++ [ch (d + 32)], rfl, rfl, by omega, by rw [← List.append_assoc]; exact HO1.out, (HGr.out.alloc _).trans HG1.out, ?_⟩
            rw [List.append_assoc, ← HCo.out, HCs.out, ← HQ.out, ← HD.out]
            rfl
          case measure => simp [intOf]; omega
  · skip
    have hNl : N < 17179869184 := by rw [hN]; exact vlqOf_ltw h0 h1
    have eV : value * 2 = (N : Int) := by rw [hN]; exact vlq_pos value hneg
    have HN := Lib.hid hN
    clear hN
    by_cases hs : N < 32
    · have e31 := and31w N hNl
      have em : N % 32 = N := by omega
      rw [em] at e31
      have t0 : ((N : Int) / 32 == 0) = true := by simp; omega
      have i0 : (0 : Int) ≤ (N : Int) := by omega
      have i1 : (N : Int) < 64 := by omega
      have cN := hcell N (by omega)
      have HC := Lib.hid (code_small N hs)
      have HOX := HO
      clear em hcell
      go_enter Tryd.func27, Tryd.ntmps27
      go_wp2_with (at_builtin; refine wpList_push_g _ rfl _ _ 22 rfl B 5 .u8 1 Tryd.underlying22 info5 (by decide) v zs rfl (HOX.out.alloc _) _ (ch N) rfl ((Row.newArr _ 5 _).at_ (i := 0) rfl) (by omega) (by simp; omega) ?_; intro A1 n1 c1 w1 hown1 hgr1; have HO1 := Lib.hid hown1; have HG1 := Lib.hid hgr1; clear hown1 hgr1)
      go_ret
      exact ⟨_, _, _, rfl, by rw [← HN.out, HC.out]; exact HO1.out, (Gr.refl w v).alloc _ |>.trans HG1.out⟩
    · have t0 : ((N : Int) / 32 == 0) = false := by simp; omega
      have HC := Lib.hid hcell
      clear hcell
      go_enter Tryd.func27, Tryd.ntmps27
      go_wp2_with fail
      clear eV t0
      go_loopw [0, 5] (fun u i wr => ∃ (u' : Value) (n : Nat) (done : List Int), u' = u ∧ i = .int .i64 n ∧ n < 17179869184 ∧ Own wr B 5 .u8 u' (zs ++ done) ∧ Gr w v wr u' ∧ done ++ code n = code N) (fun _ i _ => (intOf i).toNat)
      case atStart => exact ⟨_, N, [], rfl, rfl, hNl, by rw [List.append_nil]; exact HO.out, Gr.refl _ _, rfl⟩
      case round =>
        obtain ⟨u, n, done, rfl, rfl, hn, hownr, hgr, hcode⟩ := hrel
        have hdl : done.length ≤ 7 := by
          have := code_lenw N hNl
          rw [← hcode, List.length_append] at this
          omega
        have HOX := Lib.hid hownr
        have HGr := Lib.hid hgr
        have HCo := Lib.hid hcode
        have hzl : (zs ++ done).length + 1 ≤ 1000000000 := by rw [List.length_append]; omega
        have HZL := Lib.hid hzl
        have hbr := hgr.below (own_low HO.out) hB
        have hBr : B ≤ wr.heap.size := Nat.le_trans hB hbr.size
        obtain ⟨b', off', c', hb', g0, hcell⟩ := (HBB.out.below hbr).2.2
        clear hownr hgr hcode hzl hbr
        have e31 := and31w n hn
        have hm : n % 32 < 32 := Nat.mod_lt _ (by omega)
        by_cases hs' : n < 32
        · have em : n % 32 = n := by omega
          rw [em] at e31
          have t0 : ((n : Int) / 32) = 0 := by omega
          have i0 : (0 : Int) ≤ (n : Int) := by omega
          have i1 : (n : Int) < 64 := by omega
          have cN := hcell n (by omega)
          have HCs := Lib.hid (code_small n hs')
          clear em hcell hm
          go_wp2_with (at_builtin; refine wpList_push_g _ rfl _ _ 22 rfl B 5 .u8 1 Tryd.underlying22 info5 (by decide) u (zs ++ done) rfl (HOX.out.alloc _) _ (ch n) rfl ((Row.newArr _ 5 _).at_ (i := 0) rfl) (by exact HZL.out) (by simp; omega) ?_; intro A1 n1 c1 w1 hown1 hgr1; have HO1 := Lib.hid hown1; have HG1 := Lib.hid hgr1; clear hown1 hgr1)
          go_ret
          refine ⟨_, _, _, rfl, ?_, (HGr.out.alloc _).trans HG1.out⟩
          rw [← HN.out, ← HCo.out, HCs.out, ← List.append_assoc]
          exact HO1.out
        · obtain ⟨q, hq⟩ : ∃ q, q = n / 32 := ⟨_, rfl⟩
          obtain ⟨d, hd⟩ : ∃ d, d = n % 32 := ⟨_, rfl⟩
          rw [← hd] at e31 hm
          have e32 := or32n d hm
          have t0 : ((n : Int) / 32) = (q : Int) := by omega
          have t1 : ((q : Int) != 0) = true := by simp; omega
          have t2 : ((q : Int) == 0) = false := by simp; omega
          have i0 : (0 : Int) ≤ ((d + 32 : Nat) : Int) := by omega
          have i1 : ((d + 32 : Nat) : Int) < 64 := by omega
          have cN := hcell (d + 32) (by omega)
          have HCs := Lib.hid (code_big n (by omega))
          have hqn : q < n := by omega
          have HQ := Lib.hid hq
          have HD := Lib.hid hd
          clear hcell hq hd
          go_wp2_with (at_builtin; refine wpList_push_g _ rfl _ _ 22 rfl B 5 .u8 1 Tryd.underlying22 info5 (by decide) u (zs ++ done) rfl (HOX.out.alloc _) _ (ch (d + 32)) rfl ((Row.newArr _ 5 _).at_ (i := 0) rfl) (by exact HZL.out) (by simp; omega) ?_; intro A1 n1 c1 w1 hown1 hgr1; have HO1 := Lib.hid hown1; have HG1 := Lib.hid hgr1; clear hown1 hgr1)
          go_roundw
          case rel =>
            refine ⟨_, q, done ++ [ch (d + 32)], rfl, rfl, by omega, by rw [← List.append_assoc]; exact HO1.out, (HGr.out.alloc _).trans HG1.out, ?_⟩
            rw [List.append_assoc, ← HCo.out, HCs.out, ← HQ.out, ← HD.out]
            rfl
          case measure => simp [intOf]; omega
end Go.Proofs.YtmakaafjkeeooacDoor.UgB
