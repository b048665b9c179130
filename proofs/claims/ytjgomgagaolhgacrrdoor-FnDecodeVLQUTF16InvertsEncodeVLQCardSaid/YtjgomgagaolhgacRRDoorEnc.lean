/- encodeVLQ. -/
import Derived.Test.YtjgomgagaolhgacRRDoorRows
import Derived.Test.YtjgomgagaolhgacRRDoorMem
import Derived.Test.YtjgomgagaolhgacRRDoorSl
import Derived.Test.YtjgomgagaolhgacRRDoorOwn
import Derived.Test.YtjgomgagaolhgacRRDoorVq
import Derived.Test.YtjgomgagaolhgacRRDoorVars
import Derived.WalkKit
import Derived.ProofKit
import Derived.OpenShut
import Derived.Below
import Derived.WalkLawsBesides
import Derived.Lib.Hide
import Derived.Outline
import Derived.RegionTactic
import Derived.Deep.QuietTactic
import Derived.BigQuiet
import Derived.WalkSpells
import Derived.Deep.OwnRows
import Derived.IntWalk
import Derived.Deep.DeepMust
namespace Go.Proofs.YtjgomgagaolhgacRRDoor.Enc
open Go.RowKit Mem Sl
set_option linter.unusedVariables false
open Own Vq Args

/-- The variable base64, all of it below B. -/
def B64 (B : Nat) (w : World) : Prop := B ≤ w.heap.size ∧ 0 < B ∧ ∃ b off c, b < B ∧ w.cell? ⟨0, 0, none⟩ = some (.slice (some ⟨b, off, none⟩) 64 c) ∧ ∀ i, i < 64 → w.cell? ⟨b, off + i, none⟩ = some (.int .u8 (ch i))
theorem B64.below {B : Nat} {w w' : World} (h : B64 B w) (hb : Below B w w') : B64 B w' := by
  obtain ⟨h1, h2, b, off, c, h3, h4, h5⟩ := h
  exact ⟨Nat.le_trans h1 hb.size, h2, b, off, c, h3, (hb.cell (p := ⟨0, 0, none⟩) h2).trans h4, fun i hi => (hb.cell (p := ⟨b, off + i, none⟩) h3).trans (h5 i hi)⟩
theorem info5 : (Tryd.prog.info? 5).map (fun i => (i.zero, i.size, i.bytes)) = some (some (.int .u8 0), 1, 1) := by kernel_rfl
/-- What encodeVLQ leaves. -/
def Enc (B : Nat) (w : World) (zs : List Int) (value : Int) (e : Ending) (w' : World) : Prop := ∃ v', e = .returned v' ∧ Own w' B 5 .u8 v' (zs ++ code (vlqOf value)) ∧ Below B w w'
theorem vlq_neg (v : Int) (h : v < 0) (h0 : -1073741823 ≤ v) : bits .or .i64 (-v * 2) 1 = ((vlqOf v : Nat) : Int) := by
  rw [or1 (-v * 2) (by omega) (by omega) (by omega)]
  unfold vlqOf
  rw [if_pos h]
  omega
theorem vlq_pos (v : Int) (h : ¬ v < 0) : v * 2 = ((vlqOf v : Nat) : Int) := by
  unfold vlqOf
  rw [if_neg h]
  omega
theorem and31n (n : Nat) (h : n < 2147483648) : bits .and .i64 (n : Int) 31 = ((n % 32 : Nat) : Int) := by
  rw [and31 _ (by omega) (by omega)]
  omega
theorem or32n (n : Nat) (h : n < 32) : bits .or .i64 (n : Int) 32 = ((n + 32 : Nat) : Int) := by
  rw [or32 _ (by omega) (by omega)]
  omega
set_option maxHeartbeats 4000000 in
set_option maxRecDepth 100000 in
theorem enc27 (B : Nat) (v : Value) (zs : List Int) (value : Int) (w : World) (hb : B64 B w) (hown : Own w B 5 .u8 v zs) (hz : zs.length ≤ 100000000) (h0 : -1073741823 ≤ value) (h1 : value ≤ 1073741823) :
    Calls Tryd.prog 27 #[v, .int .i64 value] w (Enc B w zs value) := by
  have HBB := Lib.hid hb
  have HO := Lib.hid hown
  have hB := hb.1
  obtain ⟨b, off, c, hbB, g0, hcell⟩ := hb.2.2
  clear hb hown
  obtain ⟨N, hN⟩ : ∃ N, N = vlqOf value := ⟨_, rfl⟩
  by_cases hneg : value < 0
  · skip
    have hNl : N < 2147483648 := by rw [hN]; exact vlqOf_lt h0 h1
    have eV : bits .or .i64 (-value * 2) 1 = (N : Int) := by rw [hN]; exact vlq_neg value hneg h0
    have HN := Lib.hid hN
    clear hN
    by_cases hs : N < 32
    · have e31 := and31n N hNl
      have em : N % 32 = N := by omega
      rw [em] at e31
      have t0 : ((N : Int) / 32 == 0) = true := by simp; omega
      have i0 : (0 : Int) ≤ (N : Int) := by omega
      have i1 : (N : Int) < 64 := by omega
      have cN := hcell N (by omega)
      have HC := Lib.hid (code_small N hs)
      clear em hcell
      go_enter Tryd.func27, Tryd.ntmps27
      go_wp2_with (refine wpList_push _ rfl _ _ 35 rfl B 5 .u8 1 Tryd.underlying35 info5 (by decide) v zs rfl (HO.out.alloc _) w.heap.size (ch N) rfl ((Row.newArr _ 5 _).at_ (i := 0) rfl) (by omega) (by simp; omega) ?_; intro v' w1 hown1 hbel1; have HO1 := Lib.hid hown1; have HBL1 := Lib.hid hbel1; clear hown1 hbel1)
      go_ret
      exact ⟨_, rfl, by rw [← HN.out, HC.out]; exact HO1.out, ((Below.refl B w).alloc hB _).trans HBL1.out⟩
    · have t0 : ((N : Int) / 32 == 0) = false := by simp; omega
      have HC := Lib.hid hcell
      clear hcell
      go_enter Tryd.func27, Tryd.ntmps27
      go_wp2_with fail
      clear eV t0
      go_loopw [0, 5] (fun u i wr => ∃ (u' : Value) (n : Nat) (done : List Int), u' = u ∧ i = .int .i64 n ∧ n < 2147483648 ∧ Own wr B 5 .u8 u' (zs ++ done) ∧ Below B w wr ∧ done ++ code n = code N) (fun _ i _ => (intOf i).toNat)
      case atStart => exact ⟨_, N, [], rfl, rfl, hNl, by rw [List.append_nil]; exact HO.out, Below.refl _ _, rfl⟩
      case round =>

        obtain ⟨u, n, done, rfl, rfl, hn, hown, hbel, hcode⟩ := hrel
        have hdl : done.length ≤ 7 := by
          have := code_len_le N hNl
          rw [← hcode, List.length_append] at this
          omega
        have HOr := Lib.hid hown
        have HBr := Lib.hid hbel
        have HCo := Lib.hid hcode
        have hzl : (zs ++ done).length ≤ 1000000000 := by rw [List.length_append]; omega
        have HZL := Lib.hid hzl
        have hBr : B ≤ wr.heap.size := Nat.le_trans hB hbel.size
        obtain ⟨b', off', c', hb', g0, hcell⟩ := (HBB.out.below hbel).2.2
        clear hown hbel hcode hzl
        have e31 := and31n n hn
        have hm : n % 32 < 32 := Nat.mod_lt _ (by omega)
        by_cases hs' : n < 32
        · have em : n % 32 = n := by omega
          rw [em] at e31
          have t0 : ((n : Int) / 32) = 0 := by omega
          have i0 : (0 : Int) ≤ (n : Int) := by omega
          have i1 : (n : Int) < 64 := by omega
          have cN := hcell n (by omega)
          have HCs := Lib.hid (code_small n hs')
          clear em hcell hm
          go_wp2_with (refine wpList_push _ rfl _ _ 35 rfl B 5 .u8 1 Tryd.underlying35 info5 (by decide) u (zs ++ done) rfl (HOr.out.alloc _) wr.heap.size (ch n) rfl ((Row.newArr _ 5 _).at_ (i := 0) rfl) (by exact HZL.out) (by simp; omega) ?_; intro v' w1 hown1 hbel1; have HO1 := Lib.hid hown1; have HBL1 := Lib.hid hbel1; clear hown1 hbel1)
          go_ret
          refine ⟨_, rfl, ?_, HBr.out.trans (((Below.refl B wr).alloc hBr _).trans HBL1.out)⟩
          rw [← HN.out, ← HCo.out, HCs.out, ← List.append_assoc]
          exact HO1.out
        · obtain ⟨q, hq⟩ : ∃ q, q = n / 32 := ⟨_, rfl⟩
          obtain ⟨d, hd⟩ : ∃ d, d = n % 32 := ⟨_, rfl⟩
          rw [← hd] at e31 hm
          have e32 := or32n d hm
          have t0 : ((n : Int) / 32) = (q : Int) := by omega
          have t1 : ((q : Int) != 0) = true := by simp; omega
          have t2 : ((q : Int) == 0) = false := by simp; omega
          have i0 : (0 : Int) ≤ ((d + 32 : Nat) : Int) := by omega
          have i1 : ((d + 32 : Nat) : Int) < 64 := by omega
          have cN := hcell (d + 32) (by omega)
          have HCs := Lib.hid (code_big n (by omega))
          have hqn : q < n := by omega
          have HQ := Lib.hid hq
          have HD := Lib.hid hd
          clear hcell hq hd
          go_wp2_with (refine wpList_push _ rfl _ _ 35 rfl B 5 .u8 1 Tryd.underlying35 info5 (by decide) u (zs ++ done) rfl (HOr.out.alloc _) wr.heap.size (ch (d + 32)) rfl ((Row.newArr _ 5 _).at_ (i := 0) rfl) (by exact HZL.out) (by simp; omega) ?_; intro v' w1 hown1 hbel1; have HO1 := Lib.hid hown1; have HBL1 := Lib.hid hbel1; clear hown1 hbel1)
          go_roundw
          case rel =>
            refine ⟨_, q, done ++ [ch (d + 32)], rfl, rfl, by omega, by rw [← List.append_assoc]; exact HO1.out, HBr.out.trans (((Below.refl B wr).alloc hBr _).trans HBL1.out), ?_⟩
            rw [List.append_assoc, ← HCo.out, HCs.out, ← HQ.out, ← HD.out]
            rfl
          case measure => simp [intOf]; omega
  · skip
    have hNl : N < 2147483648 := by rw [hN]; exact vlqOf_lt h0 h1
    have eV : value * 2 = (N : Int) := by rw [hN]; exact vlq_pos value hneg
    have HN := Lib.hid hN
    clear hN
    by_cases hs : N < 32
    · have e31 := and31n N hNl
      have em : N % 32 = N := by omega
      rw [em] at e31
      have t0 : ((N : Int) / 32 == 0) = true := by simp; omega
      have i0 : (0 : Int) ≤ (N : Int) := by omega
      have i1 : (N : Int) < 64 := by omega
      have cN := hcell N (by omega)
      have HC := Lib.hid (code_small N hs)
      clear em hcell
      go_enter Tryd.func27, Tryd.ntmps27
      go_wp2_with (refine wpList_push _ rfl _ _ 35 rfl B 5 .u8 1 Tryd.underlying35 info5 (by decide) v zs rfl (HO.out.alloc _) w.heap.size (ch N) rfl ((Row.newArr _ 5 _).at_ (i := 0) rfl) (by omega) (by simp; omega) ?_; intro v' w1 hown1 hbel1; have HO1 := Lib.hid hown1; have HBL1 := Lib.hid hbel1; clear hown1 hbel1)
      go_ret
      exact ⟨_, rfl, by rw [← HN.out, HC.out]; exact HO1.out, ((Below.refl B w).alloc hB _).trans HBL1.out⟩
    · have t0 : ((N : Int) / 32 == 0) = false := by simp; omega
      have HC := Lib.hid hcell
      clear hcell
      go_enter Tryd.func27, Tryd.ntmps27
      go_wp2_with fail
      clear eV t0
      go_loopw [0, 5] (fun u i wr => ∃ (u' : Value) (n : Nat) (done : List Int), u' = u ∧ i = .int .i64 n ∧ n < 2147483648 ∧ Own wr B 5 .u8 u' (zs ++ done) ∧ Below B w wr ∧ done ++ code n = code N) (fun _ i _ => (intOf i).toNat)
      case atStart => exact ⟨_, N, [], rfl, rfl, hNl, by rw [List.append_nil]; exact HO.out, Below.refl _ _, rfl⟩
      case round =>

        obtain ⟨u, n, done, rfl, rfl, hn, hown, hbel, hcode⟩ := hrel
        have hdl : done.length ≤ 7 := by
          have := code_len_le N hNl
          rw [← hcode, List.length_append] at this
          omega
        have HOr := Lib.hid hown
        have HBr := Lib.hid hbel
        have HCo := Lib.hid hcode
        have hzl : (zs ++ done).length ≤ 1000000000 := by rw [List.length_append]; omega
        have HZL := Lib.hid hzl
        have hBr : B ≤ wr.heap.size := Nat.le_trans hB hbel.size
        obtain ⟨b', off', c', hb', g0, hcell⟩ := (HBB.out.below hbel).2.2
        clear hown hbel hcode hzl
        have e31 := and31n n hn
        have hm : n % 32 < 32 := Nat.mod_lt _ (by omega)
        by_cases hs' : n < 32
        · have em : n % 32 = n := by omega
          rw [em] at e31
          have t0 : ((n : Int) / 32) = 0 := by omega
          have i0 : (0 : Int) ≤ (n : Int) := by omega
          have i1 : (n : Int) < 64 := by omega
          have cN := hcell n (by omega)
          have HCs := Lib.hid (code_small n hs')
          clear em hcell hm
          go_wp2_with (refine wpList_push _ rfl _ _ 35 rfl B 5 .u8 1 Tryd.underlying35 info5 (by decide) u (zs ++ done) rfl (HOr.out.alloc _) wr.heap.size (ch n) rfl ((Row.newArr _ 5 _).at_ (i := 0) rfl) (by exact HZL.out) (by simp; omega) ?_; intro v' w1 hown1 hbel1; have HO1 := Lib.hid hown1; have HBL1 := Lib.hid hbel1; clear hown1 hbel1)
          go_ret
          refine ⟨_, rfl, ?_, HBr.out.trans (((Below.refl B wr).alloc hBr _).trans HBL1.out)⟩
          rw [← HN.out, ← HCo.out, HCs.out, ← List.append_assoc]
          exact HO1.out
        · obtain ⟨q, hq⟩ : ∃ q, q = n / 32 := ⟨_, rfl⟩
          obtain ⟨d, hd⟩ : ∃ d, d = n % 32 := ⟨_, rfl⟩
          rw [← hd] at e31 hm
          have e32 := or32n d hm
          have t0 : ((n : Int) / 32) = (q : Int) := by omega
          have t1 : ((q : Int) != 0) = true := by simp; omega
          have t2 : ((q : Int) == 0) = false := by simp; omega
          have i0 : (0 : Int) ≤ ((d + 32 : Nat) : Int) := by omega
          have i1 : ((d + 32 : Nat) : Int) < 64 := by omega
          have cN := hcell (d + 32) (by omega)
          have HCs := Lib.hid (code_big n (by omega))
          have hqn : q < n := by omega
          have HQ := Lib.hid hq
          have HD := Lib.hid hd
          clear hcell hq hd
          go_wp2_with (refine wpList_push _ rfl _ _ 35 rfl B 5 .u8 1 Tryd.underlying35 info5 (by decide) u (zs ++ done) rfl (HOr.out.alloc _) wr.heap.size (ch (d + 32)) rfl ((Row.newArr _ 5 _).at_ (i := 0) rfl) (by exact HZL.out) (by simp; omega) ?_; intro v' w1 hown1 hbel1; have HO1 := Lib.hid hown1; have HBL1 := Lib.hid hbel1; clear hown1 hbel1)
          go_roundw
          case rel =>
            refine ⟨_, q, done ++ [ch (d + 32)], rfl, rfl, by omega, by rw [← List.append_assoc]; exact HO1.out, HBr.out.trans (((Below.refl B wr).alloc hBr _).trans HBL1.out), ?_⟩
            rw [List.append_assoc, ← HCo.out, HCs.out, ← HQ.out, ← HD.out]
            rfl
          case measure => simp [intOf]; omega
end Go.Proofs.YtjgomgagaolhgacRRDoor.Enc
