/- FnAppendChunkFromZeroIsVerbatim: clones, encodeVLQ. -/
import Derived.Test.YtmgkjkfhhdkkmabDoorRows
import Derived.Test.YtmgkjkfhhdkkmabDoorMem
import Derived.Test.YtmgkjkfhhdkkmabDoorSl
import Derived.Test.YtmgkjkfhhdkkmabDoorApA
import Derived.Laws.CopyOwn
import Derived.WalkKit
import Derived.ProofKit
import Derived.OpenShut
import Derived.Below
import Derived.WalkLawsBesides
import Derived.Lib.Hide
import Derived.Outline
import Derived.RegionTactic
import Derived.Deep.QuietTactic
import Derived.BigQuiet
import Derived.WalkSpells
import Derived.Deep.OwnRows
import Derived.IntWalk
import Derived.Deep.DeepMust
namespace Go.Proofs.YtmgkjkfhhdkkmabDoor.ApB
open Go.RowKit Mem Sl
set_option linter.unusedVariables false
open Own Vq ApA Args

theorem clone6_info : (Tryd.prog.info? 21).map (fun i => (i.zero, i.size, i.bytes)) = some (some (.int .i32 0), 1, 4) := by kernel_rfl
theorem clone6_sz : (Tryd.prog.info? 21).map (·.size) = some 1 := by kernel_rfl
set_option maxRecDepth 100000 in
set_option maxHeartbeats 400000 in
theorem clone6 (A : Option Addr) (n c : Nat) (zs : List Int) (w : World) (h : Args.IsInts .i32 w A n c zs) (hn : n ≤ 1048576) :
    Calls Tryd.prog 6 #[.slice A n c] w fun e w' => Cloned .i32 21 w A n zs e w' := by
  have heq := fun (W : World) (X : Option Addr) (l cc : Nat) => Lib.run_eql_slice_nil (P := Tryd.prog) W 22 21 X l cc 0 0 Tryd.underlying22
  rcases A with _ | a
  · obtain ⟨h1, h2, h3, h4, h5, h6⟩ := h
    have hc := h5 rfl
    obtain rfl : n = 0 := by omega
    obtain rfl : zs = [] := List.eq_nil_of_length_eq_zero h3
    go_enter Tryd.func6, Tryd.ntmps6
    go_wp2
    go_ret
    exact ⟨_, rfl, .inl ⟨rfl, rfl, rfl⟩⟩
  · have hmk := fun W => run_make_row' (P := Tryd.prog) 22 21 (.int .i32 0) 4 Tryd.underlying22 clone6_info rfl .i64 .i64 n (by omega) (by omega) W
    have hlen := h.2.2.1
    have hrow := made_row w 21 (.int .i32 0) n
    have HB := Lib.hid ((Below.refl w.heap.size w).alloc (Nat.le_refl _) (.cells (madeCells #[.int .i32 0] n) 21))
    have H := Lib.hid h
    clear h
    rcases Nat.eq_zero_or_pos n with h0 | h0
    · subst h0
      obtain rfl : zs = [] := List.eq_nil_of_length_eq_zero hlen
      have HR := Lib.hid hrow
      have hmk0 : ∀ W, (Instr.makeSlice 22 (.int .i64 0) (.int .i64 0)).run Tryd.prog W = .ok (.slice (some ⟨W.heap.size, 0, none⟩) 0 0) (W.alloc (.cells (madeCells #[.int .i32 0] 0) 21)) := fun W => hmk W
      clear hrow hlen hmk
      go_enter Tryd.func6, Tryd.ntmps6
      go_wp2_with (refine wpList_copy_nothing rfl (.tmp 9) (.tmp 10) 22 22 rfl 21 Tryd.underlying22 clone6_sz (some ⟨w.heap.size, 0, none⟩) (some a) 0 0 0 c rfl rfl rfl ?_)
      go_ret
      exact ⟨_, rfl, .inr ⟨by simp, rfl, HR.out, HB.out, by simp⟩⟩
    · obtain ⟨b, off, ha, hb, hcell⟩ := H.out.2.2.2.2.2 (Nat.lt_of_lt_of_le h0 H.out.1)
      injection ha with ha
      subst ha
      have hsrc : ∀ j v, (iv .i32 zs)[j]? = some v → (w.alloc (.cells (madeCells #[.int .i32 0] n) 21)).cell? ((⟨b, off, none⟩ : Addr).add j) = some v := by
        intro j v hv
        have hj : j < zs.length := by have := (List.getElem?_eq_some_iff.1 hv).1; rwa [iv_length] at this
        rw [iv_at .i32 zs j hj] at hv
        have hadd : (⟨b, off, none⟩ : Addr).add j = ⟨b, off + j, none⟩ := by unfold Addr.add; split <;> simp_all
        rw [hadd, World.cell?_alloc_lt _ _ _ hb, hcell j (by omega), hv]
      have HSRC := Lib.hid hsrc
      have HL := Lib.hid hlen
      clear hsrc hrow hcell hlen
      go_enter Tryd.func6, Tryd.ntmps6
      go_wp2_with (refine wpList_copy_own rfl (.tmp 9) (.tmp 10) 22 22 rfl 21 Tryd.underlying22 clone6_sz w.heap.size 0 n n ⟨b, off, none⟩ n c rfl rfl (madeCells #[.int .i32 0] n) 21 (heap_alloc_new w _) (iv .i32 zs) (by rw [iv_length, HL.out]; exact (Nat.min_self n).symm) HSRC.out (by rw [size_madeCells, iv_length, HL.out]; omega) (by intro v hv; simp [iv] at hv; obtain ⟨x, _, rfl⟩ := hv; rfl) ?_)
      go_ret
      refine ⟨_, rfl, .inr ⟨by simp, rfl, ?_, below_setRow HB.out (Nat.le_refl _) _, by simp⟩⟩
      have hs := setRow_heap (w.alloc (.cells (madeCells #[.int .i32 0] n) 21)) w.heap.size (madeCells #[.int .i32 0] n) ((madeCells #[.int .i32 0] n).toList.take 0 ++ (iv .i32 zs ++ (madeCells #[.int .i32 0] n).toList.drop (0 + (iv .i32 zs).length))).toArray 21 (0, 0) (heap_alloc_new w _)
      have e1 : (madeCells #[.int .i32 0] n).toList.take 0 ++ (iv .i32 zs ++ (madeCells #[.int .i32 0] n).toList.drop (0 + (iv .i32 zs).length)) = iv .i32 zs := by
        rw [List.drop_of_length_le (by rw [Array.length_toList, size_madeCells, iv_length, HL.out]; omega)]; simp
      rw [e1] at hs
      have e2 : (iv .i32 zs ++ List.drop (iv .i32 zs).length (madeCells #[.int .i32 0] n).toList) = iv .i32 zs := by simpa using e1
      simpa [Row, e2] using hs

theorem clone7_info : (Tryd.prog.info? 5).map (fun i => (i.zero, i.size, i.bytes)) = some (some (.int .u8 0), 1, 1) := by kernel_rfl
theorem clone7_sz : (Tryd.prog.info? 5).map (·.size) = some 1 := by kernel_rfl
set_option maxRecDepth 100000 in
set_option maxHeartbeats 400000 in
theorem clone7 (A : Option Addr) (n c : Nat) (zs : List Int) (w : World) (h : Args.IsInts .u8 w A n c zs) (hn : n ≤ 1048576) :
    Calls Tryd.prog 7 #[.slice A n c] w fun e w' => Cloned .u8 5 w A n zs e w' := by
  have heq := fun (W : World) (X : Option Addr) (l cc : Nat) => Lib.run_eql_slice_nil (P := Tryd.prog) W 23 5 X l cc 0 0 Tryd.underlying23
  rcases A with _ | a
  · obtain ⟨h1, h2, h3, h4, h5, h6⟩ := h
    have hc := h5 rfl
    obtain rfl : n = 0 := by omega
    obtain rfl : zs = [] := List.eq_nil_of_length_eq_zero h3
    go_enter Tryd.func7, Tryd.ntmps7
    go_wp2
    go_ret
    exact ⟨_, rfl, .inl ⟨rfl, rfl, rfl⟩⟩
  · have hmk := fun W => run_make_row' (P := Tryd.prog) 23 5 (.int .u8 0) 1 Tryd.underlying23 clone7_info rfl .i64 .i64 n (by omega) (by omega) W
    have hlen := h.2.2.1
    have hrow := made_row w 5 (.int .u8 0) n
    have HB := Lib.hid ((Below.refl w.heap.size w).alloc (Nat.le_refl _) (.cells (madeCells #[.int .u8 0] n) 5))
    have H := Lib.hid h
    clear h
    rcases Nat.eq_zero_or_pos n with h0 | h0
    · subst h0
      obtain rfl : zs = [] := List.eq_nil_of_length_eq_zero hlen
      have HR := Lib.hid hrow
      have hmk0 : ∀ W, (Instr.makeSlice 23 (.int .i64 0) (.int .i64 0)).run Tryd.prog W = .ok (.slice (some ⟨W.heap.size, 0, none⟩) 0 0) (W.alloc (.cells (madeCells #[.int .u8 0] 0) 5)) := fun W => hmk W
      clear hrow hlen hmk
      go_enter Tryd.func7, Tryd.ntmps7
      go_wp2_with (refine wpList_copy_nothing rfl (.tmp 9) (.tmp 10) 23 23 rfl 5 Tryd.underlying23 clone7_sz (some ⟨w.heap.size, 0, none⟩) (some a) 0 0 0 c rfl rfl rfl ?_)
      go_ret
      exact ⟨_, rfl, .inr ⟨by simp, rfl, HR.out, HB.out, by simp⟩⟩
    · obtain ⟨b, off, ha, hb, hcell⟩ := H.out.2.2.2.2.2 (Nat.lt_of_lt_of_le h0 H.out.1)
      injection ha with ha
      subst ha
      have hsrc : ∀ j v, (iv .u8 zs)[j]? = some v → (w.alloc (.cells (madeCells #[.int .u8 0] n) 5)).cell? ((⟨b, off, none⟩ : Addr).add j) = some v := by
        intro j v hv
        have hj : j < zs.length := by have := (List.getElem?_eq_some_iff.1 hv).1; rwa [iv_length] at this
        rw [iv_at .u8 zs j hj] at hv
        have hadd : (⟨b, off, none⟩ : Addr).add j = ⟨b, off + j, none⟩ := by unfold Addr.add; split <;> simp_all
        rw [hadd, World.cell?_alloc_lt _ _ _ hb, hcell j (by omega), hv]
      have HSRC := Lib.hid hsrc
      have HL := Lib.hid hlen
      clear hsrc hrow hcell hlen
      go_enter Tryd.func7, Tryd.ntmps7
      go_wp2_with (refine wpList_copy_own rfl (.tmp 9) (.tmp 10) 23 23 rfl 5 Tryd.underlying23 clone7_sz w.heap.size 0 n n ⟨b, off, none⟩ n c rfl rfl (madeCells #[.int .u8 0] n) 5 (heap_alloc_new w _) (iv .u8 zs) (by rw [iv_length, HL.out]; exact (Nat.min_self n).symm) HSRC.out (by rw [size_madeCells, iv_length, HL.out]; omega) (by intro v hv; simp [iv] at hv; obtain ⟨x, _, rfl⟩ := hv; rfl) ?_)
      go_ret
      refine ⟨_, rfl, .inr ⟨by simp, rfl, ?_, below_setRow HB.out (Nat.le_refl _) _, by simp⟩⟩
      have hs := setRow_heap (w.alloc (.cells (madeCells #[.int .u8 0] n) 5)) w.heap.size (madeCells #[.int .u8 0] n) ((madeCells #[.int .u8 0] n).toList.take 0 ++ (iv .u8 zs ++ (madeCells #[.int .u8 0] n).toList.drop (0 + (iv .u8 zs).length))).toArray 5 (0, 0) (heap_alloc_new w _)
      have e1 : (madeCells #[.int .u8 0] n).toList.take 0 ++ (iv .u8 zs ++ (madeCells #[.int .u8 0] n).toList.drop (0 + (iv .u8 zs).length)) = iv .u8 zs := by
        rw [List.drop_of_length_le (by rw [Array.length_toList, size_madeCells, iv_length, HL.out]; omega)]; simp
      rw [e1] at hs
      have e2 : (iv .u8 zs ++ List.drop (iv .u8 zs).length (madeCells #[.int .u8 0] n).toList) = iv .u8 zs := by simpa using e1
      simpa [Row, e2] using hs
/-- The variable base64, all of it below B. -/
def B64 (B : Nat) (w : World) : Prop := B ≤ w.heap.size ∧ 0 < B ∧ ∃ b off c, b < B ∧ w.cell? ⟨0, 0, none⟩ = some (.slice (some ⟨b, off, none⟩) 64 c) ∧ ∀ i, i < 64 → w.cell? ⟨b, off + i, none⟩ = some (.int .u8 (ch i))
theorem B64.below {B : Nat} {w w' : World} (h : B64 B w) (hb : Below B w w') : B64 B w' := by
  obtain ⟨h1, h2, b, off, c, h3, h4, h5⟩ := h
  exact ⟨Nat.le_trans h1 hb.size, h2, b, off, c, h3, (hb.cell (p := ⟨0, 0, none⟩) h2).trans h4, fun i hi => (hb.cell (p := ⟨b, off + i, none⟩) h3).trans (h5 i hi)⟩
theorem vlq_neg (v : Int) (h : v < 0) (h0 : -1073741823 ≤ v) : bits .or .i64 (-v * 2) 1 = ((vlqOf v : Nat) : Int) := by
  rw [or1 (-v * 2) (by omega) (by omega) (by omega)]
  unfold vlqOf
  rw [if_pos h]
  omega
theorem vlq_pos (v : Int) (h : ¬ v < 0) : v * 2 = ((vlqOf v : Nat) : Int) := by
  unfold vlqOf
  rw [if_neg h]
  omega
theorem and31n (n : Nat) (h : n < 2147483648) : bits .and .i64 (n : Int) 31 = ((n % 32 : Nat) : Int) := by
  rw [and31 _ (by omega) (by omega)]
  omega
theorem or32n (n : Nat) (h : n < 32) : bits .or .i64 (n : Int) 32 = ((n + 32 : Nat) : Int) := by
  rw [or32 _ (by omega) (by omega)]
  omega
set_option maxHeartbeats 4000000 in
set_option maxRecDepth 100000 in
theorem enc22 (B : Nat) (v : Value) (zs : List Int) (value : Int) (w : World) (hb : B64 B w) (hown : Own w B 5 .u8 v zs) (hz : zs.length ≤ 100000000) (h0 : -1073741823 ≤ value) (h1 : value ≤ 1073741823) :
    Calls Tryd.prog 22 #[v, .int .i64 value] w (Enc B w zs value) := by
  have HBB := Lib.hid hb
  have HO := Lib.hid hown
  have hB := hb.1
  obtain ⟨b, off, c, hbB, g0, hcell⟩ := hb.2.2
  clear hb hown
  obtain ⟨N, hN⟩ : ∃ N, N = vlqOf value := ⟨_, rfl⟩
  by_cases hneg : value < 0
  · skip
    have hNl : N < 2147483648 := by rw [hN]; exact vlqOf_lt h0 h1
    have eV : bits .or .i64 (-value * 2) 1 = (N : Int) := by rw [hN]; exact vlq_neg value hneg h0
    have HN := Lib.hid hN
    clear hN
    by_cases hs : N < 32
    · have e31 := and31n N hNl
      have em : N % 32 = N := by omega
      rw [em] at e31
      have t0 : ((N : Int) / 32 == 0) = true := by simp; omega
      have i0 : (0 : Int) ≤ (N : Int) := by omega
      have i1 : (N : Int) < 64 := by omega
      have cN := hcell N (by omega)
      have HC := Lib.hid (code_small N hs)
      clear em hcell
      go_enter Tryd.func22, Tryd.ntmps22
      go_wp2_with (refine wpList_push _ rfl _ _ 23 rfl B 5 .u8 1 Tryd.underlying23 info5 (by decide) v zs rfl (HO.out.alloc _) w.heap.size (ch N) rfl ((Row.newArr _ 5 _).at_ (i := 0) rfl) (by omega) (by simp; omega) ?_; intro v' w1 hown1 hbel1; have HO1 := Lib.hid hown1; have HBL1 := Lib.hid hbel1; clear hown1 hbel1)
      go_ret
      exact ⟨_, rfl, by rw [← HN.out, HC.out]; exact HO1.out, ((Below.refl B w).alloc hB _).trans HBL1.out⟩
    · have t0 : ((N : Int) / 32 == 0) = false := by simp; omega
      have HC := Lib.hid hcell
      clear hcell
      go_enter Tryd.func22, Tryd.ntmps22
      go_wp2_with fail
      clear eV t0
      go_loopw [0, 5] (fun u i wr => ∃ (u' : Value) (n : Nat) (done : List Int), u' = u ∧ i = .int .i64 n ∧ n < 2147483648 ∧ Own wr B 5 .u8 u' (zs ++ done) ∧ Below B w wr ∧ done ++ code n = code N) (fun _ i _ => (intOf i).toNat)
      case atStart => exact ⟨_, N, [], rfl, rfl, hNl, by rw [List.append_nil]; exact HO.out, Below.refl _ _, rfl⟩
      case round =>

        obtain ⟨u, n, done, rfl, rfl, hn, hown, hbel, hcode⟩ := hrel
        have hdl : done.length ≤ 7 := by
          have := code_len_le N hNl
          rw [← hcode, List.length_append] at this
          omega
        have HOr := Lib.hid hown
        have HBr := Lib.hid hbel
        have HCo := Lib.hid hcode
        have hzl : (zs ++ done).length ≤ 1000000000 := by rw [List.length_append]; omega
        have HZL := Lib.hid hzl
        have hBr : B ≤ wr.heap.size := Nat.le_trans hB hbel.size
        obtain ⟨b', off', c', hb', g0, hcell⟩ := (HBB.out.below hbel).2.2
        clear hown hbel hcode hzl
        have e31 := and31n n hn
        have hm : n % 32 < 32 := Nat.mod_lt _ (by omega)
        by_cases hs' : n < 32
        · have em : n % 32 = n := by omega
          rw [em] at e31
          have t0 : ((n : Int) / 32) = 0 := by omega
          have i0 : (0 : Int) ≤ (n : Int) := by omega
          have i1 : (n : Int) < 64 := by omega
          have cN := hcell n (by omega)
          have HCs := Lib.hid (code_small n hs')
          clear em hcell hm
          go_wp2_with (refine wpList_push _ rfl _ _ 23 rfl B 5 .u8 1 Tryd.underlying23 info5 (by decide) u (zs ++ done) rfl (HOr.out.alloc _) wr.heap.size (ch n) rfl ((Row.newArr _ 5 _).at_ (i := 0) rfl) (by exact HZL.out) (by simp; omega) ?_; intro v' w1 hown1 hbel1; have HO1 := Lib.hid hown1; have HBL1 := Lib.hid hbel1; clear hown1 hbel1)
          go_ret
          refine ⟨_, rfl, ?_, HBr.out.trans (((Below.refl B wr).alloc hBr _).trans HBL1.out)⟩
          rw [← HN.out, ← HCo.out, HCs.out, ← List.append_assoc]
          exact HO1.out
        · obtain ⟨q, hq⟩ : ∃ q, q = n / 32 := ⟨_, rfl⟩
          obtain ⟨d, hd⟩ : ∃ d, d = n % 32 := ⟨_, rfl⟩
          rw [← hd] at e31 hm
          have e32 := or32n d hm
          have t0 : ((n : Int) / 32) = (q : Int) := by omega
          have t1 : ((q : Int) != 0) = true := by simp; omega
          have t2 : ((q : Int) == 0) = false := by simp; omega
          have i0 : (0 : Int) ≤ ((d + 32 : Nat) : Int) := by omega
          have i1 : ((d + 32 : Nat) : Int) < 64 := by omega
          have cN := hcell (d + 32) (by omega)
          have HCs := Lib.hid (code_big n (by omega))
          have hqn : q < n := by omega
          have HQ := Lib.hid hq
          have HD := Lib.hid hd
          clear hcell hq hd
          go_wp2_with (refine wpList_push _ rfl _ _ 23 rfl B 5 .u8 1 Tryd.underlying23 info5 (by decide) u (zs ++ done) rfl (HOr.out.alloc _) wr.heap.size (ch (d + 32)) rfl ((Row.newArr _ 5 _).at_ (i := 0) rfl) (by exact HZL.out) (by simp; omega) ?_; intro v' w1 hown1 hbel1; have HO1 := Lib.hid hown1; have HBL1 := Lib.hid hbel1; clear hown1 hbel1)
          go_roundw
          case rel =>
            refine ⟨_, q, done ++ [ch (d + 32)], rfl, rfl, by omega, by rw [← List.append_assoc]; exact HO1.out, HBr.out.trans (((Below.refl B wr).alloc hBr _).trans HBL1.out), ?_⟩
            rw [List.append_assoc, ← HCo.out, HCs.out, ← HQ.out, ← HD.out]
            rfl
          case measure => simp [intOf]; omega
  · skip
    have hNl : N < 2147483648 := by rw [hN]; exact vlqOf_lt h0 h1
    have eV : value * 2 = (N : Int) := by rw [hN]; exact vlq_pos value hneg
    have HN := Lib.hid hN
    clear hN
    by_cases hs : N < 32
    · have e31 := and31n N hNl
      have em : N % 32 = N := by omega
      rw [em] at e31
      have t0 : ((N : Int) / 32 == 0) = true := by simp; omega
      have i0 : (0 : Int) ≤ (N : Int) := by omega
      have i1 : (N : Int) < 64 := by omega
      have cN := hcell N (by omega)
      have HC := Lib.hid (code_small N hs)
      clear em hcell
      go_enter Tryd.func22, Tryd.ntmps22
      go_wp2_with (refine wpList_push _ rfl _ _ 23 rfl B 5 .u8 1 Tryd.underlying23 info5 (by decide) v zs rfl (HO.out.alloc _) w.heap.size (ch N) rfl ((Row.newArr _ 5 _).at_ (i := 0) rfl) (by omega) (by simp; omega) ?_; intro v' w1 hown1 hbel1; have HO1 := Lib.hid hown1; have HBL1 := Lib.hid hbel1; clear hown1 hbel1)
      go_ret
      exact ⟨_, rfl, by rw [← HN.out, HC.out]; exact HO1.out, ((Below.refl B w).alloc hB _).trans HBL1.out⟩
    · have t0 : ((N : Int) / 32 == 0) = false := by simp; omega
      have HC := Lib.hid hcell
      clear hcell
      go_enter Tryd.func22, Tryd.ntmps22
      go_wp2_with fail
      clear eV t0
      go_loopw [0, 5] (fun u i wr => ∃ (u' : Value) (n : Nat) (done : List Int), u' = u ∧ i = .int .i64 n ∧ n < 2147483648 ∧ Own wr B 5 .u8 u' (zs ++ done) ∧ Below B w wr ∧ done ++ code n = code N) (fun _ i _ => (intOf i).toNat)
      case atStart => exact ⟨_, N, [], rfl, rfl, hNl, by rw [List.append_nil]; exact HO.out, Below.refl _ _, rfl⟩
      case round =>

        obtain ⟨u, n, done, rfl, rfl, hn, hown, hbel, hcode⟩ := hrel
        have hdl : done.length ≤ 7 := by
          have := code_len_le N hNl
          rw [← hcode, List.length_append] at this
          omega
        have HOr := Lib.hid hown
        have HBr := Lib.hid hbel
        have HCo := Lib.hid hcode
        have hzl : (zs ++ done).length ≤ 1000000000 := by rw [List.length_append]; omega
        have HZL := Lib.hid hzl
        have hBr : B ≤ wr.heap.size := Nat.le_trans hB hbel.size
        obtain ⟨b', off', c', hb', g0, hcell⟩ := (HBB.out.below hbel).2.2
        clear hown hbel hcode hzl
        have e31 := and31n n hn
        have hm : n % 32 < 32 := Nat.mod_lt _ (by omega)
        by_cases hs' : n < 32
        · have em : n % 32 = n := by omega
          rw [em] at e31
          have t0 : ((n : Int) / 32) = 0 := by omega
          have i0 : (0 : Int) ≤ (n : Int) := by omega
          have i1 : (n : Int) < 64 := by omega
          have cN := hcell n (by omega)
          have HCs := Lib.hid (code_small n hs')
          clear em hcell hm
          go_wp2_with (refine wpList_push _ rfl _ _ 23 rfl B 5 .u8 1 Tryd.underlying23 info5 (by decide) u (zs ++ done) rfl (HOr.out.alloc _) wr.heap.size (ch n) rfl ((Row.newArr _ 5 _).at_ (i := 0) rfl) (by exact HZL.out) (by simp; omega) ?_; intro v' w1 hown1 hbel1; have HO1 := Lib.hid hown1; have HBL1 := Lib.hid hbel1; clear hown1 hbel1)
          go_ret
          refine ⟨_, rfl, ?_, HBr.out.trans (((Below.refl B wr).alloc hBr _).trans HBL1.out)⟩
          rw [← HN.out, ← HCo.out, HCs.out, ← List.append_assoc]
          exact HO1.out
        · obtain ⟨q, hq⟩ : ∃ q, q = n / 32 := ⟨_, rfl⟩
          obtain ⟨d, hd⟩ : ∃ d, d = n % 32 := ⟨_, rfl⟩
          rw [← hd] at e31 hm
          have e32 := or32n d hm
          have t0 : ((n : Int) / 32) = (q : Int) := by omega
          have t1 : ((q : Int) != 0) = true := by simp; omega
          have t2 : ((q : Int) == 0) = false := by simp; omega
          have i0 : (0 : Int) ≤ ((d + 32 : Nat) : Int) := by omega
          have i1 : ((d + 32 : Nat) : Int) < 64 := by omega
          have cN := hcell (d + 32) (by omega)
          have HCs := Lib.hid (code_big n (by omega))
          have hqn : q < n := by omega
          have HQ := Lib.hid hq
          have HD := Lib.hid hd
          clear hcell hq hd
          go_wp2_with (refine wpList_push _ rfl _ _ 23 rfl B 5 .u8 1 Tryd.underlying23 info5 (by decide) u (zs ++ done) rfl (HOr.out.alloc _) wr.heap.size (ch (d + 32)) rfl ((Row.newArr _ 5 _).at_ (i := 0) rfl) (by exact HZL.out) (by simp; omega) ?_; intro v' w1 hown1 hbel1; have HO1 := Lib.hid hown1; have HBL1 := Lib.hid hbel1; clear hown1 hbel1)
          go_roundw
          case rel =>
            refine ⟨_, q, done ++ [ch (d + 32)], rfl, rfl, by omega, by rw [← List.append_assoc]; exact HO1.out, HBr.out.trans (((Below.refl B wr).alloc hBr _).trans HBL1.out), ?_⟩
            rw [List.append_assoc, ← HCo.out, HCs.out, ← HQ.out, ← HD.out]
            rfl
          case measure => simp [intOf]; omega
end Go.Proofs.YtmgkjkfhhdkkmabDoor.ApB
