/- zzCopyBytes by copy. -/
import Derived.Test.YtjgomgagaolhgaaRows
import Derived.Test.YtjgomgagaolhgaaMem
import Derived.Test.YtjgomgagaolhgaaSl
import Derived.Test.YtjgomgagaolhgaaPrint
import Derived.Laws.CopyOwn
import Derived.WalkKit
import Derived.ProofKit
import Derived.OpenShut
import Derived.Below
import Derived.WalkLawsBesides
import Derived.Lib.Hide
import Derived.Outline
import Derived.RegionTactic
import Derived.Deep.QuietTactic
import Derived.BigQuiet
import Derived.WalkSpells
import Derived.Deep.OwnRows
import Derived.IntWalk
import Derived.Deep.DeepMust
namespace Go.Proofs.Ytjgomgagaolhgaa.CloneC
open Go.RowKit Mem Sl
set_option linter.unusedVariables false
open Prn

theorem cl30_info : (Try.prog.info? 5).map (fun i => (i.zero, i.size, i.bytes)) = some (some (.int .u8 0), 1, 1) := by kernel_rfl
theorem cl30_sz : (Try.prog.info? 5).map (·.size) = some 1 := by kernel_rfl
set_option maxRecDepth 100000 in
set_option maxHeartbeats 400000 in
theorem cl30 (A : Option Addr) (n c : Nat) (zs : List Int) (w : World) (h : Args.IsInts .u8 w A n c zs) (hn : n ≤ 1048576) :
    Calls Try.prog 30 #[.slice A n c] w fun e w' => Cloned .u8 5 w A n zs e w' := by
  have heq := fun (W : World) (X : Option Addr) (l cc : Nat) => Lib.run_eql_slice_nil (P := Try.prog) W 22 5 X l cc 0 0 Try.underlying22
  rcases A with _ | a
  · obtain ⟨h1, h2, h3, h4, h5, h6⟩ := h
    have hc := h5 rfl
    obtain rfl : n = 0 := by omega
    obtain rfl : zs = [] := List.eq_nil_of_length_eq_zero h3
    go_enter Try.func30, Try.ntmps30
    go_wp2
    go_ret
    exact ⟨_, rfl, .inl ⟨rfl, rfl, rfl⟩⟩
  · have hmk := fun W => run_make_row' (P := Try.prog) 22 5 (.int .u8 0) 1 Try.underlying22 cl30_info rfl .i64 .i64 n (by omega) (by omega) W
    have hlen := h.2.2.1
    have hrow := made_row w 5 (.int .u8 0) n
    have HB := Lib.hid ((Below.refl w.heap.size w).alloc (Nat.le_refl _) (.cells (madeCells #[.int .u8 0] n) 5))
    have H := Lib.hid h
    clear h
    rcases Nat.eq_zero_or_pos n with h0 | h0
    · subst h0
      obtain rfl : zs = [] := List.eq_nil_of_length_eq_zero hlen
      have HR := Lib.hid hrow
      have hmk0 : ∀ W, (Instr.makeSlice 22 (.int .i64 0) (.int .i64 0)).run Try.prog W = .ok (.slice (some ⟨W.heap.size, 0, none⟩) 0 0) (W.alloc (.cells (madeCells #[.int .u8 0] 0) 5)) := fun W => hmk W
      clear hrow hlen hmk
      go_enter Try.func30, Try.ntmps30
      go_wp2_with (refine wpList_copy_nothing rfl (.tmp 9) (.tmp 10) 22 22 rfl 5 Try.underlying22 cl30_sz (some ⟨w.heap.size, 0, none⟩) (some a) 0 0 0 c rfl rfl rfl ?_)
      go_ret
      exact ⟨_, rfl, .inr ⟨by simp, rfl, HR.out, HB.out, by simp⟩⟩
    · obtain ⟨b, off, ha, hb, hcell⟩ := H.out.2.2.2.2.2 (Nat.lt_of_lt_of_le h0 H.out.1)
      injection ha with ha
      subst ha
      have hsrc : ∀ j v, (iv .u8 zs)[j]? = some v → (w.alloc (.cells (madeCells #[.int .u8 0] n) 5)).cell? ((⟨b, off, none⟩ : Addr).add j) = some v := by
        intro j v hv
        have hj : j < zs.length := by have := (List.getElem?_eq_some_iff.1 hv).1; rwa [iv_length] at this
        rw [iv_at .u8 zs j hj] at hv
        have hadd : (⟨b, off, none⟩ : Addr).add j = ⟨b, off + j, none⟩ := by unfold Addr.add; split <;> simp_all
        rw [hadd, World.cell?_alloc_lt _ _ _ hb, hcell j (by omega), hv]
      have HSRC := Lib.hid hsrc
      have HL := Lib.hid hlen
      clear hsrc hrow hcell hlen
      go_enter Try.func30, Try.ntmps30
      go_wp2_with (refine wpList_copy_own rfl (.tmp 9) (.tmp 10) 22 22 rfl 5 Try.underlying22 cl30_sz w.heap.size 0 n n ⟨b, off, none⟩ n c rfl rfl (madeCells #[.int .u8 0] n) 5 (heap_alloc_new w _) (iv .u8 zs) (by rw [iv_length, HL.out]; exact (Nat.min_self n).symm) HSRC.out (by rw [size_madeCells, iv_length, HL.out]; omega) (by intro v hv; simp [iv] at hv; obtain ⟨x, _, rfl⟩ := hv; rfl) ?_)
      go_ret
      refine ⟨_, rfl, .inr ⟨by simp, rfl, ?_, below_setRow HB.out (Nat.le_refl _) _, by simp⟩⟩
      have hs := setRow_heap (w.alloc (.cells (madeCells #[.int .u8 0] n) 5)) w.heap.size (madeCells #[.int .u8 0] n) ((madeCells #[.int .u8 0] n).toList.take 0 ++ (iv .u8 zs ++ (madeCells #[.int .u8 0] n).toList.drop (0 + (iv .u8 zs).length))).toArray 5 (0, 0) (heap_alloc_new w _)
      have e1 : (madeCells #[.int .u8 0] n).toList.take 0 ++ (iv .u8 zs ++ (madeCells #[.int .u8 0] n).toList.drop (0 + (iv .u8 zs).length)) = iv .u8 zs := by
        rw [List.drop_of_length_le (by rw [Array.length_toList, size_madeCells, iv_length, HL.out]; omega)]; simp
      rw [e1] at hs
      have e2 : (iv .u8 zs ++ List.drop (iv .u8 zs).length (madeCells #[.int .u8 0] n).toList) = iv .u8 zs := by simpa using e1
      simpa [Row, e2] using hs
end Go.Proofs.Ytjgomgagaolhgaa.CloneC
