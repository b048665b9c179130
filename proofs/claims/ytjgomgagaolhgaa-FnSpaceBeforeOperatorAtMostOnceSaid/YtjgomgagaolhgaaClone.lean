/- Clones of byte slices. -/
import Derived.Test.YtjgomgagaolhgaaRows
import Derived.Test.YtjgomgagaolhgaaMem
import Derived.Test.YtjgomgagaolhgaaSl
import Derived.WalkKit
import Derived.ProofKit
import Derived.OpenShut
import Derived.Below
import Derived.WalkLawsBesides
import Derived.Lib.Hide
import Derived.Outline
import Derived.RegionTactic
import Derived.Deep.QuietTactic
import Derived.BigQuiet
import Derived.WalkSpells
import Derived.Deep.OwnRows
import Derived.IntWalk
import Derived.Deep.DeepMust
namespace Go.Proofs.Ytjgomgagaolhgaa.Clone
open Go.RowKit Mem Sl
set_option linter.unusedVariables false

theorem cl10_info : (Try.prog.info? 5).map (fun i => (i.zero, i.size, i.bytes)) = some (some (.int .u8 0), 1, 1) := by kernel_rfl
set_option maxHeartbeats 400000 in
theorem cl10 (A : Option Addr) (n c : Nat) (zs : List Int) (w : World) (h : Args.IsInts .u8 w A n c zs) (hn : n ≤ 1048576) :
    Calls Try.prog 10 #[.slice A n c] w fun e w' => Cloned .u8 5 w A n zs e w' := by
  have heq := fun (W : World) (X : Option Addr) (l cc : Nat) => Lib.run_eql_slice_nil (P := Try.prog) W 22 5 X l cc 0 0 Try.underlying22
  rcases A with _ | a
  · obtain ⟨h1, h2, h3, h4, h5, h6⟩ := h
    have hc := h5 rfl
    obtain rfl : n = 0 := by omega
    obtain rfl : zs = [] := List.eq_nil_of_length_eq_zero h3
    go_enter Try.func10, Try.ntmps10
    go_wp2
    go_ret
    exact ⟨_, rfl, .inl ⟨rfl, rfl, rfl⟩⟩
  · have hmk := fun W => run_make_row' (P := Try.prog) 22 5 (.int .u8 0) 1 Try.underlying22 cl10_info rfl .i64 .i64 n (by omega) (by omega) W
    have hlen := h.2.2.1
    have hrd := fun k => h.read k
    have HR := Lib.hid hrd
    clear hrd
    go_enter Try.func10, Try.ntmps10
    go_wp2
    go_loopw [4] (fun i wr => ∃ k : Nat, k ≤ n ∧ i = .int .i64 k ∧ Row wr w.heap.size 5 (filled (iv .u8 zs) (.int .u8 0) k) ∧ Below w.heap.size w wr ∧ wr.heap.size = w.heap.size + 1) (fun i _ => n - (intOf i).toNat)
    case atStart =>
      refine ⟨0, Nat.zero_le _, rfl, ?_, (Below.refl _ _).alloc (Nat.le_refl _) _, by simp⟩
      rw [filled_zero, iv_length, hlen]
      exact made_row w 5 (.int .u8 0) n
    case round =>
      obtain ⟨k, hk, rfl, hrow, hbel, hsz⟩ := hrel
      have HS := Lib.hid hsz
      clear hsz
      by_cases hlt : k < n
      · obtain ⟨b, off, ha, hb, hcell⟩ := HR.out k hlt
        injection ha with ha
        subst ha
        obtain ⟨x, hx⟩ : ∃ x, x = zs.getD k 0 := ⟨_, rfl⟩
        rw [← hx] at hcell
        have c1 := cell_later hbel hcell
        have hl : k < (iv .u8 zs).length := by rw [iv_length]; omega
        have c2 := hrow.at_ (filled_at (iv .u8 zs) (.int .u8 0) k hl)
        have c3 := hrow.frozen k
        have hset := hrow.set k (.int .u8 x)
        rw [filled_set _ _ k hl _ (by rw [hx]; exact iv_at .u8 zs k (by omega))] at hset
        have HSET := Lib.hid hset
        have HB := Lib.hid hbel
        clear hset hbel hrow hcell hx
        go_wp2
        go_roundw
        case rel => exact ⟨k + 1, by omega, by go_num, HSET.out, HB.out.setCell (Nat.le_refl _) _, by simpa using HS.out⟩
        case measure => simp [intOf]; omega
      · have hkn : k = n := by omega
        subst hkn
        have HROW := Lib.hid hrow
        have HB := Lib.hid hbel
        clear hrow hbel
        go_wp2
        go_ret
        refine ⟨_, rfl, .inr ⟨by simp, rfl, ?_, HB.out, HS.out⟩⟩
        have h1 := HROW.out
        rwa [← hlen, ← iv_length .u8 zs, filled_all] at h1

theorem cl22_info : (Try.prog.info? 5).map (fun i => (i.zero, i.size, i.bytes)) = some (some (.int .u8 0), 1, 1) := by kernel_rfl
set_option maxHeartbeats 400000 in
theorem cl22 (A : Option Addr) (n c : Nat) (zs : List Int) (w : World) (h : Args.IsInts .u8 w A n c zs) (hn : n ≤ 1048576) :
    Calls Try.prog 22 #[.slice A n c] w fun e w' => Cloned .u8 5 w A n zs e w' := by
  have heq := fun (W : World) (X : Option Addr) (l cc : Nat) => Lib.run_eql_slice_nil (P := Try.prog) W 22 5 X l cc 0 0 Try.underlying22
  rcases A with _ | a
  · obtain ⟨h1, h2, h3, h4, h5, h6⟩ := h
    have hc := h5 rfl
    obtain rfl : n = 0 := by omega
    obtain rfl : zs = [] := List.eq_nil_of_length_eq_zero h3
    go_enter Try.func22, Try.ntmps22
    go_wp2
    go_ret
    exact ⟨_, rfl, .inl ⟨rfl, rfl, rfl⟩⟩
  · have hmk := fun W => run_make_row' (P := Try.prog) 22 5 (.int .u8 0) 1 Try.underlying22 cl22_info rfl .i64 .i64 n (by omega) (by omega) W
    have hlen := h.2.2.1
    have hrd := fun k => h.read k
    have HR := Lib.hid hrd
    clear hrd
    go_enter Try.func22, Try.ntmps22
    go_wp2
    go_loopw [4] (fun i wr => ∃ k : Nat, k ≤ n ∧ i = .int .i64 k ∧ Row wr w.heap.size 5 (filled (iv .u8 zs) (.int .u8 0) k) ∧ Below w.heap.size w wr ∧ wr.heap.size = w.heap.size + 1) (fun i _ => n - (intOf i).toNat)
    case atStart =>
      refine ⟨0, Nat.zero_le _, rfl, ?_, (Below.refl _ _).alloc (Nat.le_refl _) _, by simp⟩
      rw [filled_zero, iv_length, hlen]
      exact made_row w 5 (.int .u8 0) n
    case round =>
      obtain ⟨k, hk, rfl, hrow, hbel, hsz⟩ := hrel
      have HS := Lib.hid hsz
      clear hsz
      by_cases hlt : k < n
      · obtain ⟨b, off, ha, hb, hcell⟩ := HR.out k hlt
        injection ha with ha
        subst ha
        obtain ⟨x, hx⟩ : ∃ x, x = zs.getD k 0 := ⟨_, rfl⟩
        rw [← hx] at hcell
        have c1 := cell_later hbel hcell
        have hl : k < (iv .u8 zs).length := by rw [iv_length]; omega
        have c2 := hrow.at_ (filled_at (iv .u8 zs) (.int .u8 0) k hl)
        have c3 := hrow.frozen k
        have hset := hrow.set k (.int .u8 x)
        rw [filled_set _ _ k hl _ (by rw [hx]; exact iv_at .u8 zs k (by omega))] at hset
        have HSET := Lib.hid hset
        have HB := Lib.hid hbel
        clear hset hbel hrow hcell hx
        go_wp2
        go_roundw
        case rel => exact ⟨k + 1, by omega, by go_num, HSET.out, HB.out.setCell (Nat.le_refl _) _, by simpa using HS.out⟩
        case measure => simp [intOf]; omega
      · have hkn : k = n := by omega
        subst hkn
        have HROW := Lib.hid hrow
        have HB := Lib.hid hbel
        clear hrow hbel
        go_wp2
        go_ret
        refine ⟨_, rfl, .inr ⟨by simp, rfl, ?_, HB.out, HS.out⟩⟩
        have h1 := HROW.out
        rwa [← hlen, ← iv_length .u8 zs, filled_all] at h1

theorem cl25_info : (Try.prog.info? 5).map (fun i => (i.zero, i.size, i.bytes)) = some (some (.int .u8 0), 1, 1) := by kernel_rfl
set_option maxHeartbeats 400000 in
theorem cl25 (A : Option Addr) (n c : Nat) (zs : List Int) (w : World) (h : Args.IsInts .u8 w A n c zs) (hn : n ≤ 1048576) :
    Calls Try.prog 25 #[.slice A n c] w fun e w' => Cloned .u8 5 w A n zs e w' := by
  have heq := fun (W : World) (X : Option Addr) (l cc : Nat) => Lib.run_eql_slice_nil (P := Try.prog) W 22 5 X l cc 0 0 Try.underlying22
  rcases A with _ | a
  · obtain ⟨h1, h2, h3, h4, h5, h6⟩ := h
    have hc := h5 rfl
    obtain rfl : n = 0 := by omega
    obtain rfl : zs = [] := List.eq_nil_of_length_eq_zero h3
    go_enter Try.func25, Try.ntmps25
    go_wp2
    go_ret
    exact ⟨_, rfl, .inl ⟨rfl, rfl, rfl⟩⟩
  · have hmk := fun W => run_make_row' (P := Try.prog) 22 5 (.int .u8 0) 1 Try.underlying22 cl25_info rfl .i64 .i64 n (by omega) (by omega) W
    have hlen := h.2.2.1
    have hrd := fun k => h.read k
    have HR := Lib.hid hrd
    clear hrd
    go_enter Try.func25, Try.ntmps25
    go_wp2
    go_loopw [4] (fun i wr => ∃ k : Nat, k ≤ n ∧ i = .int .i64 k ∧ Row wr w.heap.size 5 (filled (iv .u8 zs) (.int .u8 0) k) ∧ Below w.heap.size w wr ∧ wr.heap.size = w.heap.size + 1) (fun i _ => n - (intOf i).toNat)
    case atStart =>
      refine ⟨0, Nat.zero_le _, rfl, ?_, (Below.refl _ _).alloc (Nat.le_refl _) _, by simp⟩
      rw [filled_zero, iv_length, hlen]
      exact made_row w 5 (.int .u8 0) n
    case round =>
      obtain ⟨k, hk, rfl, hrow, hbel, hsz⟩ := hrel
      have HS := Lib.hid hsz
      clear hsz
      by_cases hlt : k < n
      · obtain ⟨b, off, ha, hb, hcell⟩ := HR.out k hlt
        injection ha with ha
        subst ha
        obtain ⟨x, hx⟩ : ∃ x, x = zs.getD k 0 := ⟨_, rfl⟩
        rw [← hx] at hcell
        have c1 := cell_later hbel hcell
        have hl : k < (iv .u8 zs).length := by rw [iv_length]; omega
        have c2 := hrow.at_ (filled_at (iv .u8 zs) (.int .u8 0) k hl)
        have c3 := hrow.frozen k
        have hset := hrow.set k (.int .u8 x)
        rw [filled_set _ _ k hl _ (by rw [hx]; exact iv_at .u8 zs k (by omega))] at hset
        have HSET := Lib.hid hset
        have HB := Lib.hid hbel
        clear hset hbel hrow hcell hx
        go_wp2
        go_roundw
        case rel => exact ⟨k + 1, by omega, by go_num, HSET.out, HB.out.setCell (Nat.le_refl _) _, by simpa using HS.out⟩
        case measure => simp [intOf]; omega
      · have hkn : k = n := by omega
        subst hkn
        have HROW := Lib.hid hrow
        have HB := Lib.hid hbel
        clear hrow hbel
        go_wp2
        go_ret
        refine ⟨_, rfl, .inr ⟨by simp, rfl, ?_, HB.out, HS.out⟩⟩
        have h1 := HROW.out
        rwa [← hlen, ← iv_length .u8 zs, filled_all] at h1
end Go.Proofs.Ytjgomgagaolhgaa.Clone
