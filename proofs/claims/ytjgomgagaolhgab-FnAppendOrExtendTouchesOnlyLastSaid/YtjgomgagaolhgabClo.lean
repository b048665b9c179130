/- Clones of []uint32. -/
import Derived.Test.YtjgomgagaolhgabRows
import Derived.Test.YtjgomgagaolhgabMem
import Derived.Test.YtjgomgagaolhgabSl
import Derived.WalkKit
import Derived.ProofKit
import Derived.OpenShut
import Derived.Below
import Derived.WalkLawsBesides
import Derived.Lib.Hide
import Derived.Outline
import Derived.RegionTactic
import Derived.Deep.QuietTactic
import Derived.BigQuiet
import Derived.WalkSpells
import Derived.Deep.OwnRows
import Derived.IntWalk
import Derived.Deep.DeepMust
namespace Go.Proofs.Ytjgomgagaolhgab.Clo
open Go.RowKit Mem Sl
set_option linter.unusedVariables false

theorem cloned_ints {k : IntKind} {E : TypeId} {w w1 : World} {A : Option Addr} {n c : Nat} {zs : List Int} {v : Value} (h : Args.IsInts k w A n c zs) (hn : n ≤ 2000000)
    (hv : (A = none ∧ v = .slice none 0 0 ∧ w = w1) ∨ (A ≠ none ∧ v = .slice (some ⟨w.heap.size, 0, none⟩) n n ∧ Row w1 w.heap.size E (iv k zs) ∧ Below w.heap.size w w1 ∧ w1.heap.size = w.heap.size + 1)) :
    ∃ A', v = .slice A' n n ∧ Args.IsInts k w1 A' n n zs ∧ Below w.heap.size w w1 := by
  rcases hv with ⟨rfl, rfl, rfl⟩ | ⟨_, rfl, hrow, hb, _⟩
  · have hc0 := h.2.2.2.2.1 rfl
    have hn0 : n = 0 := by have := h.1; omega
    subst hn0
    subst hc0
    exact ⟨none, rfl, h, Below.refl _ _⟩
  · have hl := h.2.2.1
    subst hl
    exact ⟨_, rfl, ints_of_row hrow (by unfold maxLen; omega) h.2.2.2.1, hb⟩
/-- The clone as the laws use it. -/
def Clo (w : World) (n : Nat) (zs : List Int) (e : Ending) (w' : World) : Prop := ∃ A', e = .returned (.slice A' n n) ∧ Args.IsInts .u32 w' A' n n zs ∧ Below w.heap.size w w'

theorem cl22_info : (Try.prog.info? 28).map (fun i => (i.zero, i.size, i.bytes)) = some (some (.int .u32 0), 1, 4) := by kernel_rfl
set_option maxHeartbeats 400000 in
theorem cl22 (A : Option Addr) (n c : Nat) (zs : List Int) (w : World) (h : Args.IsInts .u32 w A n c zs) (hn : n ≤ 1048576) :
    Calls Try.prog 22 #[.slice A n c] w fun e w' => Cloned .u32 28 w A n zs e w' := by
  have heq := fun (W : World) (X : Option Addr) (l cc : Nat) => Lib.run_eql_slice_nil (P := Try.prog) W 22 28 X l cc 0 0 Try.underlying22
  rcases A with _ | a
  · obtain ⟨h1, h2, h3, h4, h5, h6⟩ := h
    have hc := h5 rfl
    obtain rfl : n = 0 := by omega
    obtain rfl : zs = [] := List.eq_nil_of_length_eq_zero h3
    go_enter Try.func22, Try.ntmps22
    go_wp2
    go_ret
    exact ⟨_, rfl, .inl ⟨rfl, rfl, rfl⟩⟩
  · have hmk := fun W => run_make_row' (P := Try.prog) 22 28 (.int .u32 0) 4 Try.underlying22 cl22_info rfl .i64 .i64 n (by omega) (by omega) W
    have hlen := h.2.2.1
    have hrd := fun k => h.read k
    have HR := Lib.hid hrd
    clear hrd
    go_enter Try.func22, Try.ntmps22
    go_wp2
    go_loopw [4] (fun i wr => ∃ k : Nat, k ≤ n ∧ i = .int .i64 k ∧ Row wr w.heap.size 28 (filled (iv .u32 zs) (.int .u32 0) k) ∧ Below w.heap.size w wr ∧ wr.heap.size = w.heap.size + 1) (fun i _ => n - (intOf i).toNat)
    case atStart =>
      refine ⟨0, Nat.zero_le _, rfl, ?_, (Below.refl _ _).alloc (Nat.le_refl _) _, by simp⟩
      rw [filled_zero, iv_length, hlen]
      exact made_row w 28 (.int .u32 0) n
    case round =>
      obtain ⟨k, hk, rfl, hrow, hbel, hsz⟩ := hrel
      have HS := Lib.hid hsz
      clear hsz
      by_cases hlt : k < n
      · obtain ⟨b, off, ha, hb, hcell⟩ := HR.out k hlt
        injection ha with ha
        subst ha
        obtain ⟨x, hx⟩ : ∃ x, x = zs.getD k 0 := ⟨_, rfl⟩
        rw [← hx] at hcell
        have c1 := cell_later hbel hcell
        have hl : k < (iv .u32 zs).length := by rw [iv_length]; omega
        have c2 := hrow.at_ (filled_at (iv .u32 zs) (.int .u32 0) k hl)
        have c3 := hrow.frozen k
        have hset := hrow.set k (.int .u32 x)
        rw [filled_set _ _ k hl _ (by rw [hx]; exact iv_at .u32 zs k (by omega))] at hset
        have HSET := Lib.hid hset
        have HB := Lib.hid hbel
        clear hset hbel hrow hcell hx
        go_wp2
        go_roundw
        case rel => exact ⟨k + 1, by omega, by go_num, HSET.out, HB.out.setCell (Nat.le_refl _) _, by simpa using HS.out⟩
        case measure => simp [intOf]; omega
      · have hkn : k = n := by omega
        subst hkn
        have HROW := Lib.hid hrow
        have HB := Lib.hid hbel
        clear hrow hbel
        go_wp2
        go_ret
        refine ⟨_, rfl, .inr ⟨by simp, rfl, ?_, HB.out, HS.out⟩⟩
        have h1 := HROW.out
        rwa [← hlen, ← iv_length .u32 zs, filled_all] at h1
theorem clo22 (A : Option Addr) (n c : Nat) (zs : List Int) (w : World) (h : Args.IsInts .u32 w A n c zs) (hn : n ≤ 1048576) : Calls Try.prog 22 #[.slice A n c] w (Clo w n zs) := by
  refine (cl22 A n c zs w h hn).mono ?_
  rintro e w1 ⟨v, rfl, hv⟩
  obtain ⟨A', rfl, h1, h2⟩ := cloned_ints h (by omega) hv
  exact ⟨A', rfl, h1, h2⟩

theorem cl16_info : (Try.prog.info? 28).map (fun i => (i.zero, i.size, i.bytes)) = some (some (.int .u32 0), 1, 4) := by kernel_rfl
set_option maxHeartbeats 400000 in
theorem cl16 (A : Option Addr) (n c : Nat) (zs : List Int) (w : World) (h : Args.IsInts .u32 w A n c zs) (hn : n ≤ 1048576) :
    Calls Try.prog 16 #[.slice A n c] w fun e w' => Cloned .u32 28 w A n zs e w' := by
  have heq := fun (W : World) (X : Option Addr) (l cc : Nat) => Lib.run_eql_slice_nil (P := Try.prog) W 22 28 X l cc 0 0 Try.underlying22
  rcases A with _ | a
  · obtain ⟨h1, h2, h3, h4, h5, h6⟩ := h
    have hc := h5 rfl
    obtain rfl : n = 0 := by omega
    obtain rfl : zs = [] := List.eq_nil_of_length_eq_zero h3
    go_enter Try.func16, Try.ntmps16
    go_wp2
    go_ret
    exact ⟨_, rfl, .inl ⟨rfl, rfl, rfl⟩⟩
  · have hmk := fun W => run_make_row' (P := Try.prog) 22 28 (.int .u32 0) 4 Try.underlying22 cl16_info rfl .i64 .i64 n (by omega) (by omega) W
    have hlen := h.2.2.1
    have hrd := fun k => h.read k
    have HR := Lib.hid hrd
    clear hrd
    go_enter Try.func16, Try.ntmps16
    go_wp2
    go_loopw [4] (fun i wr => ∃ k : Nat, k ≤ n ∧ i = .int .i64 k ∧ Row wr w.heap.size 28 (filled (iv .u32 zs) (.int .u32 0) k) ∧ Below w.heap.size w wr ∧ wr.heap.size = w.heap.size + 1) (fun i _ => n - (intOf i).toNat)
    case atStart =>
      refine ⟨0, Nat.zero_le _, rfl, ?_, (Below.refl _ _).alloc (Nat.le_refl _) _, by simp⟩
      rw [filled_zero, iv_length, hlen]
      exact made_row w 28 (.int .u32 0) n
    case round =>
      obtain ⟨k, hk, rfl, hrow, hbel, hsz⟩ := hrel
      have HS := Lib.hid hsz
      clear hsz
      by_cases hlt : k < n
      · obtain ⟨b, off, ha, hb, hcell⟩ := HR.out k hlt
        injection ha with ha
        subst ha
        obtain ⟨x, hx⟩ : ∃ x, x = zs.getD k 0 := ⟨_, rfl⟩
        rw [← hx] at hcell
        have c1 := cell_later hbel hcell
        have hl : k < (iv .u32 zs).length := by rw [iv_length]; omega
        have c2 := hrow.at_ (filled_at (iv .u32 zs) (.int .u32 0) k hl)
        have c3 := hrow.frozen k
        have hset := hrow.set k (.int .u32 x)
        rw [filled_set _ _ k hl _ (by rw [hx]; exact iv_at .u32 zs k (by omega))] at hset
        have HSET := Lib.hid hset
        have HB := Lib.hid hbel
        clear hset hbel hrow hcell hx
        go_wp2
        go_roundw
        case rel => exact ⟨k + 1, by omega, by go_num, HSET.out, HB.out.setCell (Nat.le_refl _) _, by simpa using HS.out⟩
        case measure => simp [intOf]; omega
      · have hkn : k = n := by omega
        subst hkn
        have HROW := Lib.hid hrow
        have HB := Lib.hid hbel
        clear hrow hbel
        go_wp2
        go_ret
        refine ⟨_, rfl, .inr ⟨by simp, rfl, ?_, HB.out, HS.out⟩⟩
        have h1 := HROW.out
        rwa [← hlen, ← iv_length .u32 zs, filled_all] at h1
theorem clo16 (A : Option Addr) (n c : Nat) (zs : List Int) (w : World) (h : Args.IsInts .u32 w A n c zs) (hn : n ≤ 1048576) : Calls Try.prog 16 #[.slice A n c] w (Clo w n zs) := by
  refine (cl16 A n c zs w h hn).mono ?_
  rintro e w1 ⟨v, rfl, hv⟩
  obtain ⟨A', rfl, h1, h2⟩ := cloned_ints h (by omega) hv
  exact ⟨A', rfl, h1, h2⟩

theorem cl35_info : (Try.prog.info? 28).map (fun i => (i.zero, i.size, i.bytes)) = some (some (.int .u32 0), 1, 4) := by kernel_rfl
set_option maxHeartbeats 400000 in
theorem cl35 (A : Option Addr) (n c : Nat) (zs : List Int) (w : World) (h : Args.IsInts .u32 w A n c zs) (hn : n ≤ 1048576) :
    Calls Try.prog 35 #[.slice A n c] w fun e w' => Cloned .u32 28 w A n zs e w' := by
  have heq := fun (W : World) (X : Option Addr) (l cc : Nat) => Lib.run_eql_slice_nil (P := Try.prog) W 22 28 X l cc 0 0 Try.underlying22
  rcases A with _ | a
  · obtain ⟨h1, h2, h3, h4, h5, h6⟩ := h
    have hc := h5 rfl
    obtain rfl : n = 0 := by omega
    obtain rfl : zs = [] := List.eq_nil_of_length_eq_zero h3
    go_enter Try.func35, Try.ntmps35
    go_wp2
    go_ret
    exact ⟨_, rfl, .inl ⟨rfl, rfl, rfl⟩⟩
  · have hmk := fun W => run_make_row' (P := Try.prog) 22 28 (.int .u32 0) 4 Try.underlying22 cl35_info rfl .i64 .i64 n (by omega) (by omega) W
    have hlen := h.2.2.1
    have hrd := fun k => h.read k
    have HR := Lib.hid hrd
    clear hrd
    go_enter Try.func35, Try.ntmps35
    go_wp2
    go_loopw [4] (fun i wr => ∃ k : Nat, k ≤ n ∧ i = .int .i64 k ∧ Row wr w.heap.size 28 (filled (iv .u32 zs) (.int .u32 0) k) ∧ Below w.heap.size w wr ∧ wr.heap.size = w.heap.size + 1) (fun i _ => n - (intOf i).toNat)
    case atStart =>
      refine ⟨0, Nat.zero_le _, rfl, ?_, (Below.refl _ _).alloc (Nat.le_refl _) _, by simp⟩
      rw [filled_zero, iv_length, hlen]
      exact made_row w 28 (.int .u32 0) n
    case round =>
      obtain ⟨k, hk, rfl, hrow, hbel, hsz⟩ := hrel
      have HS := Lib.hid hsz
      clear hsz
      by_cases hlt : k < n
      · obtain ⟨b, off, ha, hb, hcell⟩ := HR.out k hlt
        injection ha with ha
        subst ha
        obtain ⟨x, hx⟩ : ∃ x, x = zs.getD k 0 := ⟨_, rfl⟩
        rw [← hx] at hcell
        have c1 := cell_later hbel hcell
        have hl : k < (iv .u32 zs).length := by rw [iv_length]; omega
        have c2 := hrow.at_ (filled_at (iv .u32 zs) (.int .u32 0) k hl)
        have c3 := hrow.frozen k
        have hset := hrow.set k (.int .u32 x)
        rw [filled_set _ _ k hl _ (by rw [hx]; exact iv_at .u32 zs k (by omega))] at hset
        have HSET := Lib.hid hset
        have HB := Lib.hid hbel
        clear hset hbel hrow hcell hx
        go_wp2
        go_roundw
        case rel => exact ⟨k + 1, by omega, by go_num, HSET.out, HB.out.setCell (Nat.le_refl _) _, by simpa using HS.out⟩
        case measure => simp [intOf]; omega
      · have hkn : k = n := by omega
        subst hkn
        have HROW := Lib.hid hrow
        have HB := Lib.hid hbel
        clear hrow hbel
        go_wp2
        go_ret
        refine ⟨_, rfl, .inr ⟨by simp, rfl, ?_, HB.out, HS.out⟩⟩
        have h1 := HROW.out
        rwa [← hlen, ← iv_length .u32 zs, filled_all] at h1
theorem clo35 (A : Option Addr) (n c : Nat) (zs : List Int) (w : World) (h : Args.IsInts .u32 w A n c zs) (hn : n ≤ 1048576) : Calls Try.prog 35 #[.slice A n c] w (Clo w n zs) := by
  refine (cl35 A n c zs w h hn).mono ?_
  rintro e w1 ⟨v, rfl, hv⟩
  obtain ⟨A', rfl, h1, h2⟩ := cloned_ints h (by omega) hv
  exact ⟨A', rfl, h1, h2⟩
end Go.Proofs.Ytjgomgagaolhgab.Clo
