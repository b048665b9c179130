/- zzB2PairRanks and the small helpers. -/
import Derived.Test.YtdajemigdciphacRows
import Derived.Test.YtdajemigdciphacMem
import Derived.Test.YtdajemigdciphacSl
import Derived.Test.YtdajemigdciphacRank
import Derived.WalkKit
import Derived.ProofKit
import Derived.OpenShut
import Derived.Below
import Derived.WalkLawsBesides
import Derived.Lib.Hide
import Derived.Outline
import Derived.RegionTactic
import Derived.Deep.QuietTactic
import Derived.BigQuiet
import Derived.WalkSpells
import Derived.Deep.OwnRows
import Derived.IntWalk
import Derived.Deep.DeepMust
namespace Go.Proofs.Ytdajemigdciphac.GlD
open Go.RowKit Mem Sl
set_option linter.unusedVariables false
open Rank

theorem clone6_info : (Try.prog.info? 28).map (fun i => (i.zero, i.size, i.bytes)) = some (some (.int .u32 0), 1, 4) := by kernel_rfl
set_option maxHeartbeats 400000 in
theorem clone6 (A : Option Addr) (n c : Nat) (zs : List Int) (w : World) (h : Args.IsInts .u32 w A n c zs) (hn : n ≤ 4096) :
    Calls Try.prog 6 #[.slice A n c] w (Cloned .u32 28 w A n zs) := by
  have heq := fun (W : World) (X : Option Addr) (l cc : Nat) => Lib.run_eql_slice_nil (P := Try.prog) W 22 28 X l cc 0 0 Try.underlying22
  rcases A with _ | a
  · obtain ⟨h1, h2, h3, h4, h5, h6⟩ := h
    have hc := h5 rfl
    obtain rfl : n = 0 := by omega
    obtain rfl : zs = [] := List.eq_nil_of_length_eq_zero h3
    go_enter Try.func6, Try.ntmps6
    go_wp2
    go_ret
    exact ⟨_, rfl, .inl ⟨rfl, rfl, rfl⟩⟩
  · have hmk := fun W => run_make_row' (P := Try.prog) 22 28 (.int .u32 0) 4 Try.underlying22 clone6_info rfl .i64 .i64 n (by omega) (by omega) W
    have hlen := h.2.2.1
    have hrd := fun k => h.read k
    have HR := Lib.hid hrd
    clear hrd
    go_enter Try.func6, Try.ntmps6
    go_wp2
    go_loopw [4] (fun i wr => ∃ k : Nat, k ≤ n ∧ i = .int .i64 k ∧ Row wr w.heap.size 28 (filled (iv .u32 zs) (.int .u32 0) k) ∧ Below w.heap.size w wr ∧ wr.heap.size = w.heap.size + 1) (fun i _ => n - (intOf i).toNat)
    case atStart =>
      refine ⟨0, Nat.zero_le _, rfl, ?_, (Below.refl _ _).alloc (Nat.le_refl _) _, by simp⟩
      rw [filled_zero, iv_length, hlen]
      exact made_row w 28 (.int .u32 0) n
    case round =>
      obtain ⟨k, hk, rfl, hrow, hbel, hsz⟩ := hrel
      have HS := Lib.hid hsz
      clear hsz
      by_cases hlt : k < n
      · obtain ⟨b, off, ha, hb, hcell⟩ := HR.out k hlt
        injection ha with ha
        subst ha
        obtain ⟨x, hx⟩ : ∃ x, x = zs.getD k 0 := ⟨_, rfl⟩
        rw [← hx] at hcell
        have c1 := cell_later hbel hcell
        have hl : k < (iv .u32 zs).length := by rw [iv_length]; omega
        have c2 := hrow.at_ (filled_at (iv .u32 zs) (.int .u32 0) k hl)
        have c3 := hrow.frozen k
        have hset := hrow.set k (.int .u32 x)
        rw [filled_set _ _ k hl _ (by rw [hx]; exact iv_at .u32 zs k (by omega))] at hset
        have HSET := Lib.hid hset
        have HB := Lib.hid hbel
        clear hset hbel hrow hcell hx
        go_wp2
        go_roundw
        case rel => exact ⟨k + 1, by omega, by go_num, HSET.out, HB.out.setCell (Nat.le_refl _) _, by simpa using HS.out⟩
        case measure => simp [intOf]; omega
      · have hkn : k = n := by omega
        subst hkn
        have HROW := Lib.hid hrow
        have HB := Lib.hid hbel
        clear hrow hbel
        go_wp2
        go_ret
        refine ⟨_, rfl, .inr ⟨by simp, rfl, ?_, HB.out, HS.out⟩⟩
        have h1 := HROW.out
        rwa [← hlen, ← iv_length .u32 zs, filled_all] at h1

/-- The key of the pair at i. -/
def kk (us vs : List Int) (i : Nat) : Nat := (us.getD i 0).toNat * 4294967296 + (vs.getD i 0).toNat
theorem kk_eq (us vs : List Int) (i j : Nat) (a1 : 0 ≤ us.getD i 0) (a2 : 0 ≤ us.getD j 0) (b1 : 0 ≤ vs.getD i 0 ∧ vs.getD i 0 ≤ 4294967295) (b2 : 0 ≤ vs.getD j 0 ∧ vs.getD j 0 ≤ 4294967295) : kk us vs i = kk us vs j ↔ us.getD i 0 = us.getD j 0 ∧ vs.getD i 0 = vs.getD j 0 := by
  unfold kk; omega
theorem min5 (a b : Nat) (w : World) (ha : a ≤ 4096) (hb : b ≤ 4096) : Calls Try.prog 5 #[.int .i64 (a : Int), .int .i64 (b : Int)] w fun e w' => e = .returned (.int .i64 ((min a b : Nat) : Int)) ∧ w = w' := by
  by_cases h : a < b
  · have t : decide ((a : Int) < (b : Int)) = true := by simp; omega
    have HM := Lib.hid (show min a b = a by omega)
    go_enter Try.func5, Try.ntmps5
    go_wp2_with fail
    go_ret
    exact ⟨by rw [HM.out]; rfl, rfl⟩
  · have t : decide ((a : Int) < (b : Int)) = false := by simp; omega
    have HM := Lib.hid (show min a b = b by omega)
    go_enter Try.func5, Try.ntmps5
    go_wp2_with fail
    go_ret
    exact ⟨by rw [HM.out]; rfl, rfl⟩
def small (n m : Nat) : Bool := decide (n ≤ 1048576) && decide (n + m ≤ 1048576)
theorem bytes4 (A B : Option Addr) (n c m d : Nat) (w : World) (hn : n ≤ maxLen) (hm : m ≤ maxLen) : Calls Try.prog 4 #[.slice A n c, .slice B m d] w fun e w' => e = .returned (.bool (small n m)) ∧ w = w' := by
  unfold maxLen at hn hm
  by_cases h1 : n ≤ 1048576
  · by_cases h2 : m ≤ 1048576
    · by_cases h3 : n + m ≤ 1048576
      · have HM := Lib.hid (show small n m = true by simp [small, h1, h3])
        go_enter Try.func4, Try.ntmps4
        go_wp2_with fail
        go_ret
        exact ⟨by rw [HM.out]; rfl, rfl⟩
      · have HM := Lib.hid (show small n m = false by simp [small]; omega)
        go_enter Try.func4, Try.ntmps4
        go_wp2_with fail
        go_ret
        exact ⟨by rw [HM.out]; rfl, rfl⟩
    · have HM := Lib.hid (show small n m = false by simp [small]; omega)
      go_enter Try.func4, Try.ntmps4
      go_wp2_with fail
      go_ret
      exact ⟨by rw [HM.out]; rfl, rfl⟩
  · have HM := Lib.hid (show small n m = false by simp [small]; omega)
    go_enter Try.func4, Try.ntmps4
    go_wp2_with fail
    go_ret
    exact ⟨by rw [HM.out]; rfl, rfl⟩
/-- The ranks as numbers. -/
def rks (K : Nat → Nat) (n : Nat) : List Int := (List.range n).map fun i => (rk K i : Int)
theorem rks_length (K : Nat → Nat) (n : Nat) : (rks K n).length = n := by simp [rks]
theorem rks_at (K : Nat → Nat) (n i : Nat) (h : i < n) : (iv .u32 (rks K n))[i]? = some (.int .u32 (rk K i : Int)) := by simp [rks, iv, h]
/-- The ranks' row, filled up to k. -/
def Rr (w : World) (K : Nat → Nat) (n k : Nat) (wr : World) : Prop := Row wr w.heap.size 28 (filled (iv .u32 (rks K n)) (.int .u32 0) k) ∧ Below w.heap.size w wr ∧ wr.heap.size = w.heap.size + 1
/-- What zzB2PairRanks leaves. -/
def Ranked (w : World) (K : Nat → Nat) (n : Nat) (e : Ending) (w' : World) : Prop :=
  e = .returned (.slice (some ⟨w.heap.size, 0, none⟩) n n) ∧ Row w' w.heap.size 28 (iv .u32 (rks K n)) ∧ Below w.heap.size w w'
theorem Rr.drewN {w wr : World} {K : Nat → Nat} {n k : Nat} (h : Rr w K n k wr) (m : Nat) : Rr w K n k (wr.drewN m) := ⟨h.1, h.2.1.trans ⟨rfl, rfl, rfl, Nat.le_refl _, fun _ _ => rfl⟩, h.2.2⟩
theorem Rr.next {w wr : World} {K : Nat → Nat} {n k : Nat} (h : Rr w K n k wr) (hk : k < n) : Rr w K n (k + 1) (wr.setCell ⟨w.heap.size, k, none⟩ (.int .u32 (rk K k : Int))) := by
  refine ⟨?_, h.2.1.setCell (Nat.le_refl _) _, by simpa using h.2.2⟩
  have := h.1.set k (.int .u32 (rk K k : Int))
  rwa [filled_set _ _ k (by rw [iv_length, rks_length]; exact hk) _ (rks_at K n k hk)] at this
theorem Rr.now {w wr : World} {K : Nat → Nat} {n k : Nat} (h : Rr w K n k wr) (hk : k < n) : wr.cell? ⟨w.heap.size, k, none⟩ = some (.int .u32 0) := h.1.at_ (filled_at _ _ k (by rw [iv_length, rks_length]; exact hk))
theorem Rr.old {w wr : World} {K : Nat → Nat} {n k j : Nat} (h : Rr w K n k wr) (hk : k ≤ n) (hj : j < k) : wr.cell? ⟨w.heap.size, j, none⟩ = some (.int .u32 (rk K j : Int)) := by
  refine h.1.at_ ?_
  unfold filled
  rw [List.getElem?_append_left (by rw [List.length_take, iv_length, rks_length]; omega), List.getElem?_take, if_pos hj]
  exact rks_at K n j (by omega)
def Ro (w : World) (K : Nat → Nat) (n : Nat) (s8 s9 : Value) (wr : World) : Prop :=
  ∃ (k : Nat) (wv : World), wv = wr ∧ k ≤ n ∧ s9 = .int .i64 (k : Int) ∧ s8 = .int .u32 ((F K k).2 : Int) ∧ Rr w K n k wr
def Ri (w : World) (K : Nat → Nat) (n k : Nat) (s10 s11 : Value) (wr : World) : Prop :=
  ∃ (j : Nat) (wv : World), wv = wr ∧ j ≤ k ∧ s10 = .int .i64 (-1) ∧ s11 = .int .i64 (j : Int) ∧ (∀ i, i < j → K i ≠ K k) ∧ Rr w K n k wr
set_option maxHeartbeats 4000000 in
set_option maxRecDepth 100000 in
theorem ranks9 (A B : Option Addr) (n0 c0 n1 c1 n : Nat) (us vs : List Int) (w : World) (h0 : Args.IsInts .u32 w A n0 c0 us) (h1 : Args.IsInts .u32 w B n1 c1 vs) (hn0 : n ≤ n0) (hn1 : n ≤ n1) (hn : n ≤ 4096) :
    Calls Try.prog 9 #[.slice A n0 c0, .slice B n1 c1, .int .i64 (n : Int)] w (Ranked w (kk us vs) n) := by
  have hmk := fun W => run_make_row' (P := Try.prog) 22 28 (.int .u32 0) 4 Try.underlying22 clone6_info rfl .i64 .i64 n (by omega) (by omega) W
  have wfA : ∀ k, k < n → 0 ≤ us.getD k 0 ∧ us.getD k 0 ≤ 4294967295 := fun k hk => by
    have := h0.wf_at k (by omega)
    simpa [Lit.wf, IntKind.min, IntKind.max, IntKind.bits, IntKind.signed] using this
  have wfB : ∀ k, k < n → 0 ≤ vs.getD k 0 ∧ vs.getD k 0 ≤ 4294967295 := fun k hk => by
    have := h1.wf_at k (by omega)
    simpa [Lit.wf, IntKind.min, IntKind.max, IntKind.bits, IntKind.signed] using this
  have R0 := Lib.hid (fun k => h0.read k)
  have R1 := Lib.hid (fun k => h1.read k)
  have WA := Lib.hid wfA
  have WB := Lib.hid wfB
  have HK := Lib.hid (fun (i j : Nat) (hi : i < n) (hj : j < n) => kk_eq us vs i j (wfA i hi).1 (wfA j hj).1 (wfB i hi) (wfB j hj))
  clear h0 h1 wfA wfB
  generalize hKK : kk us vs = K at *
  clear hKK
  go_enter Try.func9, Try.ntmps9
  go_wp2_with fail
  clear hmk
  go_loopw [8, 9] (fun s8 s9 wr => Ro w K n s8 s9 wr) (fun _ s9 _ => n - (intOf s9).toNat)
  case atStart =>
    refine ⟨0, _, rfl, Nat.zero_le _, rfl, rfl, ?_, (Below.refl _ _).alloc (Nat.le_refl _) _, by simp⟩
    rw [filled_zero, iv_length, rks_length]
    exact made_row w 28 (.int .u32 0) n
  case round =>
    obtain ⟨k, wk, rfl, hk, rfl, rfl, hrr⟩ := hrel
    by_cases hlt : k < n
    · have HRR := Lib.hid hrr
      have hF := F_le K k
      obtain ⟨cF, hcF⟩ : ∃ cF, (F K k).2 = cF := ⟨_, rfl⟩
      rw [hcF] at hF ⊢
      have HCF := Lib.hid hcF
      clear hrr hcF
      go_wp2_with fail
      go_loopw [10, 11] (fun s10 s11 wr => Ri w K n k s10 s11 wr) (fun _ s11 _ => k - (intOf s11).toNat)
      case atStart => exact ⟨0, _, rfl, Nat.zero_le _, rfl, rfl, fun i hi => by omega, HRR.out⟩
      case round =>
        obtain ⟨j, wj, rfl, hj, rfl, rfl, hno, hrj⟩ := hrel
        have HNO := Lib.hid hno
        have HRJ := Lib.hid hrj
        have HBJ := Lib.hid hrj.2.1
        clear hno hrj
        by_cases hjk : j < k
        · obtain ⟨b0, o0, ha0, hb0, hc0⟩ := R0.out j (by omega)
          obtain ⟨b0', o0', ha0', hb0', hc0'⟩ := R0.out k (by omega)
          obtain ⟨b1, o1, ha1, hb1, hc1⟩ := R1.out j (by omega)
          obtain ⟨b1', o1', ha1', hb1', hc1'⟩ := R1.out k (by omega)
          subst ha0
          injection ha0' with ha0'
          injection ha0' with e1 e2
          subst e1 e2
          subst ha1
          injection ha1' with ha1'
          injection ha1' with e1 e2
          subst e1 e2
          have d0 := cell_later HBJ.out hc0
          have d0' := cell_later HBJ.out hc0'
          have d1 := cell_later HBJ.out hc1
          have d1' := cell_later HBJ.out hc1'
          have hiff := HK.out j k (by omega) hlt
          obtain ⟨x0, hx0⟩ : ∃ x, us.getD j 0 = x := ⟨_, rfl⟩
          obtain ⟨x1, hx1⟩ : ∃ x, us.getD k 0 = x := ⟨_, rfl⟩
          obtain ⟨y0, hy0⟩ : ∃ x, vs.getD j 0 = x := ⟨_, rfl⟩
          obtain ⟨y1, hy1⟩ : ∃ x, vs.getD k 0 = x := ⟨_, rfl⟩
          rw [hx0] at d0 hiff
          rw [hx1] at d0' hiff
          rw [hy0] at d1 hiff
          rw [hy1] at d1' hiff
          have HIF := Lib.hid hiff
          clear hc0 hc0' hc1 hc1' hx0 hx1 hy0 hy1 hiff
          have jl0 : j < n0 := by omega
          have kl0 : k < n0 := by omega
          have jl1 : j < n1 := by omega
          have kl1 : k < n1 := by omega
          by_cases hx : x0 = x1
          · subst hx
            have tx : (x0 == x0) = true := by simp
            by_cases hy : y0 = y1
            · subst hy
              have ty : (y0 == y0) = true := by simp
              obtain ⟨q1, q2⟩ := rk_eq hjk (HIF.out.2 ⟨rfl, rfl⟩)
              have HQ1 := Lib.hid q1
              have HQ2 := Lib.hid q2
              have z0 := HRJ.out.old (by omega) hjk
              have z1 := HRJ.out.now hlt
              have z2 := HRJ.out.1.frozen k
              obtain ⟨rj, hrj⟩ : ∃ r, rk K j = r := ⟨_, rfl⟩
              rw [hrj] at z0
              have HRK := Lib.hid hrj
              clear q1 q2 hrj
              go_wp2_with fail
              go_quiet (fail)
              go_wp2_with fail
              have hnx := (HRJ.out.drewN nq).next hlt
              rw [HQ1.out, HRK.out] at hnx
              exact ⟨⟨k + 1, _, rfl, hlt, by go_num, by rw [HQ2.out, HCF.out], hnx⟩, by simp [intOf]; omega⟩
            · have ty : (y0 == y1) = false := by simpa using hy
              have hne : K j ≠ K k := fun e => by have := HIF.out.1 e; exact hy this.2
              have HN2 := Lib.hid (show ∀ i, i < j + 1 → K i ≠ K k from fun i hi => by
                rcases Nat.lt_or_ge i j with h | h
                · exact HNO.out i h
                · obtain rfl : i = j := by omega
                  exact hne)
              clear hne
              go_wp2_with fail
              go_quiet (fail)
              go_wp2_with fail
              go_roundw
              case rel => first | exact ⟨j + 1, _, rfl, by omega, rfl, by go_num, HN2.out, HRJ.out.drewN _⟩ | ((repeat apply Exists.intro); exact ⟨⟨j + 1, _, rfl, by omega, rfl, by go_num, HN2.out, HRJ.out.drewN _⟩, rfl⟩)
              case measure => simp [intOf]; omega
          · have tx : (x0 == x1) = false := by simpa using hx
            have hne : K j ≠ K k := fun e => by have := HIF.out.1 e; exact hx this.1
            have HN2 := Lib.hid (show ∀ i, i < j + 1 → K i ≠ K k from fun i hi => by
              rcases Nat.lt_or_ge i j with h | h
              · exact HNO.out i h
              · obtain rfl : i = j := by omega
                exact hne)
            clear hne
            go_wp2_with fail
            go_quiet (fail)
            go_wp2_with fail
            go_roundw
            case rel => first | exact ⟨j + 1, _, rfl, by omega, rfl, by go_num, HN2.out, HRJ.out.drewN _⟩ | ((repeat apply Exists.intro); exact ⟨⟨j + 1, _, rfl, by omega, rfl, by go_num, HN2.out, HRJ.out.drewN _⟩, rfl⟩)
            case measure => simp [intOf]; omega
        · obtain rfl : j = k := by omega
          obtain ⟨q1, q2⟩ := rk_new HNO.out
          rw [HCF.out] at q1 q2
          have HQ1 := Lib.hid q1
          have HQ2 := Lib.hid q2
          have z1 := HRJ.out.now hlt
          have z2 := HRJ.out.1.frozen j
          clear q1 q2
          go_wp2_with fail
          have hnx := HRJ.out.next hlt
          rw [HQ1.out] at hnx
          exact ⟨⟨j + 1, _, rfl, hlt, by go_num, by rw [HQ2.out]; go_num, hnx⟩, by simp [intOf]; omega⟩
    · obtain rfl : k = n := by omega
      have HRR := Lib.hid hrr
      clear hrr
      go_wp2_with fail
      go_ret
      refine ⟨rfl, ?_, HRR.out.2.1⟩
      have h := HRR.out.1
      have e : filled (iv .u32 (rks K k)) (.int .u32 0) k = iv .u32 (rks K k) := by
        have := filled_all (iv .u32 (rks K k)) (.int .u32 0)
        rwa [iv_length, rks_length] at this
      rwa [e] at h
end Go.Proofs.Ytdajemigdciphac.GlD
