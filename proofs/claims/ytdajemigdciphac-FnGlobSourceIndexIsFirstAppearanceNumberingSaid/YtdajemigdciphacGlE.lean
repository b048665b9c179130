/- FnGlobSourceIndexIsFirstAppearanceNumbering: the law. -/
import Derived.Test.YtdajemigdciphacRows
import Derived.Test.YtdajemigdciphacMem
import Derived.Test.YtdajemigdciphacSl
import Derived.Test.YtdajemigdciphacGlC
import Derived.Test.YtdajemigdciphacGlD
import Derived.Deep.RegionHeld3
import Derived.Deep.RegionLaw
import Derived.WalkKit
import Derived.ProofKit
import Derived.OpenShut
import Derived.Below
import Derived.WalkLawsBesides
import Derived.Lib.Hide
import Derived.Outline
import Derived.RegionTactic
import Derived.Deep.QuietTactic
import Derived.BigQuiet
import Derived.WalkSpells
import Derived.Deep.OwnRows
import Derived.IntWalk
import Derived.Deep.DeepMust
namespace Go.Proofs.Ytdajemigdciphac.GlE
open Go.RowKit Mem Sl
set_option linter.unusedVariables false
open Map Locks Go.MapKept GlA GlB GlC GlD Rank

theorem cloned_ints {w w1 : World} {A : Option Addr} {n c : Nat} {zs : List Int} {e : Ending} (h : Args.IsInts .u32 w A n c zs) (hn : n ≤ 4096) (hc : Cloned .u32 28 w A n zs e w1) :
    ∃ A', e = .returned (.slice A' n n) ∧ Args.IsInts .u32 w1 A' n n zs ∧ Below w.heap.size w w1 := by
  obtain ⟨v, rfl, ⟨rfl, rfl, rfl⟩ | ⟨_, rfl, hrow, hb, _⟩⟩ := hc
  · have hc0 := h.2.2.2.2.1 rfl
    have hn0 : n = 0 := by have := h.1; omega
    subst hn0
    subst hc0
    exact ⟨none, rfl, h, Below.refl _ _⟩
  · have hl := h.2.2.1
    subst hl
    exact ⟨_, rfl, ints_of_row hrow (by unfold maxLen; omega) h.2.2.2.1, hb⟩
/-- The map of globs and the numbering agree. -/
def Mp (f : Value → Option Value) (K : Nat → Nat) (k : Nat) : Prop :=
  (∀ m : Nat, f (.int .u64 (m : Int)) = ((F K k).1 m).map fun x => .int .u32 ((x + 1 : Nat) : Int)) ∧ ∀ v x, f v = some x → ∃ r : Nat, x = .int .u32 (r : Int) ∧ r < (F K k).2 + 1
theorem mp_step {w w' : World} {q g n k r a b : Nat} {f : Value → Option Value} {K : Nat → Nat} (hM : Mp f K k) (hk : a * 4294967296 + b = K k) (h : Idx w q g n ((F K k).2 + 1) f (ky a b) r w') :
    r = rk K k + 1 ∧ ∃ n' f', Cac w' q g n' ((F K (k + 1)).2 + 1) f' ∧ Mp f' K (k + 1) := by
  have hky : ky a b = .int .u64 ((K k : Nat) : Int) := by unfold ky; rw [hk]
  rw [hky] at h
  have h0 := hM.1 (K k)
  rcases h with ⟨h1, h2⟩ | ⟨h1, h2, h3⟩
  · rw [h1] at h0
    cases hF : (F K k).1 (K k) with
    | none => rw [hF] at h0; cases h0
    | some x =>
      rw [hF] at h0
      simp only [Option.map_some, Option.some.injEq, Value.int.injEq, true_and] at h0
      refine ⟨by rw [rk_hit hF]; omega, n, f, by rw [F_hit hF]; exact h2, ?_⟩
      unfold Mp
      rw [F_hit hF]
      exact hM
  · rw [h1] at h0
    cases hF : (F K k).1 (K k) with
    | some x => rw [hF] at h0; cases h0
    | none =>
      refine ⟨by rw [rk_miss hF]; omega, n + 1, _, by rw [F_miss hF]; exact h3, ?_⟩
      unfold Mp
      rw [F_miss hF]
      refine ⟨fun m => ?_, fun v x hv => ?_⟩
      · simp only
        by_cases hm : m = K k
        · subst hm
          rw [put_self, if_pos rfl]; rfl
        · rw [put_other _ _ (by intro e; injection e with _ e; omega), if_neg hm]
          exact hM.1 m
      · simp only
        by_cases hv' : v = .int .u64 ((K k : Nat) : Int)
        · subst hv'
          rw [put_self] at hv
          injection hv with hv
          exact ⟨_, hv.symm, by omega⟩
        · rw [put_other _ _ hv'] at hv
          obtain ⟨r', e, hr⟩ := hM.2 v x hv
          exact ⟨r', e, by omega⟩
/-- The answers. -/
def gots (K : Nat → Nat) (n : Nat) : List Int := (List.range n).map fun i => ((rk K i + 1 : Nat) : Int)
theorem gots_length (K : Nat → Nat) (n : Nat) : (gots K n).length = n := by simp [gots]
theorem gots_at (K : Nat → Nat) (n i : Nat) (h : i < n) : (iv .u32 (gots K n))[i]? = some (.int .u32 ((rk K i + 1 : Nat) : Int)) := by simp [gots, iv, h]
/-- The loop over the script. -/
def R1 (w2 : World) (p q g g0 : Nat) (K : Nat → Nat) (n : Nat) (s8 : Value) (wr : World) : Prop :=
  ∃ (k nm nr cr : Nat) (f : Value → Option Value) (rv : Value) (wv : World), wv = wr ∧ k ≤ n ∧ s8 = .int .i64 (k : Int) ∧ Row wr g0 28 (filled (iv .u32 (gots K n)) (.int .u32 0) k) ∧ Sca wr p q rv ∧ Cac wr q g nm ((F K k).2 + 1) f ∧ Mp f K k ∧ Res wr rv nr cr ∧ Below w2.heap.size w2 wr
theorem sca_kept {w w' : World} {p q : Nat} {rv : Value} (h : Sca w p q rv) (hp : w'.heap[p]? = w.heap[p]?) : Sca w' p q rv := by
  obtain ⟨⟨ys, h1, h2⟩⟩ := h
  exact ⟨⟨ys, hp.trans h1, h2⟩⟩
theorem cac_kept {w w' : World} {q g n nx : Nat} {f : Value → Option Value} (h : Cac w q g n nx f) (hq : w'.heap[q]? = w.heap[q]?) (hg : w'.heap[g]? = w.heap[g]?) : Cac w' q g n nx f := by
  obtain ⟨⟨xs, h1, h2⟩, ⟨es, c, h3, h4⟩⟩ := h
  exact ⟨⟨xs, hq.trans h1, h2⟩, ⟨es, c, hg.trans h3, h4⟩⟩
theorem row_ne {w : World} {p q g g0 nm nx : Nat} {rv : Value} {xs : List Value} {f : Value → Option Value} (hr : Row w g0 28 xs) (hS : Sca w p q rv) (hC : Cac w q g nm nx f) : g0 ≠ p ∧ g0 ≠ q ∧ g0 ≠ g := by
  obtain ⟨⟨ys, h1, h2⟩⟩ := hS
  obtain ⟨⟨xs', h3, h4⟩, ⟨es, c, h5, h6⟩⟩ := hC
  refine ⟨hr.ne_ h1 (by decide), hr.ne_ h3 (by decide), ?_⟩
  rintro rfl
  unfold Row at hr
  rw [h5] at hr
  cases hr
set_option maxHeartbeats 4000000 in
set_option maxRecDepth 100000 in
theorem law_go (A0 A1 : Option Addr) (n0 c0 n1 c1 : Nat) (us vs : List Int) (w : World) (h0 : Args.IsInts .u32 w A0 n0 c0 us) (h1 : Args.IsInts .u32 w A1 n1 c1 vs) (hn0 : n0 ≤ 4096) (hn1 : n1 ≤ 4096) (n : Nat) (hnm : n = min n0 n1) (hn : 0 < n) :
    Calls Try.prog 3 #[.slice A0 n0 c0, .slice A1 n1 c1] w fun e w' => e = .returned (.bool true) ∧ Below w.heap.size w w' := by
  have K4 := Lib.hid (bytes4 A0 A1 n0 c0 n1 c1 w (by unfold maxLen; omega) (by unfold maxLen; omega))
  rw [show small n0 n1 = true by simp [small]; omega] at K4
  have K5 := Lib.hid (min5 n0 n1 w hn0 hn1)
  rw [← hnm] at K5
  have hl0 : n ≤ n0 := by omega
  have hl1 : n ≤ n1 := by omega
  have H0 := Lib.hid h0
  have H1 := Lib.hid h1
  have hmk := fun W => run_make_row' (P := Try.prog) 22 28 (.int .u32 0) 4 Try.underlying22 clone6_info rfl .i64 .i64 n (by omega) (by omega) W
  have tz : ((n : Int) == 0) = false := by simp; omega
  clear h0 h1 hnm
  go_enter Try.func3, Try.ntmps3
  go_wp2_with fail
  refine K4.out.mono ?_
  rintro e w' ⟨rfl, rfl⟩
  go_wp2_with fail
  refine K5.out.mono ?_
  rintro e w' ⟨rfl, rfl⟩
  go_wp2_with fail
  refine (clone6 A0 n0 c0 us w H0.out hn0).mono ?_
  intro e w1 hcl
  obtain ⟨B0, rfl, i0, b1⟩ := cloned_ints H0.out hn0 hcl
  have I0 := Lib.hid i0
  have B1 := Lib.hid b1
  have J1 := Lib.hid (H1.out.later b1)
  clear hcl i0 b1 K4 K5
  go_wp2_with fail
  refine (clone6 A1 n1 c1 vs w1 J1.out hn1).mono ?_
  intro e w2 hcl
  obtain ⟨B1', rfl, i1, b2⟩ := cloned_ints J1.out hn1 hcl
  have I1 := Lib.hid i1
  have I0' := Lib.hid (I0.out.later b2)
  have B2 := Lib.hid (B1.out.trans (b2.mono B1.out.size))
  clear hcl i1 b2 I0 J1 B1 H0 H1
  go_wp2_with fail
  refine (new7 w2).mono ?_
  rintro e w3 ⟨p, q, g, hp, hq, hg, rfl, hS, hC, hB⟩
  have HS := Lib.hid hS
  have HC := Lib.hid hC
  have HB := Lib.hid hB
  have hw23 := hB.size
  have wfA : ∀ k, k < n → 0 ≤ us.getD k 0 ∧ us.getD k 0 ≤ 4294967295 := fun k hk => by
    have := I0'.out.wf_at k (by omega)
    simpa [Lit.wf, IntKind.min, IntKind.max, IntKind.bits, IntKind.signed] using this
  have wfB : ∀ k, k < n → 0 ≤ vs.getD k 0 ∧ vs.getD k 0 ≤ 4294967295 := fun k hk => by
    have := I1.out.wf_at k (by omega)
    simpa [Lit.wf, IntKind.min, IntKind.max, IntKind.bits, IntKind.signed] using this
  have WA := Lib.hid wfA
  have WB := Lib.hid wfB
  have HKK := Lib.hid (fun (k : Nat) => show kk us vs k = (us.getD k 0).toNat * 4294967296 + (vs.getD k 0).toNat from rfl)
  have K9 := Lib.hid (fun (W : World) (hW : Below w2.heap.size w2 W) => ranks9 B0 B1' n0 n0 n1 n1 n us vs W (I0'.out.later hW) (I1.out.later hW) hl0 hl1 (by omega))
  have RD0 := Lib.hid (fun (W : World) (hW : Below w2.heap.size w2 W) k (hk : k < n) => (I0'.out.later hW).read k (by omega))
  have RD1 := Lib.hid (fun (W : World) (hW : Below w2.heap.size w2 W) k (hk : k < n) => (I1.out.later hW).read k (by omega))
  generalize hKK : kk us vs = K at *
  clear hKK hS hC hB wfA wfB
  have HROW := Lib.hid (made_row w3 28 (.int .u32 0) n)
  have HC3 := Lib.hid (cac_alloc HC.out (.cells (madeCells #[.int .u32 0] n) 28))
  have HS3 : Hid (Sca (w3.alloc (.cells (madeCells #[.int .u32 0] n) 28)) p q (.slice none 0 0)) := by
    obtain ⟨⟨ys, h1, h2⟩⟩ := HS.out
    exact Lib.hid ⟨⟨ys, h1.alloc _, h2⟩⟩
  have HB3 := Lib.hid (HB.out.alloc HB.out.size (.cells (madeCells #[.int .u32 0] n) 28))
  go_wp2_with fail
  clear hmk
  go_loopw [8] (fun s8 wr => R1 w2 p q g w3.heap.size K n s8 wr) (fun s8 _ => n - (intOf s8).toNat)
  case atStart =>
    refine ⟨0, 0, 0, 0, fun _ => none, .slice none 0 0, _, rfl, Nat.zero_le _, rfl, ?_, HS3.out, HC3.out, ⟨fun m => rfl, fun v x h => by cases h⟩, ⟨Nat.le_refl _, Nat.zero_le _, .inl ⟨rfl, rfl, rfl⟩⟩, HB3.out⟩
    rw [filled_zero, iv_length, gots_length]
    exact HROW.out
  case round =>
    obtain ⟨k, nm, nr, cr, f, rv, wk, rfl, hk, rfl, hrow, hS, hC, hM, hR, hB⟩ := hrel
    have HS' := Lib.hid hS
    have HC' := Lib.hid hC
    have HM' := Lib.hid hM
    have HR' := Lib.hid hR
    have HB' := Lib.hid hB
    have HW' := Lib.hid hrow
    clear hS hC hM hR hB hrow HC3 HS3 HROW HB3 HS HC
    by_cases hlt : k < n
    · obtain ⟨b0, o0, ha0, hb0, d0⟩ := RD0.out wk HB'.out k hlt
      obtain ⟨b1, o1, ha1, hb1, d1⟩ := RD1.out wk HB'.out k hlt
      subst ha0 ha1
      obtain ⟨x, hx⟩ : ∃ x : Nat, us.getD k 0 = (x : Int) := ⟨(us.getD k 0).toNat, by have := WA.out k hlt; omega⟩
      obtain ⟨y, hy⟩ : ∃ y : Nat, vs.getD k 0 = (y : Int) := ⟨(vs.getD k 0).toNat, by have := WB.out k hlt; omega⟩
      have hxl : x < 4294967296 := by have := WA.out k hlt; omega
      have hyl : y < 4294967296 := by have := WB.out k hlt; omega
      have hkey : x * 4294967296 + y = K k := by have := HKK.out k; rw [hx, hy] at this; rw [this]; simp
      rw [hx] at d0
      rw [hy] at d1
      have HKEY := Lib.hid hkey
      clear hkey hx hy
      have hFl := F_le K k
      have K8 := Lib.hid (al8 wk.drew p x y _ (fun e w' h => by obtain ⟨r, rv, nr, cr, he, _⟩ := h; exact ⟨r, he⟩) (al11 wk.drew p q g nm ((F K k).2 + 1) x y nr cr rv f (sca_kept HS'.out rfl) (cac_kept HC'.out rfl rfl) (HR'.out.kept (fun _ _ _ _ => rfl)) hxl hyl (by omega) HM'.out.2))
      obtain ⟨ne1, ne2, ne3⟩ := row_ne HW'.out HS'.out HC'.out
      have NE := Lib.hid (And.intro ne1 (And.intro ne2 ne3))
      clear ne1 ne2 ne3
      have kl0 : k < n0 := by omega
      have kl1 : k < n1 := by omega
      go_wp2_with fail
      go_region_with (go_at_call 8; refine K8.out.mono ?_; rintro e w4 ⟨r, rv4, nr4, cr4, rfl, hidx, hS4, hR4, hF4⟩; obtain ⟨hr4, nm4, f4, hC4, hM4⟩ := mp_step HM'.out HKEY.out hidx; have hw4 : Row w4 w3.heap.size 28 (filled (iv .u32 (gots K n)) (.int .u32 0) k) := (hF4.block w3.heap.size HW'.out.lt NE.out.1 NE.out.2.1 NE.out.2.2).trans HW'.out; have z1 := hw4.at_ (filled_at (iv .u32 (gots K n)) (.int .u32 0) k (by rw [iv_length, gots_length]; exact hlt)); have z2 := hw4.frozen k; have HR4 := Lib.hid hr4; have HX4 := Lib.hid (And.intro hS4 (And.intro hC4 (And.intro hM4 (And.intro hR4 (And.intro hF4 hw4))))); clear hidx hS4 hR4 hF4 hr4 hC4 hM4 hw4)
      all_goals
        go_wp2_with fail
        obtain ⟨hS4, hC4, hM4, hR4, hF4, hw4⟩ := HX4.out
        have hrw := hw4.set k (.int .u32 (r : Int))
        rw [filled_set _ _ k (by rw [iv_length, gots_length]; exact hlt) _ (by rw [HR4.out]; exact gots_at K n k hlt)] at hrw
        refine ⟨⟨k + 1, nm4, nr4, cr4, f4, rv4, _, rfl, hlt, by go_num, hrw, sca_kept hS4 (Below.heap_setCell _ _ _ _ (Ne.symm NE.out.1)), cac_kept hC4 (Below.heap_setCell _ _ _ _ (Ne.symm NE.out.2.1)) (Below.heap_setCell _ _ _ _ (Ne.symm NE.out.2.2)), hM4, hR4.kept (fun g' cs _ hh => Below.heap_setCell _ _ _ _ (by
          rintro rfl
          unfold Row at hw4
          rw [hh] at hw4
          cases hw4)), ((HB'.out.drew).trans (hF4.below hp hq hg HB'.out.size)).setCell hw23 _⟩, by simp [intOf]; omega⟩
    · obtain rfl : k = n := by omega
      have hrk0 : rk K 0 = 0 := by have := (rk_lt K 0).1; omega
      have hgot : Row wk w3.heap.size 28 (iv .u32 (gots K k)) := by
        have h := HW'.out
        have e : filled (iv .u32 (gots K k)) (.int .u32 0) k = iv .u32 (gots K k) := by
          have := filled_all (iv .u32 (gots K k)) (.int .u32 0)
          rwa [iv_length, gots_length] at this
        rwa [e] at h
      have HG := Lib.hid hgot
      have HRK0 := Lib.hid hrk0
      have hb3 := hgot.lt
      clear hgot hrk0 HW'
      go_wp2_with fail
      refine (K9.out wk HB'.out).mono ?_
      rintro e w5 ⟨rfl, hr5, hb5⟩
      have HR5 := Lib.hid hr5
      have HG5 := Lib.hid (HG.out.below hb5 hb3)
      have z0 : w5.cell? ⟨w3.heap.size, 0, none⟩ = some (.int .u32 1) := by
        have := HG5.out.at_ (gots_at K k 0 hn)
        rwa [HRK0.out] at this
      have HFIN := Lib.hid (B2.out.trans ((HB'.out.trans (hb5.mono HB'.out.size)).mono B2.out.size))
      clear hr5 hb5
      go_wp2_with fail
      go_loopw [11] (fun s11 wr => ∃ (i m : Nat), i ≤ k ∧ s11 = .int .i64 (i : Int) ∧ wr = w5.drewN m) (fun s11 _ => k - (intOf s11).toNat)
      case atStart => exact ⟨0, 0, Nat.zero_le _, rfl, rfl⟩
      case round =>
        obtain ⟨i, m, hi, rfl, rfl⟩ := hrel
        by_cases hlt2 : i < k
        · have y0 := HG5.out.at_ (gots_at K k i hlt2)
          have y1 := HR5.out.at_ (rks_at K k i hlt2)
          have hrl := (rk_lt K i).1
          generalize rk K i = x at *
          have tw : IntKind.u32.wrap (1 + (x : Int)) = 1 + (x : Int) := by
            unfold IntKind.wrap
            simp [IntKind.bits, IntKind.signed]
            omega
          have tne : (((x + 1 : Nat) : Int) != 1 + (x : Int)) = false := by simp; omega
          have tne' : ((x : Int) + 1 != 1 + (x : Int)) = false := by simp; omega
          go_wp2_with fail
          go_quiet (fail)
          clear tw tne tne'
          go_wp2_with fail
          go_roundw
          case rel => exact ⟨i + 1, m + nq, by omega, by go_num, by simp⟩
          case measure => simp [intOf]; omega
        · go_wp2_with fail
          go_ret
          exact ⟨rfl, HFIN.out.trans ⟨rfl, rfl, rfl, Nat.le_refl _, fun _ _ => rfl⟩⟩
theorem law (A0 : Option Addr) (n0 c0 : Nat) (z0 : List Int) (A1 : Option Addr) (n1 c1 : Nat) (z1 : List Int) (w : World) (w0 : Args.IsInts .u32 w A0 n0 c0 z0) (w1 : Args.IsInts .u32 w A1 n1 c1 z1) :
    Calls Try.prog 3 #[.slice A0 n0 c0, .slice A1 n1 c1] w fun e w' => e = .returned (.bool true) ∧ Below w.heap.size w w' := by
  have hm0 : n0 ≤ maxLen := Nat.le_trans w0.1 w0.2.1
  have hm1 : n1 ≤ maxLen := Nat.le_trans w1.1 w1.2.1
  have K4 := Lib.hid (bytes4 A0 A1 n0 c0 n1 c1 w hm0 hm1)
  by_cases hs : small n0 n1 = true
  · rw [hs] at K4
    have hs1 : n0 ≤ 1048576 ∧ n0 + n1 ≤ 1048576 := by simpa [small] using hs
    obtain ⟨hs1, hs2⟩ := hs1
    by_cases hb : n0 ≤ 4096 ∧ n1 ≤ 4096
    · obtain ⟨hb0, hb1⟩ := hb
      by_cases hz : min n0 n1 = 0
      · have K5 := Lib.hid (min5 n0 n1 w hb0 hb1)
        rw [hz] at K5
        clear hs hz w0 w1 hm0 hm1
        go_enter Try.func3, Try.ntmps3
        go_wp2_with fail
        refine K4.out.mono ?_
        rintro e w' ⟨rfl, rfl⟩
        go_wp2_with fail
        refine K5.out.mono ?_
        rintro e w' ⟨rfl, rfl⟩
        go_wp2_with fail
        go_ret
        exact ⟨rfl, Below.refl _ _⟩
      · exact law_go A0 A1 n0 c0 n1 c1 z0 z1 w w0 w1 hb0 hb1 _ rfl (by omega)
    · have hor : 4096 < n0 ∨ (n0 ≤ 4096 ∧ 4096 < n1) := by omega
      clear hs w0 w1 hm0 hm1 hb
      rcases hor with h | ⟨h, h'⟩
      all_goals
        go_enter Try.func3, Try.ntmps3
        go_wp2_with fail
        refine K4.out.mono ?_
        rintro e w' ⟨rfl, rfl⟩
        go_wp2_with fail
        go_ret
        exact ⟨rfl, Below.refl _ _⟩
  · rw [show small n0 n1 = false by simpa using hs] at K4
    clear hs w0 w1 hm0 hm1
    go_enter Try.func3, Try.ntmps3
    go_wp2_with fail
    refine K4.out.mono ?_
    rintro e w' ⟨rfl, rfl⟩
    go_wp2_with fail
    go_ret
    exact ⟨rfl, Below.refl _ _⟩
end Go.Proofs.Ytdajemigdciphac.GlE
