/- FnSortedCrossChunkImportsOrderFree: breakPatterns over any state. -/
import Derived.Test.YtfcpjckecjjmjaaSoA
import Derived.Sort.Walk7
import Derived.Shelf.SlSortFunc.Xorshift
import Derived.Shelf.GgSortMore.Bridge
import Derived.WalkKit
import Derived.ProofKit
import Derived.OpenShut
import Derived.Below
import Derived.WalkLawsBesides
import Derived.Lib.Hide
import Derived.Outline
import Derived.RegionTactic
import Derived.Deep.QuietTactic
import Derived.BigQuiet
import Derived.WalkSpells
import Derived.Deep.OwnRows
import Derived.IntWalk
import Derived.Deep.DeepMust
namespace Go.Proofs.Ytfcpjckecjjmjaa.SoB
open Go.RowKit Go.Sort Go.Shelf Go.Lib SoA
set_option linter.unusedVariables false

/-- The cell of block cb holds v. -/
def Cv (cb : Nat) (v : Value) (W : World) : Prop := W.cell? ⟨cb, 0, none⟩ = some v ∧ W.frozen? ⟨cb, 0, none⟩ = false
theorem Cv.lt {cb : Nat} {v : Value} {W : World} (h : Cv cb v W) : cb < W.heap.size := by
  refine Nat.lt_of_not_le fun hle => ?_
  have := h.1
  simp only [World.cell?, Array.getElem?_eq_none hle] at this
  simp at this
theorem Cv.ab {cb base : Nat} {v : Value} {W W' : World} (h : Cv cb v W) (ha : Ab base W W') (hb : base ≤ cb) : Cv cb v W' := by
  have e := ha.2 cb hb h.lt
  refine ⟨?_, ?_⟩
  · rw [World.cell?_of_block (w := W) (a := ⟨cb, 0, none⟩) e]; exact h.1
  · rw [World.frozen?_of_block (w := W) (a := ⟨cb, 0, none⟩) e]; exact h.2
section
variable {P : Program} {ρ : Ren} {α : Type} [Inhabited α] {T : TypeId} {rv : Value} {gl gs : Nat} {lt : α → α → Bool} {n base : Nat} {S : World → Array α → Prop}
theorem Ifc.swapC (I : Ifc P T rv gl gs lt n base S) (x y : Int) (W : World) (d : Array α) (i j cb : Nat) (v : Value) (hS : S W d) (hC : Cv cb v W) (hx : x = (i : Int)) (hy : y = (j : Int)) (hi : i < n) (hj : j < n) (hb : base ≤ cb) :
    Calls P gs #[rv, .int .i64 x, .int .i64 y] W fun e w' => e = .returned (.tuple #[]) ∧ S w' (swp d i j) ∧ Cv cb v w' := by
  subst hx; subst hy
  exact (I.swapA W d i j hS hi hj).mono fun _ _ ⟨he, hs, ha⟩ => ⟨he, hs, hC.ab ha hb⟩
theorem Ifc.next (I : Ifc P T rv gl gs lt n base S) (L : LaysGt.n45 P ρ) (W : World) (d : Array α) (cb R : Nat) (hR : R < 18446744073709551616) (hS : S W d) (hC : Cv cb (.int .u64 (R : Int)) W) (hb : base ≤ cb) :
    Calls P (ρ.f 45) #[.pointer (some ⟨cb, 0, none⟩)] W fun e w' => e = .returned (.int .u64 (xorNextN R : Int)) ∧ S w' d ∧ Cv cb (.int .u64 (xorNextN R : Int)) w' := by
  refine (Any.xorshift_Next (LaysGt.n45.elder (P := P) (ρ := ρ) L) _ _ R hR W hC.1 hC.2).mono ?_
  rintro e w' ⟨rfl, rfl⟩
  refine ⟨rfl, I.later _ _ _ hS ?_, ?_, ?_⟩
  · exact ((Below.refl base W).setCell (p := ⟨cb, 0, none⟩) hb _).trans ⟨rfl, rfl, rfl, Nat.le_refl _, fun _ _ => rfl⟩
  · rw [World.cell?_drewN]; exact World.cell?_setCell_same _ _ _ hC.1
  · rw [World.frozen?_drewN]; simpa using hC.2
set_option maxRecDepth 100000 in
set_option maxHeartbeats 4000000 in
theorem brk_go (L' : LaysGt.n35 P ρ) (I : Ifc P T rv gl gs lt n base S) (hn : n ≤ 1048576) (W : World) (d : Array α) (a L : Nat) (hS : S W d) (hb : a + L ≤ n) (h8 : 8 ≤ L) :
    Calls P (ρ.f 35) #[.iface T rv, .int .i64 a, .int .i64 ((a + L : Nat) : Int)] W fun e w' => e = .returned (.tuple #[]) ∧ S w' (breakPatterns d a (a + L)) := by
  have HI := Lib.hid I
  have HB := Lib.hid (I.has _ _ hS)
  have S0 := Lib.hid (I.later _ (W.alloc (.cells #[.int .u64 (L : Int)] (ρ.t 67))) _ hS ((Below.refl base W).alloc (I.has _ _ hS) _))
  have mS := I.mS
  have eS := I.eS
  have hNext0 := Lib.hid (fun W' dk (cb R : Nat) => Ifc.next (P := P) (ρ := ρ) I { L' with } W' dk cb R)
  clear I hS
  have mixed := L'.mixed; have t0 := L'.t0; have a0 := L'.a0; have z0 := L'.z0; have v0 := L'.v0; have t3 := L'.t3; have a3 := L'.a3; have z3 := L'.z3; have v3 := L'.v3; have t4 := L'.t4; have a4 := L'.a4; have z4 := L'.z4; have v4 := L'.v4; have t5 := L'.t5; have a5 := L'.a5; have z5 := L'.z5; have v5 := L'.v5; have t9 := L'.t9; have a9 := L'.a9; have z9 := L'.z9; have v9 := L'.v9; have t26 := L'.t26; have a26 := L'.a26; have z26 := L'.z26; have v26 := L'.v26; have t38 := L'.t38; have a38 := L'.a38; have z38 := L'.z38; have v38 := L'.v38; have t43 := L'.t43; have a43 := L'.a43; have z43 := L'.z43; have v43 := L'.v43; have t45 := L'.t45; have a45 := L'.a45; have z45 := L'.z45; have v45 := L'.v45; have t47 := L'.t47; have a47 := L'.a47; have z47 := L'.z47; have v47 := L'.v47; have t56 := L'.t56; have a56 := L'.a56; have z56 := L'.z56; have v56 := L'.v56; have t58 := L'.t58; have a58 := L'.a58; have z58 := L'.z58; have v58 := L'.v58; have t67 := L'.t67; have a67 := L'.a67; have z67 := L'.z67; have v67 := L'.v67; have t73 := L'.t73; have a73 := L'.a73; have z73 := L'.z73; have v73 := L'.v73
  have e44 : ∀ args w, (callFunc (ρ.f 44) args).run P w = .ok (.enter (ρ.f 44) args) w := enters_of L'.f44 (by kernel_rfl) rfl
  have e45 : ∀ args w, (callFunc (ρ.f 45) args).run P w = .ok (.enter (ρ.f 45) args) w := enters_of L'.f45 (by kernel_rfl) rfl
  rw [breakPatterns_eq d a L h8]
  obtain ⟨M, hM⟩ : ∃ M : Nat, M = 1 <<< bitsLen L := ⟨_, rfl⟩
  have hM1 : 1 ≤ M := by rw [hM, Nat.one_shiftLeft]; exact Nat.two_pow_pos _
  have hM2 : M ≤ 2 * L := by rw [hM, Nat.one_shiftLeft]; exact two_pow_bitsLen_le (by omega)
  have hNP : ∀ w, Calls P (ρ.f 44) #[.int .i64 (L : Int)] w fun e w' => e = .returned (.int .u64 (M : Int)) ∧ w' = w := by rw [hM]; exact fun w => Any.nextPowerOfTwo (LaysGt.n44.elder (P := P) (ρ := ρ) { L' with }) L (by omega) w
  rw [← hM]
  clear hM
  have hLz : ((a : Int) + (L : Int) - (a : Int)) = (L : Int) := by omega
  have h8z : (8 : Int) ≤ (L : Int) := by omega
  have CB := Lib.hid (show ∀ cb, cb = W.heap.size → Cv cb (.int .u64 (L : Int)) (W.alloc (.cells #[.int .u64 (L : Int)] (ρ.t 67))) from by
    rintro cb rfl
    exact ⟨by rw [World.cell?_alloc_at _ _ _ _ rfl]; rfl, World.frozen?_alloc_at _ _ _ _ rfl⟩)
  go_enter L'.f35, BodyGt.n35_ntmps ρ
  go_wp2_with (first | (go_at_fn (ρ.f 44); refine (hNP _).mono ?_; rintro e w' ⟨rfl, rfl⟩))
  obtain ⟨cb, hcb⟩ : ∃ cb : Nat, W.heap.size = cb := ⟨_, rfl⟩
  have HB := Lib.hid (show base ≤ cb from by have := HB.out; omega)
  have C0 := Lib.hid (CB.out cb hcb.symm)
  clear CB
  rw [hcb]
  go_loopw [9] (fun vi wr => ∃ (t : Nat) (r : UInt64) (dk : Array α), vi = .int .i64 ((a : Int) + (L : Int) / 4 * 2 - 1 + (t : Int)) ∧ t ≤ 3 ∧ Hid (S wr dk) ∧ Hid (Cv cb (.int .u64 (r.toNat : Int)) wr) ∧
      Hid (bpRest a L M (a + L / 4 * 2 - 1) (3 - t) t (r, dk) = bpRest a L M (a + L / 4 * 2 - 1) 3 0 (UInt64.ofNat L, d))) (fun vi _ => 3 - (intOf vi - ((a : Int) + (L : Int) / 4 * 2 - 1)).toNat)
  case atStart =>
    refine ⟨0, UInt64.ofNat L, d, by simp, by omega, S0.out, ?_, rfl⟩
    rw [show (UInt64.ofNat L).toNat = L from by simp; omega]
    exact C0.out
  case round =>
    obtain ⟨t, r, dk, rfl, ht, SK, CK, HR⟩ := hrel
    by_cases ht3 : t < 3
    · have hle : (a : Int) + (L : Int) / 4 * 2 - 1 + (t : Int) ≤ (a : Int) + (L : Int) / 4 * 2 + 1 := by omega
      obtain ⟨R, hRr⟩ : ∃ R : Nat, R = r.toNat := ⟨_, rfl⟩
      have lR : R < 18446744073709551616 := by rw [hRr]; exact r.toNat_lt
      obtain ⟨R', hR'⟩ : ∃ R' : Nat, R' = xorNextN R := ⟨_, rfl⟩
      have lR' : R' < 18446744073709551616 := by rw [hR']; exact xorNextN_lt R lR
      obtain ⟨O, hO⟩ : ∃ O : Nat, O = R' &&& (M - 1) := ⟨_, rfl⟩
      have lO : O ≤ M - 1 := by rw [hO]; exact Nat.and_le_right
      have eAnd : bits .and .u64 (R' : Int) ((M : Int) - 1) = (O : Int) := by
        rw [show ((M : Int) - 1) = ((M - 1 : Nat) : Int) by omega, bits_and_u64_nat _ _ lR' (by omega), hO]
      have hNext := Lib.hid (show Calls P (ρ.f 45) #[.pointer (some ⟨cb, 0, none⟩)] wr fun e w' => e = .returned (.int .u64 (R' : Int)) ∧ S w' dk ∧ Cv cb (.int .u64 (R' : Int)) w' from by
        rw [hR']; exact hNext0.out wr dk cb R lR SK.out (by rw [hRr]; exact CK.out) HB.out)
      have HN := Lib.hid (show R' = (xorNext r).toNat ∧ O = (xorNext r).toNat &&& (M - 1) from by
        have e : R' = (xorNext r).toNat := by rw [hR', hRr, xorNext_toNat]
        exact ⟨e, by rw [hO, e]⟩)
      clear hRr hR' hO
      by_cases hLO : L ≤ O
      · have hLOz : (L : Int) ≤ (O : Int) := by omega
        have X3 := Lib.hid (fun W' (hs : S W' dk) (hc : Cv cb (.int .u64 (R' : Int)) W') => Ifc.swapC HI.out ((a : Int) + (L : Int) / 4 * 2 - 1 + (t : Int)) ((a : Int) + ((O : Int) - (L : Int))) W' dk (a + L / 4 * 2 - 1 + t) (a + (O - L)) cb _ hs hc (by omega) (by omega) (by omega) (by omega) HB.out)
        go_wp2_with (first | (go_at_fn (ρ.f 45); refine hNext.out.mono ?_; rintro e w' ⟨rfl, hs, hc⟩; have S2 := Lib.hid hs; have C2 := Lib.hid hc; clear hs hc) | (go_at_fn gs; refine (X3.out _ S2.out C2.out).mono ?_; rintro e w' ⟨rfl, hs, hc⟩; have S3 := Lib.hid hs; have C3 := Lib.hid hc; clear hs hc))
        go_roundw
        case rel => first | exact ⟨t + 1, xorNext r, swp dk (a + L / 4 * 2 - 1 + t) (a + (O - L)), by congr 1; push_cast; omega, by omega, S3.out, by rw [← HN.out.1]; exact C3.out, (bp_step a L M _ t r dk (O - L) ht3 (by rw [← HN.out.2]; first | rw [if_pos (show O ≥ L by omega)] | rw [if_neg (show ¬ O ≥ L by omega)])).symm.trans HR.out⟩ | exact hrel
        case measure => simp [intOf]; omega
      · have hLOz : ¬ (L : Int) ≤ (O : Int) := by omega
        have X3 := Lib.hid (fun W' (hs : S W' dk) (hc : Cv cb (.int .u64 (R' : Int)) W') => Ifc.swapC HI.out ((a : Int) + (L : Int) / 4 * 2 - 1 + (t : Int)) ((a : Int) + (O : Int)) W' dk (a + L / 4 * 2 - 1 + t) (a + O) cb _ hs hc (by omega) (by omega) (by omega) (by omega) HB.out)
        go_wp2_with (first | (go_at_fn (ρ.f 45); refine hNext.out.mono ?_; rintro e w' ⟨rfl, hs, hc⟩; have S2 := Lib.hid hs; have C2 := Lib.hid hc; clear hs hc) | (go_at_fn gs; refine (X3.out _ S2.out C2.out).mono ?_; rintro e w' ⟨rfl, hs, hc⟩; have S3 := Lib.hid hs; have C3 := Lib.hid hc; clear hs hc))
        go_roundw
        case rel => first | exact ⟨t + 1, xorNext r, swp dk (a + L / 4 * 2 - 1 + t) (a + O), by congr 1; push_cast; omega, by omega, S3.out, by rw [← HN.out.1]; exact C3.out, (bp_step a L M _ t r dk O ht3 (by rw [← HN.out.2]; first | rw [if_pos (show O ≥ L by omega)] | rw [if_neg (show ¬ O ≥ L by omega)])).symm.trans HR.out⟩ | exact hrel
        case measure => simp [intOf]; omega
    · obtain rfl : t = 3 := by omega
      have hle : ¬ ((a : Int) + (L : Int) / 4 * 2 - 1 + ((3 : Nat) : Int) ≤ (a : Int) + (L : Int) / 4 * 2 + 1) := by omega
      have FIN := Lib.hid (show S wr (bpRest a L M (a + L / 4 * 2 - 1) 3 0 (UInt64.ofNat L, d)) from by rw [← HR.out]; exact SK.out)
      go_wp2
      go_end0
      exact ⟨rfl, FIN.out⟩
set_option maxRecDepth 100000 in
set_option maxHeartbeats 4000000 in
theorem brk35 (L' : LaysGt.n35 P ρ) (I : Ifc P T rv gl gs lt n base S) (hn : n ≤ 1048576) (W : World) (d : Array α) (a b : Nat) (hS : S W d) (hab : a ≤ b) (hb : b ≤ n) :
    Calls P (ρ.f 35) #[.iface T rv, .int .i64 a, .int .i64 b] W fun e w' => e = .returned (.tuple #[]) ∧ S w' (breakPatterns d a b) := by
  obtain ⟨L, rfl⟩ : ∃ L, b = a + L := ⟨b - a, by omega⟩
  by_cases h8 : 8 ≤ L
  · exact brk_go L' I hn W d a L hS hb h8
  · have hv : breakPatterns d a (a + L) = d := by unfold breakPatterns; simp only [Nat.add_sub_cancel_left]; rw [if_neg h8]
    rw [hv]
    have mixed := L'.mixed; have t0 := L'.t0; have a0 := L'.a0; have z0 := L'.z0; have v0 := L'.v0; have t3 := L'.t3; have a3 := L'.a3; have z3 := L'.z3; have v3 := L'.v3; have t4 := L'.t4; have a4 := L'.a4; have z4 := L'.z4; have v4 := L'.v4; have t5 := L'.t5; have a5 := L'.a5; have z5 := L'.z5; have v5 := L'.v5; have t9 := L'.t9; have a9 := L'.a9; have z9 := L'.z9; have v9 := L'.v9; have t26 := L'.t26; have a26 := L'.a26; have z26 := L'.z26; have v26 := L'.v26; have t38 := L'.t38; have a38 := L'.a38; have z38 := L'.z38; have v38 := L'.v38; have t43 := L'.t43; have a43 := L'.a43; have z43 := L'.z43; have v43 := L'.v43; have t45 := L'.t45; have a45 := L'.a45; have z45 := L'.z45; have v45 := L'.v45; have t47 := L'.t47; have a47 := L'.a47; have z47 := L'.z47; have v47 := L'.v47; have t56 := L'.t56; have a56 := L'.a56; have z56 := L'.z56; have v56 := L'.v56; have t58 := L'.t58; have a58 := L'.a58; have z58 := L'.z58; have v58 := L'.v58; have t67 := L'.t67; have a67 := L'.a67; have z67 := L'.z67; have v67 := L'.v67; have t73 := L'.t73; have a73 := L'.a73; have z73 := L'.z73; have v73 := L'.v73
    have hLz : ((a : Int) + (L : Int) - (a : Int)) = (L : Int) := by omega
    have h8z : ¬ (8 : Int) ≤ (L : Int) := by omega
    have S0 := Lib.hid hS
    clear hS I
    go_enter L'.f35, BodyGt.n35_ntmps ρ
    go_wp2
    go_end0
    exact ⟨rfl, S0.out⟩
end
end Go.Proofs.Ytfcpjckecjjmjaa.SoB
