/- FnEncodeVLQInjectiveAndPrefixFree: the law. -/
import Derived.Test.YtjgomgagaolhgacRRDoorRows
import Derived.Test.YtjgomgagaolhgacRRDoorMem
import Derived.Test.YtjgomgagaolhgacRRDoorSl
import Derived.Test.YtjgomgagaolhgacRRDoorEnc
import Derived.WalkKit
import Derived.ProofKit
import Derived.OpenShut
import Derived.Below
import Derived.WalkLawsBesides
import Derived.Lib.Hide
import Derived.Outline
import Derived.RegionTactic
import Derived.Deep.QuietTactic
import Derived.BigQuiet
import Derived.WalkSpells
import Derived.Deep.OwnRows
import Derived.IntWalk
import Derived.Deep.DeepMust
namespace Go.Proofs.YtjgomgagaolhgacRRDoor.EncL
open Go.RowKit Mem Sl
set_option linter.unusedVariables false
open Own Vq Args Enc Go.ChangeShapes Go.WideShapes Go.ChangeAt

theorem B64.mono {B C : Nat} {w : World} (h : B64 B w) (hB : B ≤ C) (hC : C ≤ w.heap.size) : B64 C w := by
  obtain ⟨h1, h2, b, off, c, h3, h4, h5⟩ := h
  exact ⟨hC, by omega, b, off, c, by omega, h4, h5⟩
theorem gB64 : Tryd.prog.globalNamed "github.com/evanw/esbuild/internal/sourcemap.base64" = some 0 := by kernel_rfl
theorem tB64 : (Tryd.prog.globals[0]?).map (·.type) = some 35 := by kernel_rfl
theorem b64_of_laid {W : World} (h : laidMetH Tryd.prog [("github.com/evanw/esbuild/internal/sourcemap.base64", Rows.laid_github_com_evanw_esbuild_internal_sourcemap_base64)] W) : B64 W.heap.size W := by
  rw [MakeChecks.laidMetH_plain _ _ _ (by kernel_rfl)] at h
  obtain ⟨ps, ⟨g, t, cs, fuel, p, q, hg, ht, hvar, hd, _, _⟩, _, _⟩ := h
  obtain rfl := Option.some.inj (gB64.symm.trans hg)
  obtain rfl := Option.some.inj (tB64.symm.trans ht)
  have hlaid : (Rows.laid_github_com_evanw_esbuild_internal_sourcemap_base64 : DataW Unit) = .slice (lits .u8 b64) [] := by rfl
  rw [hlaid] at hd
  obtain ⟨A, c, hcs, hi⟩ := Vars.ints_of_laid Tryd.underlying35 Tryd.underlying5 (by kernel_rfl) hd (by simp [b64])
  have hc := World.var?_cell hg hvar 0
  obtain ⟨l⟩ := cs
  simp only at hcs
  subst hcs
  have hlt := Vars.var_lt hg hvar
  obtain ⟨h1, h2, h3, h4, h5, h6⟩ := hi
  obtain ⟨b, off, rfl, hb, hcell⟩ := h6 (by rw [b64_len] at h1; omega)
  refine ⟨Nat.le_refl _, by omega, b, off, c, hb, by simpa [b64_len] using hc, fun i hi => hcell i (by rw [b64_len]; exact hi)⟩
theorem of_laid {W : World} (h : laidMetH Tryd.prog Rows.fnEncodeVLQInjectiveAndPrefixFreeRow.laid W) : B64 W.heap.size W := b64_of_laid h
def preB (ys zs : List Int) : Bool := ys.isPrefixOf zs
theorem preB_true {ys zs : List Int} (hl : ys.length ≤ zs.length) (h : ∀ j, j < ys.length → ys.getD j 0 = zs.getD j 0) : preB ys zs = true := by
  unfold preB
  rw [List.isPrefixOf_iff_prefix]
  have : ys = zs.take ys.length := by
    apply List.ext_getElem
    · simp; omega
    · intro i h1 h2
      have := h i h1
      simp [List.getD, h1, show i < zs.length by omega] at this
      simp [this]
  rw [this]
  exact List.take_prefix _ _
theorem preB_false {ys zs : List Int} {j : Nat} (hj : j < ys.length) (hl : ys.length ≤ zs.length) (h : ys.getD j 0 ≠ zs.getD j 0) : preB ys zs = false := by
  cases hb : preB ys zs with
  | false => rfl
  | true =>
    unfold preB at hb
    rw [List.isPrefixOf_iff_prefix] at hb
    obtain ⟨t, rfl⟩ := hb
    exact absurd (by simp [List.getD, hj, List.getElem?_append_left]) h
theorem preB_long {ys zs : List Int} (h : zs.length < ys.length) : preB ys zs = false := by
  cases hb : preB ys zs with
  | false => rfl
  | true =>
    unfold preB at hb
    rw [List.isPrefixOf_iff_prefix] at hb
    have := hb.length_le
    omega
theorem preB_iff (ys zs : List Int) : preB ys zs = true ↔ ys <+: zs := by unfold preB; exact List.isPrefixOf_iff_prefix
/-- What zzHasPrefix answers. -/
def Pre (w : World) (ys zs : List Int) (e : Ending) (w' : World) : Prop := e = .returned (.bool (preB ys zs)) ∧ ∃ m, w' = w.drewN m
set_option maxHeartbeats 400000 in
theorem pre11 (A A' : Option Addr) (n c m d : Nat) (zs ys : List Int) (w : World) (h : IsInts .u8 w A n c zs) (h' : IsInts .u8 w A' m d ys) (hn : n ≤ 1048576) (hm : m ≤ 1048576) :
    Calls Tryd.prog 11 #[.slice A n c, .slice A' m d] w (Pre w ys zs) := by
  have HR := Lib.hid (fun k => h.read k)
  have HR' := Lib.hid (fun k => h'.read k)
  have hl := h.2.2.1
  have hl' := h'.2.2.1
  have HL := Lib.hid (And.intro hl hl')
  clear h h' hl hl'
  by_cases hlen : n < m
  · have g : decide ((n : Int) < (m : Int)) = true := by simp; omega
    go_enter Tryd.func11, Tryd.ntmps11
    go_wp2
    go_ret
    exact ⟨ret_bool (preB_long (by rw [HL.out.1, HL.out.2]; exact hlen)).symm, 0, rfl⟩
  · have g : decide ((n : Int) < (m : Int)) = false := by simp; omega
    go_enter Tryd.func11, Tryd.ntmps11
    go_wp2
    clear g
    go_loopw [5] (fun i wr => ∃ k j : Nat, k ≤ m ∧ i = .int .i64 k ∧ wr = w.drewN j ∧ ∀ l, l < k → ys.getD l 0 = zs.getD l 0) (fun i _ => m - (intOf i).toNat)
    case atStart => exact ⟨0, 0, Nat.zero_le _, rfl, rfl, fun l hl => by omega⟩
    case round =>
      obtain ⟨k, j, hk, rfl, rfl, hall⟩ := hrel
      have HA := Lib.hid hall
      clear hall
      by_cases hlt : k < m
      · obtain ⟨b, off, ha, hb, hcell⟩ := HR.out k (by omega)
        obtain ⟨b', off', ha', hb', hcell'⟩ := HR'.out k hlt
        subst ha ha'
        obtain ⟨x, hx⟩ : ∃ x, x = zs.getD k 0 := ⟨_, rfl⟩
        obtain ⟨y, hy⟩ : ∃ y, y = ys.getD k 0 := ⟨_, rfl⟩
        rw [← hx] at hcell
        rw [← hy] at hcell'
        have HX := Lib.hid hx
        have HY := Lib.hid hy
        clear hx hy
        by_cases e : x = y
        · have g : (x != y) = false := by simp [e]
          have HE := Lib.hid e
          clear e
          go_wp2
          go_quiet (fail)
          go_wp2
          go_roundw
          case rel => exact ⟨k + 1, j + nq, by omega, by go_num, by simp, fun l hl => by
            by_cases e : l = k
            · subst e; rw [← HX.out, ← HY.out]; exact HE.out.symm
            · exact HA.out l (by omega)⟩
          case measure => simp [intOf]; omega
        · have g : (x != y) = true := by simp [e]
          have HE := Lib.hid e
          clear e
          go_wp2
          go_quiet (fail)
          go_wp2
          go_ret
          exact ⟨ret_bool (preB_false (j := k) (by rw [HL.out.2]; exact hlt) (by rw [HL.out.1, HL.out.2]; omega) (by rw [← HX.out, ← HY.out]; exact fun h => HE.out h.symm)).symm, j + nq, by simp⟩
      · go_wp2
        go_ret
        exact ⟨ret_bool (preB_true (by rw [HL.out.1, HL.out.2]; omega) (fun l hl => HA.out l (by rw [HL.out.2] at hl; omega))).symm, j, rfl⟩
theorem enc10 (B : Nat) (v : Value) (zs : List Int) (value : Int) (w : World) (hb : B64 B w) (hown : Own w B 5 .u8 v zs) (hz : zs.length ≤ 100000000) (h0 : -1073741823 ≤ value) (h1 : value ≤ 1073741823) :
    Calls Tryd.prog 10 #[v, .int .i64 value] w (Enc B w zs value) := by
  have HC := Lib.hid (enc27 B v zs value w hb hown hz h0 h1)
  clear hb hown
  go_enter Tryd.func10, Tryd.ntmps10
  go_wp2_with fail
  refine HC.out.mono ?_
  rintro e w' ⟨v', rfl, h1, h2⟩
  have H := Lib.hid (And.intro h1 h2)
  clear h1 h2
  go_wp2_with fail
  go_ret
  exact ⟨v', rfl, H.out.1, H.out.2⟩

set_option maxHeartbeats 1000000 in
set_option maxRecDepth 100000 in
theorem law (a0 : Int) (a1 : Int) (w : World) (w0 : (Lit.int .i64 a0).wf = true) (w1 : (Lit.int .i64 a1).wf = true) (hL : B64 w.heap.size w) :
    Calls Tryd.prog 4 #[.int .i64 a0, .int .i64 a1] w fun e w' => e = .returned (.bool true) ∧ Below w.heap.size w w' := by
  have HL := Lib.hid hL
  clear w0 w1 hL
  go_enter Tryd.func4, Tryd.ntmps4
  by_cases q0 : 1073741823 < a0
  · have g0 : decide (1073741823 < a0) = true := by simp; omega
    go_wp2_with fail
    go_ret
    exact ⟨rfl, Below.refl _ _⟩
  have g0 : decide (1073741823 < a0) = false := by simp; omega
  by_cases q1 : a0 < -1073741823
  · have g1 : decide (a0 < -1073741823) = true := by simp; omega
    go_wp2_with fail
    go_ret
    exact ⟨rfl, Below.refl _ _⟩
  have g1 : decide (a0 < -1073741823) = false := by simp; omega
  by_cases q2 : 1073741823 < a1
  · have g2 : decide (1073741823 < a1) = true := by simp; omega
    go_wp2_with fail
    go_ret
    exact ⟨rfl, Below.refl _ _⟩
  have g2 : decide (1073741823 < a1) = false := by simp; omega
  by_cases q3 : a1 < -1073741823
  · have g3 : decide (a1 < -1073741823) = true := by simp; omega
    go_wp2_with fail
    go_ret
    exact ⟨rfl, Below.refl _ _⟩
  have g3 : decide (a1 < -1073741823) = false := by simp; omega
  go_wp2_with fail
  clear g0 g1 g2 g3
  refine (enc10 w.heap.size _ [] a0 w HL.out (own_nil _ _ _ _) (by simp) (by omega) (by omega)).mono ?_
  rintro e u0 ⟨v0, rfl, ho0, hb0⟩
  rw [List.nil_append] at ho0
  have L0 := code_len_le (vlqOf a0) (vlqOf_lt (by omega) (by omega))
  have L1 := code_len_le (vlqOf a1) (vlqOf_lt (by omega) (by omega))
  have HO0 := Lib.hid ho0
  have HB0 := Lib.hid hb0
  clear ho0 hb0
  go_wp2_with fail
  refine (enc10 u0.heap.size _ [] a1 u0 (B64.mono (HL.out.below HB0.out) HB0.out.size (Nat.le_refl _)) (own_nil _ _ _ _) (by simp) (by omega) (by omega)).mono ?_
  rintro e u1 ⟨v1, rfl, ho1, hb1⟩
  rw [List.nil_append] at ho1
  obtain ⟨A0, c0, rfl, i0⟩ := (HO0.out.later hb1 (Nat.le_refl _)).ints (code_wf _)
  obtain ⟨A1, c1, rfl, i1⟩ := ho1.ints (code_wf _)
  have HB := Lib.hid (HB0.out.trans (hb1.mono HB0.out.size))
  have P01 := Lib.hid (pre11 A0 A1 _ c0 _ c1 _ _ u1 i0 i1 (by omega) (by omega))
  have P10 := Lib.hid (fun m => pre11 A1 A0 _ c1 _ c0 _ _ (u1.drewN m) i1 i0 (by omega) (by omega))
  clear hb1 ho1 i0 i1 HO0 HB0 HL
  by_cases e : a0 = a1
  · subst e
    have hp : preB (code (vlqOf a0)) (code (vlqOf a0)) = true := (preB_iff _ _).2 (List.prefix_refl _)
    have HP := Lib.hid hp
    clear P10 hp
    have g : ((a0 : Int) == a0) = true := by simp
    have g2 : (((code (vlqOf a0)).length : Int) == ((code (vlqOf a0)).length : Int)) = true := by simp
    go_wp2_with fail
    refine P01.out.mono ?_
    rintro e w' ⟨rfl, m, rfl⟩
    rw [HP.out]
    go_wp2_with fail
    go_ret
    exact ⟨rfl, below_drewN HB.out _⟩
  · have hp : ∀ x y, x ≠ y → preB (code (vlqOf x)) (code (vlqOf y)) = false := by
      intro x y hxy
      cases hb : preB (code (vlqOf x)) (code (vlqOf y)) with
      | false => rfl
      | true => exact absurd (vlqOf_inj (code_prefix ((preB_iff _ _).1 hb))) hxy
    have HP0 := Lib.hid (hp a1 a0 (fun h => e h.symm))
    have HP1 := Lib.hid (hp a0 a1 e)
    have g : ((a0 : Int) == a1) = false := by simpa using e
    clear hp e
    go_wp2_with fail
    refine P01.out.mono ?_
    rintro e w' ⟨rfl, m, rfl⟩
    rw [HP0.out]
    go_wp2_with fail
    refine (P10.out m).mono ?_
    rintro e w' ⟨rfl, m', rfl⟩
    rw [HP1.out]
    go_wp2_with fail
    go_ret
    exact ⟨rfl, below_drewN HB.out _⟩
end Go.Proofs.YtjgomgagaolhgacRRDoor.EncL
