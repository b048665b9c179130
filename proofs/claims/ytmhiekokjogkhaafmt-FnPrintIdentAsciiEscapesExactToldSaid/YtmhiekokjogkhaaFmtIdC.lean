/- FnPrintIdentAsciiEscapesExact: the model, the escape. -/
import Derived.Test.YtmhiekokjogkhaaFmtRows
import Derived.Test.YtmhiekokjogkhaaFmtMem
import Derived.Test.YtmhiekokjogkhaaFmtSl
import Derived.Test.YtmhiekokjogkhaaFmtIdB
import Derived.Great.BuildSlice
import Derived.Deep.RegionLaw
import Derived.WalkKit
import Derived.ProofKit
import Derived.OpenShut
import Derived.Below
import Derived.WalkLawsBesides
import Derived.Lib.Hide
import Derived.Outline
import Derived.RegionTactic
import Derived.Deep.QuietTactic
import Derived.BigQuiet
import Derived.WalkSpells
import Derived.Deep.OwnRows
import Derived.IntWalk
import Derived.Deep.DeepMust
namespace Go.Proofs.YtmhiekokjogkhaaFmt.IdC
open Go.RowKit Mem Sl
set_option linter.unusedVariables false
open Prn Pru Idn Str IdA IdB Own

theorem info5 : (Tryf.prog.info? 5).map (fun i => (i.zero, i.size, i.bytes)) = some (some (.int .u8 0), 1, 1) := by kernel_rfl
/-- What the model hands back. -/
def Mdl (st : Bool) (s : ByteArray) (w : World) (e : Ending) (w' : World) : Prop := ∃ v, e = .returned v ∧ (s.size = 0 → v = .slice (some ⟨w.heap.size, 0, none⟩) 0 (2 * s.size)) ∧ Own w' w.heap.size 5 .u8 v (outK st (nums s) s.size) ∧ Below w.heap.size w w'

set_option maxRecDepth 100000 in
set_option maxHeartbeats 4000000 in
theorem model10_true (s : ByteArray) (w : World) (hs : s.size ≤ 1048576) (hst : startB (nums s) = true) : Calls Tryf.prog 10 #[.string s] w (Mdl true s w) := by
  have H14 := Lib.hid (starts14 s w hs)
  rw [hst] at H14
  have hmk0 : ∀ W : World, (Instr.makeSlice 22 (.int .i64 0) (.int .i64 (2 * (s.size : Int)))).run Tryf.prog W = .ok (.slice (some ⟨W.heap.size, 0, none⟩) 0 (2 * s.size)) (W.alloc (.cells (madeCells #[.int .u8 0] (2 * s.size)) 5)) := by
    intro W
    obtain ⟨i, hi, hzz⟩ := Option.map_eq_some_iff.1 info5
    simp only [Prod.mk.injEq] at hzz
    obtain ⟨hz, hsz, hby⟩ := hzz
    have hr := run_make (P := Tryf.prog) W 22 5 i (.int .u8 0) Tryf.underlying22 hi hz .i64 .i64 0 (2 * (s.size : Int)) (by omega) (by omega) (by rw [hby]; omega) (by omega)
    rw [hr, hsz]
    have e1 : (2 * (s.size : Int)).toNat = 2 * s.size := by omega
    rw [e1]
    simp [Value.cells]
  have HO0 := Lib.hid (own_made w w.heap.size 5 .u8 (2 * s.size) (Nat.le_refl _) (by unfold maxLen; omega))
  have HB0 := Lib.hid (show Below w.heap.size w (w.alloc (.cells (madeCells #[.int .u8 0] (2 * s.size)) 5)) from (Below.refl _ _).alloc (Nat.le_refl _) _)
  clear hst
  go_enter Tryf.func10, Tryf.ntmps10
  go_wp2_with (go_at_call 14; (with_reducible refine H14.out.mono ?_); rintro e w' ⟨rfl, rfl⟩)
  generalize w.alloc (.cells (madeCells #[.int .u8 0] (2 * s.size)) 5) = u2 at HO0 HB0 ⊢
  clear hmk0
  go_loopw [4, 5] (fun u i wr => ∃ (u' : Value) (k : Nat), u' = u ∧ k ≤ s.size ∧ i = .int .i64 k ∧ (k = 0 → u' = .slice (some ⟨w.heap.size, 0, none⟩) 0 (2 * s.size)) ∧ Own wr w.heap.size 5 .u8 u' (outK true (nums s) k) ∧ Below w.heap.size w wr) (fun _ i _ => s.size - (intOf i).toNat)
  case atStart => exact ⟨_, 0, rfl, Nat.zero_le _, rfl, fun _ => rfl, HO0.out, HB0.out⟩
  case round =>
    obtain ⟨u, k, rfl, hk, rfl, hz0, hown, hbel⟩ := hrel
    have HZ0 := Lib.hid hz0
    clear hz0
    have HO := Lib.hid hown
    have HB := Lib.hid hbel
    have HS := hbel.size
    clear hown hbel
    by_cases hlt : k < s.size
    · obtain ⟨b, hb, hnb⟩ := byte_at s k hlt
      have hc0 : (0 : Int) ≤ (b.toNat : Int) ∧ (b.toNat : Int) ≤ 255 := by have := b.toNat_lt; omega
      generalize hc : (b.toNat : Int) = c at hnb hc0
      have HN := Lib.hid hnb
      have H15 := Lib.hid (nam15 c wr hc0.1 hc0.2)
      clear hnb hc0
      cases hv : nameB c
      · rw [hv] at H15
        have HV := Lib.hid hv
        clear hv
        have HK := Lib.hid (outK_esc (st := true) (zs := nums s) (k := k) (by unfold escB; rw [HN.out]; simp [HV.out]))
        rw [HN.out] at HK
        go_wp2_with (first | (go_at_call 15; (with_reducible refine H15.out.mono ?_); rintro e w' ⟨rfl, rfl⟩) | (refine wpList_push _ rfl (.tmp 33) (.tmp 34) 22 rfl w.heap.size 5 .u8 1 Tryf.underlying22 info5 (by decide) _ (outK true (nums s) k) rfl (HO.out.alloc _) wr.heap.size 92 rfl ((Row.newArr _ 5 _).at_ (i := 0) rfl) (by have := outK_len true (nums s) k; omega) (by simp; omega) ?_; intro v1 w1 hown1 hbel1; have HO1 := Lib.hid hown1; have HBL1 := Lib.hid hbel1; have HS1 := hbel1.size; clear hown1 hbel1) | (refine wpList_push _ rfl (.tmp 36) (.tmp 38) 22 rfl w.heap.size 5 .u8 1 Tryf.underlying22 info5 (by decide) _ (outK true (nums s) k ++ [92]) rfl (HO1.out.alloc _) w1.heap.size c rfl ((Row.newArr _ 5 _).at_ (i := 0) rfl) (by have := outK_len true (nums s) k; simp; omega) (by simp at HS1 ⊢; omega) ?_; intro v2 w2 hown2 hbel2; have HO2 := Lib.hid hown2; have HBL2 := Lib.hid hbel2; clear hown2 hbel2))
        go_roundw
        case rel => exact ⟨_, k + 1, rfl, by omega, by go_num, fun h => by omega, by rw [HK.out]; exact HO2.out, HB.out.trans (((Below.refl _ _).alloc HS _).trans (HBL1.out.trans (((Below.refl _ _).alloc (by simp at HS1; omega) _).trans HBL2.out)))⟩
        case measure => simp [intOf]; omega

      · rw [hv] at H15
        have HV := Lib.hid hv
        clear hv
        by_cases h0 : k = 0
        · subst h0
          have HK := Lib.hid (outK_plain (st := true) (zs := nums s) (k := 0) (by unfold escB; rw [HN.out]; simp [HV.out]; try omega))
          rw [HN.out] at HK
          go_wp2_with (first | (go_at_call 15; (with_reducible refine H15.out.mono ?_); rintro e w' ⟨rfl, rfl⟩) | (refine wpList_push _ rfl (.tmp 36) (.tmp 38) 22 rfl w.heap.size 5 .u8 1 Tryf.underlying22 info5 (by decide) _ (outK true (nums s) 0) rfl (HO.out.alloc _) wr.heap.size c rfl ((Row.newArr _ 5 _).at_ (i := 0) rfl) (by have := outK_len true (nums s) 0; omega) (by simp; omega) ?_; intro v1 w1 hown1 hbel1; have HO1 := Lib.hid hown1; have HBL1 := Lib.hid hbel1; have HS1 := hbel1.size; clear hown1 hbel1))
          go_roundw
          case rel => exact ⟨_, 0 + 1, rfl, by omega, by go_num, fun h => by omega, by rw [HK.out]; exact HO1.out, HB.out.trans (((Below.refl _ _).alloc HS _).trans HBL1.out)⟩
          case measure => simp [intOf]; omega

        · have t0 : ((k : Int) == 0) = false := by simp; omega
          have HK := Lib.hid (outK_plain (st := true) (zs := nums s) (k := k) (by unfold escB; rw [HN.out]; simp [HV.out]; try omega))
          rw [HN.out] at HK
          go_wp2_with (first | (go_at_call 15; (with_reducible refine H15.out.mono ?_); rintro e w' ⟨rfl, rfl⟩) | (refine wpList_push _ rfl (.tmp 36) (.tmp 38) 22 rfl w.heap.size 5 .u8 1 Tryf.underlying22 info5 (by decide) _ (outK true (nums s) k) rfl (HO.out.alloc _) wr.heap.size c rfl ((Row.newArr _ 5 _).at_ (i := 0) rfl) (by have := outK_len true (nums s) k; omega) (by simp; omega) ?_; intro v1 w1 hown1 hbel1; have HO1 := Lib.hid hown1; have HBL1 := Lib.hid hbel1; have HS1 := hbel1.size; clear hown1 hbel1))
          go_roundw
          case rel => exact ⟨_, k + 1, rfl, by omega, by go_num, fun h => by omega, by rw [HK.out]; exact HO1.out, HB.out.trans (((Below.refl _ _).alloc HS _).trans HBL1.out)⟩
          case measure => simp [intOf]; omega

    · obtain rfl : k = s.size := by omega
      go_wp2
      go_ret
      exact ⟨_, rfl, HZ0.out, HO.out, HB.out⟩

set_option maxRecDepth 100000 in
set_option maxHeartbeats 4000000 in
theorem model10_false (s : ByteArray) (w : World) (hs : s.size ≤ 1048576) (hst : startB (nums s) = false) : Calls Tryf.prog 10 #[.string s] w (Mdl false s w) := by
  have H14 := Lib.hid (starts14 s w hs)
  rw [hst] at H14
  have hmk0 : ∀ W : World, (Instr.makeSlice 22 (.int .i64 0) (.int .i64 (2 * (s.size : Int)))).run Tryf.prog W = .ok (.slice (some ⟨W.heap.size, 0, none⟩) 0 (2 * s.size)) (W.alloc (.cells (madeCells #[.int .u8 0] (2 * s.size)) 5)) := by
    intro W
    obtain ⟨i, hi, hzz⟩ := Option.map_eq_some_iff.1 info5
    simp only [Prod.mk.injEq] at hzz
    obtain ⟨hz, hsz, hby⟩ := hzz
    have hr := run_make (P := Tryf.prog) W 22 5 i (.int .u8 0) Tryf.underlying22 hi hz .i64 .i64 0 (2 * (s.size : Int)) (by omega) (by omega) (by rw [hby]; omega) (by omega)
    rw [hr, hsz]
    have e1 : (2 * (s.size : Int)).toNat = 2 * s.size := by omega
    rw [e1]
    simp [Value.cells]
  have HO0 := Lib.hid (own_made w w.heap.size 5 .u8 (2 * s.size) (Nat.le_refl _) (by unfold maxLen; omega))
  have HB0 := Lib.hid (show Below w.heap.size w (w.alloc (.cells (madeCells #[.int .u8 0] (2 * s.size)) 5)) from (Below.refl _ _).alloc (Nat.le_refl _) _)
  clear hst
  go_enter Tryf.func10, Tryf.ntmps10
  go_wp2_with (go_at_call 14; (with_reducible refine H14.out.mono ?_); rintro e w' ⟨rfl, rfl⟩)
  generalize w.alloc (.cells (madeCells #[.int .u8 0] (2 * s.size)) 5) = u2 at HO0 HB0 ⊢
  clear hmk0
  go_loopw [4, 5] (fun u i wr => ∃ (u' : Value) (k : Nat), u' = u ∧ k ≤ s.size ∧ i = .int .i64 k ∧ (k = 0 → u' = .slice (some ⟨w.heap.size, 0, none⟩) 0 (2 * s.size)) ∧ Own wr w.heap.size 5 .u8 u' (outK false (nums s) k) ∧ Below w.heap.size w wr) (fun _ i _ => s.size - (intOf i).toNat)
  case atStart => exact ⟨_, 0, rfl, Nat.zero_le _, rfl, fun _ => rfl, HO0.out, HB0.out⟩
  case round =>
    obtain ⟨u, k, rfl, hk, rfl, hz0, hown, hbel⟩ := hrel
    have HZ0 := Lib.hid hz0
    clear hz0
    have HO := Lib.hid hown
    have HB := Lib.hid hbel
    have HS := hbel.size
    clear hown hbel
    by_cases hlt : k < s.size
    · obtain ⟨b, hb, hnb⟩ := byte_at s k hlt
      have hc0 : (0 : Int) ≤ (b.toNat : Int) ∧ (b.toNat : Int) ≤ 255 := by have := b.toNat_lt; omega
      generalize hc : (b.toNat : Int) = c at hnb hc0
      have HN := Lib.hid hnb
      have H15 := Lib.hid (nam15 c wr hc0.1 hc0.2)
      clear hnb hc0
      cases hv : nameB c
      · rw [hv] at H15
        have HV := Lib.hid hv
        clear hv
        have HK := Lib.hid (outK_esc (st := false) (zs := nums s) (k := k) (by unfold escB; rw [HN.out]; simp [HV.out]))
        rw [HN.out] at HK
        go_wp2_with (first | (go_at_call 15; (with_reducible refine H15.out.mono ?_); rintro e w' ⟨rfl, rfl⟩) | (refine wpList_push _ rfl (.tmp 33) (.tmp 34) 22 rfl w.heap.size 5 .u8 1 Tryf.underlying22 info5 (by decide) _ (outK false (nums s) k) rfl (HO.out.alloc _) wr.heap.size 92 rfl ((Row.newArr _ 5 _).at_ (i := 0) rfl) (by have := outK_len false (nums s) k; omega) (by simp; omega) ?_; intro v1 w1 hown1 hbel1; have HO1 := Lib.hid hown1; have HBL1 := Lib.hid hbel1; have HS1 := hbel1.size; clear hown1 hbel1) | (refine wpList_push _ rfl (.tmp 36) (.tmp 38) 22 rfl w.heap.size 5 .u8 1 Tryf.underlying22 info5 (by decide) _ (outK false (nums s) k ++ [92]) rfl (HO1.out.alloc _) w1.heap.size c rfl ((Row.newArr _ 5 _).at_ (i := 0) rfl) (by have := outK_len false (nums s) k; simp; omega) (by simp at HS1 ⊢; omega) ?_; intro v2 w2 hown2 hbel2; have HO2 := Lib.hid hown2; have HBL2 := Lib.hid hbel2; clear hown2 hbel2))
        go_roundw
        case rel => exact ⟨_, k + 1, rfl, by omega, by go_num, fun h => by omega, by rw [HK.out]; exact HO2.out, HB.out.trans (((Below.refl _ _).alloc HS _).trans (HBL1.out.trans (((Below.refl _ _).alloc (by simp at HS1; omega) _).trans HBL2.out)))⟩
        case measure => simp [intOf]; omega

      · rw [hv] at H15
        have HV := Lib.hid hv
        clear hv
        by_cases h0 : k = 0
        · subst h0
          have HK := Lib.hid (outK_esc (st := false) (zs := nums s) (k := 0) (by unfold escB; rw [HN.out]; simp [HV.out]))
          rw [HN.out] at HK
          go_wp2_with (first | (go_at_call 15; (with_reducible refine H15.out.mono ?_); rintro e w' ⟨rfl, rfl⟩) | (refine wpList_push _ rfl (.tmp 33) (.tmp 34) 22 rfl w.heap.size 5 .u8 1 Tryf.underlying22 info5 (by decide) _ (outK false (nums s) 0) rfl (HO.out.alloc _) wr.heap.size 92 rfl ((Row.newArr _ 5 _).at_ (i := 0) rfl) (by have := outK_len false (nums s) 0; omega) (by simp; omega) ?_; intro v1 w1 hown1 hbel1; have HO1 := Lib.hid hown1; have HBL1 := Lib.hid hbel1; have HS1 := hbel1.size; clear hown1 hbel1) | (refine wpList_push _ rfl (.tmp 36) (.tmp 38) 22 rfl w.heap.size 5 .u8 1 Tryf.underlying22 info5 (by decide) _ (outK false (nums s) 0 ++ [92]) rfl (HO1.out.alloc _) w1.heap.size c rfl ((Row.newArr _ 5 _).at_ (i := 0) rfl) (by have := outK_len false (nums s) 0; simp; omega) (by simp at HS1 ⊢; omega) ?_; intro v2 w2 hown2 hbel2; have HO2 := Lib.hid hown2; have HBL2 := Lib.hid hbel2; clear hown2 hbel2))
          go_roundw
          case rel => exact ⟨_, 0 + 1, rfl, by omega, by go_num, fun h => by omega, by rw [HK.out]; exact HO2.out, HB.out.trans (((Below.refl _ _).alloc HS _).trans (HBL1.out.trans (((Below.refl _ _).alloc (by simp at HS1; omega) _).trans HBL2.out)))⟩
          case measure => simp [intOf]; omega

        · have t0 : ((k : Int) == 0) = false := by simp; omega
          have HK := Lib.hid (outK_plain (st := false) (zs := nums s) (k := k) (by unfold escB; rw [HN.out]; simp [HV.out]; try omega))
          rw [HN.out] at HK
          go_wp2_with (first | (go_at_call 15; (with_reducible refine H15.out.mono ?_); rintro e w' ⟨rfl, rfl⟩) | (refine wpList_push _ rfl (.tmp 36) (.tmp 38) 22 rfl w.heap.size 5 .u8 1 Tryf.underlying22 info5 (by decide) _ (outK false (nums s) k) rfl (HO.out.alloc _) wr.heap.size c rfl ((Row.newArr _ 5 _).at_ (i := 0) rfl) (by have := outK_len false (nums s) k; omega) (by simp; omega) ?_; intro v1 w1 hown1 hbel1; have HO1 := Lib.hid hown1; have HBL1 := Lib.hid hbel1; have HS1 := hbel1.size; clear hown1 hbel1))
          go_roundw
          case rel => exact ⟨_, k + 1, rfl, by omega, by go_num, fun h => by omega, by rw [HK.out]; exact HO1.out, HB.out.trans (((Below.refl _ _).alloc HS _).trans HBL1.out)⟩
          case measure => simp [intOf]; omega

    · obtain rfl : k = s.size := by omega
      go_wp2
      go_ret
      exact ⟨_, rfl, HZ0.out, HO.out, HB.out⟩

theorem model10 (s : ByteArray) (w : World) (hs : s.size ≤ 1048576) : Calls Tryf.prog 10 #[.string s] w (Mdl (startB (nums s)) s w) := by
  cases h : startB (nums s)
  · exact model10_false s w hs h
  · exact model10_true s w hs h
end Go.Proofs.YtmhiekokjogkhaaFmt.IdC
