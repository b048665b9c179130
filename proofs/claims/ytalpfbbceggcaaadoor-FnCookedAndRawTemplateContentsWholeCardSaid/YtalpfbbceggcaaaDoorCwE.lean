/- FnCookedAndRawTemplateContentsWhole: the encoder. -/
import Derived.Test.YtalpfbbceggcaaaDoorCwK
import Derived.Test.YtalpfbbceggcaaaDoorCwEr
import Derived.Great.BuildSlice
import Derived.Deep.DeepCutAuto
import Derived.Deep.CutBlock
import Derived.Laws.MakeOwn
import Derived.WalkKit
import Derived.ProofKit
import Derived.OpenShut
import Derived.Below
import Derived.WalkLawsBesides
import Derived.Lib.Hide
import Derived.Outline
import Derived.RegionTactic
import Derived.Deep.QuietTactic
import Derived.BigQuiet
import Derived.WalkSpells
import Derived.Deep.OwnRows
import Derived.IntWalk
import Derived.Deep.DeepMust
namespace Go.Proofs.YtalpfbbceggcaaaDoor.CwE
open Go.RowKit Mem Args Own Str CwP CwH CwG CwA CwB CwT CwK
set_option linter.unusedVariables false
set_option linter.unusedSimpArgs false
set_option maxRecDepth 100000 in
set_option maxHeartbeats 4000000 in
theorem enc7 (A0 : Option Addr) (n0 c0 : Nat) (U : List Int) (A1 : Option Addr) (n1 c1 : Nat) (M : List Int) (w : World) (h0 : IsInts .u16 w A0 n0 c0 U) (h1 : IsInts .u8 w A1 n1 c1 M) (hn : n0 ≤ 65536) (hm : n1 ≤ 65536) :
    Calls Tryd.prog 7 #[.slice A0 n0 c0, .slice A1 n1 c1, .bool true] w fun e w' => e = .returned (.tuple #[.string (bytesOf (encE U M n0)), .string (bytesOf (encR U M n0))]) ∧ Below w.heap.size w w' := by
  obtain ⟨i5, hi5, hzz⟩ := Option.map_eq_some_iff.1 info5
  simp only [Prod.mk.injEq] at hzz
  obtain ⟨hz1, hz2, hz3⟩ := hzz
  have hmk := fun W => run_make (P := Tryd.prog) W 23 5 i5 _ Tryd.underlying23 hi5 hz1 .i64 .i64 0 ((n0 : Int) * 4) (by omega) (by omega) (by rw [hz3]; omega) (by omega)
  simp only [Int.toNat_zero, show ((n0 : Int) * 4).toNat = 4 * n0 by omega, hz2, Value.cells, Nat.mul_one] at hmk
  have HUB := Lib.hid (ub_of h0)
  have H0 := Lib.hid h0
  have H1 := Lib.hid h1
  clear hi5 hz1 hz2 hz3 h0 h1
  obtain ⟨w1, hw1⟩ : ∃ w1, w1 = w.alloc (.cells (madeCells #[.int .u8 0] (4 * n0)) 5) := ⟨_, rfl⟩
  obtain ⟨w2, hw2⟩ : ∃ w2, w2 = w1.alloc (.cells (madeCells #[.int .u8 0] (4 * n0)) 5) := ⟨_, rfl⟩
  have hs1 : w1.heap.size = w.heap.size + 1 := by rw [hw1]; simp
  have o1 := own_made w w.heap.size 5 .u8 (4 * n0) (Nat.le_refl _) (by unfold maxLen; omega)
  rw [← hw1] at o1
  have o2 := own_made w1 w.heap.size 5 .u8 (4 * n0) (by omega) (by unfold maxLen; omega)
  rw [← hw2, hs1] at o2
  have b1 : Below w.heap.size w w1 := by rw [hw1]; exact (Below.refl _ _).alloc (Nat.le_refl _) _
  have b2 : Below w1.heap.size w1 w2 := by rw [hw2]; exact (Below.refl _ _).alloc (Nat.le_refl _) _
  have HTW := Lib.hid (show Tw w w2 (.slice (some ⟨w.heap.size, 0, none⟩) 0 (4 * n0)) (.slice (some ⟨w.heap.size + 1, 0, none⟩) 0 (4 * n0)) [] [] from
    ⟨o1.later b2 (Nat.le_refl _), o2, .inr (by simp [Value.ownBlock]), b1.trans (b2.mono (by omega))⟩)
  have HW1 := Lib.hid hw1
  have HW2 := Lib.hid hw2
  have HS1 := Lib.hid hs1
  clear hw1 hw2 hs1 o1 o2 b1 b2
  go_enter Tryd.func7, Tryd.ntmps7
  go_upto_region 2 with fail
  rw [← HW1.out]
  go_upto_region 3 with fail
  rw [← HW2.out, HS1.out]
  go_wp2_with fail
  go_loopw [8, 9, 10] (fun s8 s9 s10 wr => ∃ (v r : Value) (i : Nat), v = s8 ∧ r = s9 ∧ s10 = .int .i64 i ∧ i ≤ n0 ∧ Hid (Tw w wr v r (encE U M i) (encR U M i))) (fun _ _ s10 _ => n0 - (intOf s10).toNat)
  case atStart => exact ⟨_, _, 0, rfl, rfl, rfl, Nat.zero_le _, HTW.out⟩
  case round =>
    obtain ⟨v, r, i, rfl, rfl, rfl, hi, HT⟩ := hrel
    by_cases hlt : i < n0
    · refine CwEr.round7 HUB H0 H1 hn hm hlt HT ?_ (fun _ _ h => h)
      intro a' wc hx
      unfold CwM.RN at hx
      obtain ⟨u8, hx⟩ := hx
      obtain ⟨u9, hx⟩ := hx
      obtain ⟨u10, hx⟩ := hx
      obtain ⟨u11, hx⟩ := hx
      obtain ⟨u12, hx⟩ := hx
      obtain ⟨u13, hx⟩ := hx
      obtain ⟨u14, hx⟩ := hx
      obtain ⟨u15, hx⟩ := hx
      obtain ⟨u16, hx⟩ := hx
      obtain ⟨u17, hx⟩ := hx
      obtain ⟨u18, hx⟩ := hx
      obtain ⟨u27, hx⟩ := hx
      obtain ⟨u28, hx⟩ := hx
      obtain ⟨u29, hx⟩ := hx
      obtain ⟨u30, hx⟩ := hx
      obtain ⟨u31, hx⟩ := hx
      obtain ⟨u32, hx⟩ := hx
      obtain ⟨u33, hx⟩ := hx
      obtain ⟨u34, hx⟩ := hx
      obtain ⟨u35, hx⟩ := hx
      obtain ⟨u36, hx⟩ := hx
      obtain ⟨u37, hx⟩ := hx
      obtain ⟨u38, hx⟩ := hx
      obtain ⟨u39, hx⟩ := hx
      obtain ⟨u40, hx⟩ := hx
      obtain ⟨u41, hx⟩ := hx
      obtain ⟨u42, hx⟩ := hx
      obtain ⟨u43, hx⟩ := hx
      obtain ⟨u44, hx⟩ := hx
      obtain ⟨u45, hx⟩ := hx
      obtain ⟨u46, hx⟩ := hx
      obtain ⟨u47, hx⟩ := hx
      obtain ⟨u48, hx⟩ := hx
      obtain ⟨u49, hx⟩ := hx
      obtain ⟨u50, hx⟩ := hx
      obtain ⟨u51, hx⟩ := hx
      obtain ⟨u52, hx⟩ := hx
      obtain ⟨u53, hx⟩ := hx
      obtain ⟨u54, hx⟩ := hx
      obtain ⟨u55, hx⟩ := hx
      obtain ⟨u56, hx⟩ := hx
      obtain ⟨u57, hx⟩ := hx
      obtain ⟨u58, hx⟩ := hx
      obtain ⟨u59, hx⟩ := hx
      obtain ⟨u60, hx⟩ := hx
      obtain ⟨u61, hx⟩ := hx
      obtain ⟨u62, hx⟩ := hx
      obtain ⟨u63, hx⟩ := hx
      obtain ⟨u64, hx⟩ := hx
      obtain ⟨u65, hx⟩ := hx
      obtain ⟨u66, hx⟩ := hx
      obtain ⟨u67, hx⟩ := hx
      obtain ⟨u68, hx⟩ := hx
      obtain ⟨u69, hx⟩ := hx
      obtain ⟨u70, hx⟩ := hx
      obtain ⟨u71, hx⟩ := hx
      obtain ⟨u72, hx⟩ := hx
      obtain ⟨u73, hx⟩ := hx
      obtain ⟨u74, hx⟩ := hx
      obtain ⟨u75, hx⟩ := hx
      obtain ⟨u76, hx⟩ := hx
      obtain ⟨u77, hx⟩ := hx
      obtain ⟨u78, hx⟩ := hx
      obtain ⟨u79, hx⟩ := hx
      obtain ⟨u80, hx⟩ := hx
      obtain ⟨u81, hx⟩ := hx
      obtain ⟨u82, hx⟩ := hx
      obtain ⟨u83, hx⟩ := hx
      obtain ⟨u84, hx⟩ := hx
      obtain ⟨u85, hx⟩ := hx
      obtain ⟨u86, hx⟩ := hx
      obtain ⟨u87, hx⟩ := hx
      obtain ⟨u88, hx⟩ := hx
      obtain ⟨u89, hx⟩ := hx
      obtain ⟨u90, hx⟩ := hx
      obtain ⟨u91, hx⟩ := hx
      obtain ⟨u92, hx⟩ := hx
      obtain ⟨u93, hx⟩ := hx
      obtain ⟨u94, hx⟩ := hx
      obtain ⟨u95, hx⟩ := hx
      obtain ⟨u96, hx⟩ := hx
      obtain ⟨u97, hx⟩ := hx
      obtain ⟨u98, hx⟩ := hx
      obtain ⟨u99, hx⟩ := hx
      obtain ⟨u100, hx⟩ := hx
      obtain ⟨u101, hx⟩ := hx
      obtain ⟨u102, hx⟩ := hx
      obtain ⟨u103, hx⟩ := hx
      obtain ⟨u104, hx⟩ := hx
      obtain ⟨u105, hx⟩ := hx
      obtain ⟨u106, hx⟩ := hx
      obtain ⟨u107, hx⟩ := hx
      obtain ⟨u108, hx⟩ := hx
      obtain ⟨u109, hx⟩ := hx
      obtain ⟨u110, hx⟩ := hx
      obtain ⟨u111, hx⟩ := hx
      obtain ⟨u112, hx⟩ := hx
      obtain ⟨u113, hx⟩ := hx
      obtain ⟨u114, hx⟩ := hx
      obtain ⟨u115, hx⟩ := hx
      obtain ⟨u116, hx⟩ := hx
      obtain ⟨u117, hx⟩ := hx
      obtain ⟨u118, hx⟩ := hx
      obtain ⟨u119, hx⟩ := hx
      obtain ⟨u120, hx⟩ := hx
      obtain ⟨u121, hx⟩ := hx
      obtain ⟨u122, hx⟩ := hx
      obtain ⟨u123, hx⟩ := hx
      obtain ⟨u124, hx⟩ := hx
      obtain ⟨u125, hx⟩ := hx
      obtain ⟨u126, hx⟩ := hx
      obtain ⟨u127, hx⟩ := hx
      obtain ⟨u128, hx⟩ := hx
      obtain ⟨u129, hx⟩ := hx
      obtain ⟨u130, hx⟩ := hx
      obtain ⟨u131, hx⟩ := hx
      obtain ⟨u132, hx⟩ := hx
      obtain ⟨u133, hx⟩ := hx
      obtain ⟨u134, hx⟩ := hx
      obtain ⟨u135, hx⟩ := hx
      obtain ⟨u136, hx⟩ := hx
      obtain ⟨u137, hx⟩ := hx
      obtain ⟨u138, hx⟩ := hx
      obtain ⟨u139, hx⟩ := hx
      obtain ⟨u140, hx⟩ := hx
      obtain ⟨u141, hx⟩ := hx
      obtain ⟨u142, hx⟩ := hx
      obtain ⟨u143, hx⟩ := hx
      obtain ⟨u144, hx⟩ := hx
      obtain ⟨u145, hx⟩ := hx
      obtain ⟨u146, hx⟩ := hx
      obtain ⟨u147, hx⟩ := hx
      obtain ⟨u148, hx⟩ := hx
      obtain ⟨u149, hx⟩ := hx
      obtain ⟨u150, hx⟩ := hx
      obtain ⟨u151, hx⟩ := hx
      obtain ⟨u152, hx⟩ := hx
      obtain ⟨u153, hx⟩ := hx
      obtain ⟨u154, hx⟩ := hx
      obtain ⟨u155, hx⟩ := hx
      obtain ⟨u156, hx⟩ := hx
      obtain ⟨u157, hx⟩ := hx
      obtain ⟨u158, hx⟩ := hx
      obtain ⟨u159, hx⟩ := hx
      obtain ⟨u160, hx⟩ := hx
      obtain ⟨u161, hx⟩ := hx
      obtain ⟨u162, hx⟩ := hx
      obtain ⟨u163, hx⟩ := hx
      obtain ⟨u164, hx⟩ := hx
      obtain ⟨u165, hx⟩ := hx
      obtain ⟨u166, hx⟩ := hx
      obtain ⟨u167, hx⟩ := hx
      obtain ⟨u168, hx⟩ := hx
      obtain ⟨u169, hx⟩ := hx
      obtain ⟨u170, hx⟩ := hx
      obtain ⟨u171, hx⟩ := hx
      obtain ⟨u172, hx⟩ := hx
      obtain ⟨u173, hx⟩ := hx
      obtain ⟨u174, hx⟩ := hx
      obtain ⟨u175, hx⟩ := hx
      obtain ⟨u176, hx⟩ := hx
      obtain ⟨u177, hx⟩ := hx
      obtain ⟨u178, hx⟩ := hx
      obtain ⟨u179, hx⟩ := hx
      obtain ⟨u180, hx⟩ := hx
      obtain ⟨u181, hx⟩ := hx
      obtain ⟨u182, hx⟩ := hx
      obtain ⟨u183, hx⟩ := hx
      obtain ⟨u184, hx⟩ := hx
      obtain ⟨u185, hx⟩ := hx
      obtain ⟨u186, hx⟩ := hx
      obtain ⟨u187, hx⟩ := hx
      obtain ⟨u188, hx⟩ := hx
      obtain ⟨u189, hx⟩ := hx
      obtain ⟨u190, hx⟩ := hx
      obtain ⟨u191, hx⟩ := hx
      obtain ⟨u192, hx⟩ := hx
      obtain ⟨u193, hx⟩ := hx
      obtain ⟨u194, hx⟩ := hx
      obtain ⟨u195, hx⟩ := hx
      obtain ⟨u196, hx⟩ := hx
      obtain ⟨u197, hx⟩ := hx
      obtain ⟨u198, hx⟩ := hx
      obtain ⟨u199, hx⟩ := hx
      obtain ⟨u200, hx⟩ := hx
      obtain ⟨u201, hx⟩ := hx
      obtain ⟨u202, hx⟩ := hx
      obtain ⟨u203, hx⟩ := hx
      obtain ⟨u204, hx⟩ := hx
      obtain ⟨u205, hx⟩ := hx
      obtain ⟨u206, hx⟩ := hx
      obtain ⟨u207, hx⟩ := hx
      obtain ⟨u208, hx⟩ := hx
      obtain ⟨u209, hx⟩ := hx
      obtain ⟨u210, hx⟩ := hx
      obtain ⟨u211, hx⟩ := hx
      obtain ⟨u212, hx⟩ := hx
      obtain ⟨u213, hx⟩ := hx
      obtain ⟨u214, hx⟩ := hx
      obtain ⟨u215, hx⟩ := hx
      obtain ⟨u216, hx⟩ := hx
      obtain ⟨u217, hx⟩ := hx
      obtain ⟨u218, hx⟩ := hx
      obtain ⟨u219, hx⟩ := hx
      obtain ⟨u220, hx⟩ := hx
      obtain ⟨u221, hx⟩ := hx
      obtain ⟨u222, hx⟩ := hx
      obtain ⟨u223, hx⟩ := hx
      obtain ⟨u224, hx⟩ := hx
      obtain ⟨u225, hx⟩ := hx
      obtain ⟨u226, hx⟩ := hx
      obtain ⟨u227, hx⟩ := hx
      obtain ⟨u228, hx⟩ := hx
      obtain ⟨u229, hx⟩ := hx
      obtain ⟨u230, hx⟩ := hx
      obtain ⟨u231, hx⟩ := hx
      obtain ⟨u232, hx⟩ := hx
      obtain ⟨u233, hx⟩ := hx
      obtain ⟨u234, hx⟩ := hx
      obtain ⟨u235, hx⟩ := hx
      obtain ⟨u236, hx⟩ := hx
      obtain ⟨u237, hx⟩ := hx
      obtain ⟨hr, rfl⟩ := hx
      obtain ⟨v3, r3, rfl, rfl, rfl, HR⟩ := hr
      dsimp only
      go_roundw
      case rel => exact ⟨_, _, i + 1, rfl, rfl, rfl, by omega, HR⟩
      case measure => simp [intOf]; omega
    · obtain rfl : i = n0 := by omega
      obtain ⟨A4, c4, e4, i4⟩ := HT.out.ev.ints (fun z hz => by_u8 (CwV.encE_b HUB.out i z hz))
      obtain ⟨A5, c5, e5, i5⟩ := HT.out.er.ints (fun z hz => by_u8 (CwV.encR_b HUB.out i z hz))
      have hc4 := Str.run_string (P := Tryd.prog) Tryd.underlying23 Tryd.underlying5 Tryd.underlying9 i4
      have hc5 := Str.run_string (P := Tryd.prog) Tryd.underlying23 Tryd.underlying5 Tryd.underlying9 i5
      have hd4 : (convert 23 9 (.slice A4 (encE U M i).length c4)).run Tryd.prog wr.drew = _ := Str.run_string (P := Tryd.prog) Tryd.underlying23 Tryd.underlying5 Tryd.underlying9 (w := wr.drew) i4
      have hd5 : (convert 23 9 (.slice A5 (encR U M i).length c5)).run Tryd.prog wr.drew = _ := Str.run_string (P := Tryd.prog) Tryd.underlying23 Tryd.underlying5 Tryd.underlying9 (w := wr.drew) i5
      obtain ⟨l4, hl4⟩ : ∃ l, l = (encE U M i).length := ⟨_, rfl⟩
      obtain ⟨l5, hl5⟩ : ∃ l, l = (encR U M i).length := ⟨_, rfl⟩
      rw [← hl4] at e4 hc4 hd4
      rw [← hl5] at e5 hc5 hd5
      subst e4
      subst e5
      have HBL := Lib.hid HT.out.bel
      obtain ⟨x4, hx4⟩ : ∃ l, l = bytesOf (encE U M i) := ⟨_, rfl⟩
      obtain ⟨x5, hx5⟩ : ∃ l, l = bytesOf (encR U M i) := ⟨_, rfl⟩
      rw [← hx4] at hc4 hd4
      rw [← hx5] at hc5 hd5
      have HX4 := Lib.hid hx4
      have HX5 := Lib.hid hx5
      clear i4 i5 hl4 hl5 HT hx4 hx5
      go_wp2_with fail
      go_region
      go_wp2_with fail
      go_ret2
      exact ⟨by rw [HX4.out, HX5.out]; rfl, HBL.out.drew⟩

end Go.Proofs.YtalpfbbceggcaaaDoor.CwE
