/- FnSmallIntToBytesDecimal: the law. -/
import Derived.Test.YtboeigdmccafhaaRows
import Derived.Test.YtboeigdmccafhaaMem
import Derived.Test.YtboeigdmccafhaaSl
import Derived.Test.YtboeigdmccafhaaOwn
import Derived.Test.YtboeigdmccafhaaDig
import Derived.Test.YtboeigdmccafhaaStr
import Derived.Test.YtboeigdmccafhaaSiA
import Derived.Test.YtboeigdmccafhaaSiB
import Derived.Test.YtboeigdmccafhaaSiC
import Derived.Test.YtboeigdmccafhaaSiE
import Derived.OwnWalk
import Derived.Great.BuildSlice
import Derived.Deep.RegionHeld3
import Derived.WalkKit
import Derived.ProofKit
import Derived.OpenShut
import Derived.Below
import Derived.WalkLawsBesides
import Derived.Lib.Hide
import Derived.Outline
import Derived.RegionTactic
import Derived.Deep.QuietTactic
import Derived.BigQuiet
import Derived.WalkSpells
import Derived.Deep.OwnRows
import Derived.IntWalk
import Derived.Deep.DeepMust
namespace Go.Proofs.Ytboeigdmccafhaa.SiF
open Go.RowKit Mem Sl
set_option linter.unusedVariables false
open Own Dig Str SiA SiB SiC SiE

noncomputable def zo : Array Value := match (Try.prog.info? 44).bind (fun i => i.zero) with | some (.agg cs) => cs | _ => #[]
noncomputable def zp : Array Value := match (Try.prog.info? 75).bind (fun i => i.zero) with | some (.agg cs) => cs | _ => #[]
theorem zp_size : zp.size = 139 := by kernel_rfl
/-- A new printer at p. -/
def New (w : World) (e : Ending) (w' : World) : Prop := ∃ ys, e = .returned (.pointer (some ⟨w.heap.size, 0, none⟩)) ∧ Row w' w.heap.size 75 ys ∧ ys.length = 139 ∧ Below w.heap.size w w' ∧ w'.heap.size = w.heap.size + 1
set_option maxRecDepth 100000 in
set_option maxHeartbeats 1000000 in
theorem new5 (w : World) : Calls Try.prog 5 #[.slice none 0 0, .int .i64 0, .int .i64 0, .bool false, .bool false] w (New w) := by
  obtain ⟨W, hW, hrow, hbel, hsz⟩ := made_box w 75 zp
  have HW := Lib.hid hW
  have HR := Lib.hid hrow
  have HB := Lib.hid hbel
  have HS := Lib.hid hsz
  clear hW hrow hbel hsz
  go_enter Try.func5, Try.ntmps5
  go_wp2_with (first | (refine wpList_buildTo rfl 44 _ rfl (some 16) rfl zo (by kernel_rfl) ?_) | (refine wpList_buildTo rfl 75 _ rfl (some 17) rfl zp (by kernel_rfl) ?_))
  rw [HW.out]
  go_ret
  exact ⟨_, rfl, HR.out, by simpa using zp_size, HB.out, HS.out⟩
theorem small6 (a : Int) (p : Nat) (xs : List Nat) (w : World) (h : Calls Try.prog 8 #[.pointer (some ⟨p, 0, none⟩), .int .i64 a] w (SiP w p xs)) :
    Calls Try.prog 6 #[.pointer (some ⟨p, 0, none⟩), .int .i64 a] w (SiP w p xs) := by
  have H := Lib.hid h
  clear h
  go_enter Try.func6, Try.ntmps6
  go_wp2_with fail
  refine H.out.mono ?_
  rintro e w' ⟨t, ht, rfl, hc, hg⟩
  have HT := Lib.hid (And.intro ht (And.intro hc hg))
  clear ht hc hg
  go_wp2_with fail
  go_ret
  exact ⟨t, HT.out.1, rfl, HT.out.2.1, HT.out.2.2⟩
theorem sip_ints {w' : World} {p t : Nat} {xs : List Nat} (ht : t + xs.length = 64) (hx : ∀ d ∈ xs, d < 256) (hp : p < w'.heap.size) (hc : ∀ (i d : Nat), xs[i]? = some d → w'.cell? ⟨p, 71 + t + i, none⟩ = some (.int .u8 (d : Int))) :
    Args.IsInts .u8 w' (some ⟨p, 71 + t, none⟩) xs.length xs.length (xs.map fun (d : Nat) => (d : Int)) := by
  refine ⟨Nat.le_refl _, by unfold maxLen; omega, by simp, ?_, (fun h => by cases h), fun _ => ⟨p, 71 + t, rfl, hp, fun i hi => ?_⟩⟩
  · intro z hz
    obtain ⟨d, hd, rfl⟩ := List.mem_map.1 hz
    have := hx d hd
    exact WalkArith.wf_u8 (by omega)
  · have e : (xs.map fun (d : Nat) => (d : Int)).getD i 0 = (xs[i] : Nat) := by simp [List.getD, hi]
    rw [e]
    exact hc i _ (by simp [hi])
set_option maxRecDepth 100000 in
set_option maxHeartbeats 4000000 in
theorem law_go (a : Int) (xs : List Nat) (bs : ByteArray) (w : World) (h0 : -9223372036854775808 ≤ a) (h1 : a ≤ 9223372036854775807) (hne : a ≠ -9223372036854775808) (hx : ∀ d ∈ xs, d < 256) (hbs : bytesOf (xs.map fun (d : Nat) => (d : Int)) = bs)
    (h8 : ∀ (W : World) p ys, Row W p 75 ys → ys.length = 139 → Calls Try.prog 6 #[.pointer (some ⟨p, 0, none⟩), .int .i64 a] W (SiP W p xs))
    (h7 : ∀ W : World, Calls Try.prog 7 #[.int .i64 a] W fun e w' => e = .returned (.string bs) ∧ Below W.heap.size W w') :
    Calls Try.prog 3 #[.int .i64 a] w fun e w' => e = .returned (.bool true) ∧ Below w.heap.size w w' := by
  have H8 := Lib.hid h8
  have H7 := Lib.hid h7
  have HX := Lib.hid hx
  have HBS := Lib.hid hbs
  have tne : decide (a ≠ -9223372036854775808) = true := by simpa using hne
  have K4 := Lib.hid (ok4 a w h0 h1)
  rw [tne] at K4
  clear h8 h7 hx hbs tne hne
  go_enter Try.func3, Try.ntmps3
  go_wp2_with fail
  refine K4.out.mono ?_
  rintro e w' ⟨rfl, rfl⟩
  go_wp2_with fail
  refine (new5 w).mono ?_
  rintro e w1 ⟨ys, rfl, hr, hy, hb, hs⟩
  have K8 := Lib.hid (H8.out w1 w.heap.size ys hr hy)
  have HB := Lib.hid hb
  have HS := Lib.hid hs
  clear hr hy hb hs
  go_wp2_with fail
  refine K8.out.mono ?_
  rintro e w2 ⟨t, ht, rfl, hc, hg⟩
  have hp : w.heap.size < w2.heap.size := by have := hg.size; have := HS.out; omega
  have hi := sip_ints ht HX.out hp hc
  have HCV := Lib.hid (show ∀ W : World, Below w2.heap.size w2 W → (convert 25 9 (.slice (some ⟨w.heap.size, 71 + t, none⟩) xs.length xs.length)).run Try.prog W = .ok (.string bs) W from fun W hW => by
    rw [← HBS.out]; exact run_string (P := Try.prog) Try.underlying25 Try.underlying5 Try.underlying9 (hi.later hW))
  have HB2 := Lib.hid (HB.out.trans (grown_below hg (Nat.le_refl _) HB.out.size))
  generalize xs.length = n at *
  have hcv := HCV.out w2 (Below.refl _ _)
  clear ht hc hg hi
  go_wp2_with fail
  go_region_held3 (fun w' => (convert 25 9 (.slice (some ⟨w.heap.size, 71 + t, none⟩) n n)).run Try.prog w' = .ok (.string bs) w') (first | exact HCV.out _ HB'.out | exact HCV.out _ (Below.refl _ _) | exact HCV.out _ ((Below.refl _ _).drew))
    (first | (go_at_call 7; refine (H7.out _).mono ?_; rintro e w' ⟨rfl, hb⟩; have HB' := Lib.hid ((Below.refl w2.heap.size w2).drew.trans hb); clear hb))
  all_goals
    go_wp2
    go_ret
    exact ⟨rfl, HB2.out.trans (HB'.out.mono HB2.out.size)⟩
theorem law (a0 : Int) (w : World) (w0 : (Lit.int .i64 a0).wf = true) :
    Calls Try.prog 3 #[.int .i64 a0] w fun e w' => e = .returned (.bool true) ∧ Below w.heap.size w w' := by
  have hb : -9223372036854775808 ≤ a0 ∧ a0 ≤ 9223372036854775807 := by
    simpa [Lit.wf, IntKind.min, IntKind.max, IntKind.bits, IntKind.signed] using w0
  obtain ⟨h0, h1⟩ := hb
  clear w0
  by_cases hne : a0 = -9223372036854775808
  · subst hne
    have K4 := Lib.hid (ok4 (-9223372036854775808) w (by omega) (by omega))
    go_enter Try.func3, Try.ntmps3
    go_wp2_with fail
    refine K4.out.mono ?_
    rintro e w' ⟨rfl, rfl⟩
    go_wp2_with fail
    go_ret
    exact ⟨rfl, Below.refl _ _⟩
  · have hasc : ∀ n, ∀ d ∈ asc (digs n), d < 256 := by
      intro n d hd
      obtain ⟨e, he, rfl⟩ := List.mem_map.1 hd
      have := digs_small n e he
      omega
    rcases Int.lt_or_le a0 0 with hn | hn
    · obtain ⟨n, rfl⟩ : ∃ n : Nat, a0 = -(n : Int) := ⟨(-a0).toNat, by omega⟩
      refine law_go _ (45 :: asc (digs n)) (bytesOf (txt [45] n)) w h0 h1 hne ?_ ?_ (fun W p ys hr hy => small6 _ p _ W (si8n p n W ys hr hy (by omega) (by omega))) (fun W => de7n n W (by omega) (by omega))
      · intro d hd
        rcases List.mem_cons.1 hd with rfl | hd
        · omega
        · exact hasc n d hd
      · simp [txt, asc, Function.comp_def]
    · obtain ⟨n, rfl⟩ : ∃ n : Nat, a0 = (n : Int) := ⟨a0.toNat, by omega⟩
      refine law_go _ (asc (digs n)) (bytesOf (txt [] n)) w h0 h1 hne (hasc n) ?_ (fun W p ys hr hy => small6 _ p _ W (si8 p n W ys hr hy (by omega))) (fun W => de7 n W (by omega))
      simp [txt, asc, Function.comp_def]
end Go.Proofs.Ytboeigdmccafhaa.SiF
