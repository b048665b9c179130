/- FnMarkReachableMatchesBFS: isExternalDynamicImport. -/
import Derived.Test.YtpidbikdncgogaaRows
import Derived.Test.YtpidbikdncgogaaMem
import Derived.Test.YtpidbikdncgogaaSl
import Derived.Test.YtpidbikdncgogaaMrS
import Derived.Deep.DeepCutAuto
import Derived.Deep.RegionHeld3
import Derived.Carry
import Derived.WalkKit
import Derived.ProofKit
import Derived.OpenShut
import Derived.Below
import Derived.WalkLawsBesides
import Derived.Lib.Hide
import Derived.Outline
import Derived.RegionTactic
import Derived.Deep.QuietTactic
import Derived.BigQuiet
import Derived.WalkSpells
import Derived.Deep.OwnRows
import Derived.IntWalk
import Derived.Deep.DeepMust
namespace Go.Proofs.Ytpidbikdncgogaa.MrE
open Go.RowKit Mem Sl
set_option linter.unusedVariables false
open Args Fvs Fxs Tab MrC MrS

theorem take_to {P : Program} {md : Region.Mode} {ops : Array Oper} {Q : Exit → Act → World → Prop} {S : World → Prop} {i : Nat} {oi : Oper} {d : Option Tmp} {v : Value} {fuel : Nat} {listed : Array Bool} {a : Act} {w : World} (hi : ops[i]? = some oi) (hd : oi.dst = d)
    (hs : Region.noSelect ops = true) (hf : Region.free md ops listed i = true) (hr : (Region.ready md ops listed).contains i = true)
    (hQ : ∀ c a w, Q (.panic c) (a.put d v) w → Q (.panic c) a w) (hy : YieldsIf P ops S oi v a) (hS : S w)
    (h : wpAnyH P md ops Q S fuel (listed.setIfInBounds i true) (a.put d v) w) : wpAnyH P md ops Q S (fuel + 1) listed a w := by
  subst hd
  exact wpAnyH_take hi hs hf hr hQ hy hS h

set_option maxRecDepth 100000 in
set_option maxHeartbeats 8000000 in
theorem ext22 (c q g O n t s : Nat) (cs : Bool) (kd : Int) (hn : n ≤ 256) (ht : t < n) (w : World) (c0 : w.cell? ⟨c, 0, none⟩ = some (.pointer (some ⟨q, 0, none⟩))) (q0 : w.cell? ⟨q, 79, none⟩ = some (.bool cs)) (g14 : w.cell? ⟨g, 14, none⟩ = some (.int .u8 kd)) (g10 : w.cell? ⟨g, 10, none⟩ = some (.int .u32 (4294967295 - (t : Int))))
    (c10 : w.cell? ⟨c, 10, none⟩ = some (.slice (some ⟨O, 0, none⟩) n n)) (f22 : w.cell? ⟨O, t * 24 + 22, none⟩ = some (.int .u8 0)) :
    Calls Try.prog 22 #[.pointer (some ⟨c, 0, none⟩), .pointer (some ⟨g, 0, none⟩), .int .u32 (s : Int)] w fun e w' => e = .returned (.bool false) ∧ Below w.heap.size w w' := by
  have HB := Lib.hid (Below.refl w.heap.size w)
  cases cs
  · go_enter Try.func22, Try.ntmps22
    go_wp2_with fail
    go_quiet (fail)
    go_wp2_with fail
    go_ret
    exact ⟨rfl, below_drewN HB.out _⟩
  · cases hk : (kd == 3)
    · go_enter Try.func22, Try.ntmps22
      go_wp2_with fail
      go_quiet (fail)
      go_wp2_with fail
      go_ret
      exact ⟨rfl, below_drewN HB.out _⟩
    · have t4 : t < 4294967296 := by omega
      have NEW := Lib.hid (show ∀ W : World, Below w.heap.size w W → (W.cell? ⟨c, 0, none⟩ = some (.pointer (some ⟨q, 0, none⟩)) ∧ W.cell? ⟨q, 79, none⟩ = some (.bool true) ∧ W.cell? ⟨g, 14, none⟩ = some (.int .u8 kd) ∧ W.cell? ⟨g, 10, none⟩ = some (.int .u32 (4294967295 - (t : Int))) ∧ W.cell? ⟨c, 10, none⟩ = some (.slice (some ⟨O, 0, none⟩) n n) ∧ W.cell? ⟨O, t * 24 + 22, none⟩ = some (.int .u8 0)) from
        fun W hW => ⟨cell_later hW c0, cell_later hW q0, cell_later hW g14, cell_later hW g10, cell_later hW c10, cell_later hW f22⟩)
      go_enter Try.func22, Try.ntmps22
      go_wp2_with fail
      refine wp_region_held_drew (S := (fun W => W.cell? ⟨c, 0, none⟩ = some (.pointer (some ⟨q, 0, none⟩)) ∧ W.cell? ⟨q, 79, none⟩ = some (.bool true) ∧ W.cell? ⟨g, 14, none⟩ = some (.int .u8 kd) ∧ W.cell? ⟨g, 10, none⟩ = some (.int .u32 (4294967295 - (t : Int))) ∧ W.cell? ⟨c, 10, none⟩ = some (.slice (some ⟨O, 0, none⟩) n n) ∧ W.cell? ⟨O, t * 24 + 22, none⟩ = some (.int .u8 0))) (by kernel_rfl) ⟨c0, q0, g14, g10, c10, f22⟩ (fun hHeld => ?_)
      refine take_to (i := 0) (d := some 7) (v := .pointer (some ⟨c, 0, none⟩)) rfl rfl (by kernel_rfl) (by kernel_rfl) (by kernel_rfl) (fun _ _ _ h => h) (Or.inl ⟨by kernel_rfl, fun W _ => by go_simp⟩) ⟨c0, q0, g14, g10, c10, f22⟩ ?_
      simp only [Act.put, List.setIfInBounds_toArray, List.set_cons_zero, List.set_cons_succ]
      refine take_to (i := 1) (d := some 8) (v := .pointer (some ⟨c, 0, none⟩)) rfl rfl (by kernel_rfl) (by kernel_rfl) (by kernel_rfl) (fun _ _ _ h => h) (Or.inl ⟨by kernel_rfl, fun W _ => by go_simp⟩) ⟨c0, q0, g14, g10, c10, f22⟩ ?_
      simp only [Act.put, List.setIfInBounds_toArray, List.set_cons_zero, List.set_cons_succ]
      refine take_to (i := 2) (d := some 9) (v := .pointer (some ⟨c, 0, none⟩)) rfl rfl (by kernel_rfl) (by kernel_rfl) (by kernel_rfl) (fun _ _ _ h => h) (Or.inl ⟨by kernel_rfl, fun W _ => by go_simp⟩) ⟨c0, q0, g14, g10, c10, f22⟩ ?_
      simp only [Act.put, List.setIfInBounds_toArray, List.set_cons_zero, List.set_cons_succ]
      refine take_to (i := 3) (d := some 10) (v := .pointer (some ⟨q, 0, none⟩)) rfl rfl (by kernel_rfl) (by kernel_rfl) (by kernel_rfl) (fun _ _ _ h => h) (Or.inl ⟨by kernel_rfl, fun W hS => by obtain ⟨h1, h2, h3, h4, h5, h6⟩ := hS; go_simp⟩) ⟨c0, q0, g14, g10, c10, f22⟩ ?_
      simp only [Act.put, List.setIfInBounds_toArray, List.set_cons_zero, List.set_cons_succ]
      refine take_to (i := 4) (d := some 11) (v := .pointer (some ⟨q, 0, none⟩)) rfl rfl (by kernel_rfl) (by kernel_rfl) (by kernel_rfl) (fun _ _ _ h => h) (Or.inl ⟨by kernel_rfl, fun W _ => by go_simp⟩) ⟨c0, q0, g14, g10, c10, f22⟩ ?_
      simp only [Act.put, List.setIfInBounds_toArray, List.set_cons_zero, List.set_cons_succ]
      refine take_to (i := 5) (d := some 12) (v := .pointer (some ⟨q, 79, none⟩)) rfl rfl (by kernel_rfl) (by kernel_rfl) (by kernel_rfl) (fun _ _ _ h => h) (Or.inl ⟨by kernel_rfl, fun W _ => by go_simp⟩) ⟨c0, q0, g14, g10, c10, f22⟩ ?_
      simp only [Act.put, List.setIfInBounds_toArray, List.set_cons_zero, List.set_cons_succ]
      refine take_to (i := 6) (d := some 13) (v := .bool true) rfl rfl (by kernel_rfl) (by kernel_rfl) (by kernel_rfl) (fun _ _ _ h => h) (Or.inl ⟨by kernel_rfl, fun W hS => by obtain ⟨h1, h2, h3, h4, h5, h6⟩ := hS; go_simp⟩) ⟨c0, q0, g14, g10, c10, f22⟩ ?_
      simp only [Act.put, List.setIfInBounds_toArray, List.set_cons_zero, List.set_cons_succ]
      refine take_to (i := 7) (d := some 14) (v := .bool true) rfl rfl (by kernel_rfl) (by kernel_rfl) (by kernel_rfl) (fun _ _ _ h => h) (Or.inl ⟨by kernel_rfl, fun W _ => by go_simp⟩) ⟨c0, q0, g14, g10, c10, f22⟩ ?_
      simp only [Act.put, List.setIfInBounds_toArray, List.set_cons_zero, List.set_cons_succ]
      refine take_to (i := 8) (d := some 15) (v := .pointer (some ⟨g, 0, none⟩)) rfl rfl (by kernel_rfl) (by kernel_rfl) (by kernel_rfl) (fun _ _ _ h => h) (Or.inl ⟨by kernel_rfl, fun W _ => by go_simp⟩) ⟨c0, q0, g14, g10, c10, f22⟩ ?_
      simp only [Act.put, List.setIfInBounds_toArray, List.set_cons_zero, List.set_cons_succ]
      refine take_to (i := 9) (d := some 16) (v := .pointer (some ⟨g, 0, none⟩)) rfl rfl (by kernel_rfl) (by kernel_rfl) (by kernel_rfl) (fun _ _ _ h => h) (Or.inl ⟨by kernel_rfl, fun W _ => by go_simp⟩) ⟨c0, q0, g14, g10, c10, f22⟩ ?_
      simp only [Act.put, List.setIfInBounds_toArray, List.set_cons_zero, List.set_cons_succ]
      refine take_to (i := 10) (d := some 17) (v := .pointer (some ⟨g, 14, none⟩)) rfl rfl (by kernel_rfl) (by kernel_rfl) (by kernel_rfl) (fun _ _ _ h => h) (Or.inl ⟨by kernel_rfl, fun W _ => by go_simp⟩) ⟨c0, q0, g14, g10, c10, f22⟩ ?_
      simp only [Act.put, List.setIfInBounds_toArray, List.set_cons_zero, List.set_cons_succ]
      refine take_to (i := 11) (d := some 18) (v := .int .u8 kd) rfl rfl (by kernel_rfl) (by kernel_rfl) (by kernel_rfl) (fun _ _ _ h => h) (Or.inl ⟨by kernel_rfl, fun W hS => by obtain ⟨h1, h2, h3, h4, h5, h6⟩ := hS; go_simp⟩) ⟨c0, q0, g14, g10, c10, f22⟩ ?_
      simp only [Act.put, List.setIfInBounds_toArray, List.set_cons_zero, List.set_cons_succ]
      refine take_to (i := 12) (d := some 19) (v := .bool true) rfl rfl (by kernel_rfl) (by kernel_rfl) (by kernel_rfl) (fun _ _ _ h => h) (Or.inl ⟨by kernel_rfl, fun W _ => by go_simp⟩) ⟨c0, q0, g14, g10, c10, f22⟩ ?_
      simp only [Act.put, List.setIfInBounds_toArray, List.set_cons_zero, List.set_cons_succ]
      refine take_to (i := 13) (d := some 20) (v := .bool true) rfl rfl (by kernel_rfl) (by kernel_rfl) (by kernel_rfl) (fun _ _ _ h => h) (Or.inl ⟨by kernel_rfl, fun W _ => by go_simp⟩) ⟨c0, q0, g14, g10, c10, f22⟩ ?_
      simp only [Act.put, List.setIfInBounds_toArray, List.set_cons_zero, List.set_cons_succ]
      refine take_to (i := 14) (d := some 21) (v := .bool true) rfl rfl (by kernel_rfl) (by kernel_rfl) (by kernel_rfl) (fun _ _ _ h => h) (Or.inl ⟨by kernel_rfl, fun W _ => by go_simp⟩) ⟨c0, q0, g14, g10, c10, f22⟩ ?_
      simp only [Act.put, List.setIfInBounds_toArray, List.set_cons_zero, List.set_cons_succ]
      refine take_to (i := 15) (d := some 22) (v := .pointer (some ⟨c, 0, none⟩)) rfl rfl (by kernel_rfl) (by kernel_rfl) (by kernel_rfl) (fun _ _ _ h => h) (Or.inl ⟨by kernel_rfl, fun W _ => by go_simp⟩) ⟨c0, q0, g14, g10, c10, f22⟩ ?_
      simp only [Act.put, List.setIfInBounds_toArray, List.set_cons_zero, List.set_cons_succ]
      refine take_to (i := 16) (d := some 23) (v := .pointer (some ⟨c, 0, none⟩)) rfl rfl (by kernel_rfl) (by kernel_rfl) (by kernel_rfl) (fun _ _ _ h => h) (Or.inl ⟨by kernel_rfl, fun W _ => by go_simp⟩) ⟨c0, q0, g14, g10, c10, f22⟩ ?_
      simp only [Act.put, List.setIfInBounds_toArray, List.set_cons_zero, List.set_cons_succ]
      refine take_to (i := 17) (d := some 24) (v := .pointer (some ⟨c, 10, none⟩)) rfl rfl (by kernel_rfl) (by kernel_rfl) (by kernel_rfl) (fun _ _ _ h => h) (Or.inl ⟨by kernel_rfl, fun W _ => by go_simp⟩) ⟨c0, q0, g14, g10, c10, f22⟩ ?_
      simp only [Act.put, List.setIfInBounds_toArray, List.set_cons_zero, List.set_cons_succ]
      refine take_to (i := 18) (d := some 25) (v := .pointer (some ⟨c, 10, none⟩)) rfl rfl (by kernel_rfl) (by kernel_rfl) (by kernel_rfl) (fun _ _ _ h => h) (Or.inl ⟨by kernel_rfl, fun W _ => by go_simp⟩) ⟨c0, q0, g14, g10, c10, f22⟩ ?_
      simp only [Act.put, List.setIfInBounds_toArray, List.set_cons_zero, List.set_cons_succ]
      refine take_to (i := 19) (d := some 26) (v := .slice (some ⟨O, 0, none⟩) n n) rfl rfl (by kernel_rfl) (by kernel_rfl) (by kernel_rfl) (fun _ _ _ h => h) (Or.inl ⟨by kernel_rfl, fun W hS => by obtain ⟨h1, h2, h3, h4, h5, h6⟩ := hS; go_simp⟩) ⟨c0, q0, g14, g10, c10, f22⟩ ?_
      simp only [Act.put, List.setIfInBounds_toArray, List.set_cons_zero, List.set_cons_succ]
      refine take_to (i := 20) (d := some 27) (v := .pointer (some ⟨g, 0, none⟩)) rfl rfl (by kernel_rfl) (by kernel_rfl) (by kernel_rfl) (fun _ _ _ h => h) (Or.inl ⟨by kernel_rfl, fun W _ => by go_simp⟩) ⟨c0, q0, g14, g10, c10, f22⟩ ?_
      simp only [Act.put, List.setIfInBounds_toArray, List.set_cons_zero, List.set_cons_succ]
      refine take_to (i := 21) (d := some 28) (v := .pointer (some ⟨g, 0, none⟩)) rfl rfl (by kernel_rfl) (by kernel_rfl) (by kernel_rfl) (fun _ _ _ h => h) (Or.inl ⟨by kernel_rfl, fun W _ => by go_simp⟩) ⟨c0, q0, g14, g10, c10, f22⟩ ?_
      simp only [Act.put, List.setIfInBounds_toArray, List.set_cons_zero, List.set_cons_succ]
      refine take_to (i := 22) (d := some 29) (v := .pointer (some ⟨g, 10, none⟩)) rfl rfl (by kernel_rfl) (by kernel_rfl) (by kernel_rfl) (fun _ _ _ h => h) (Or.inl ⟨by kernel_rfl, fun W _ => by go_simp⟩) ⟨c0, q0, g14, g10, c10, f22⟩ ?_
      simp only [Act.put, List.setIfInBounds_toArray, List.set_cons_zero, List.set_cons_succ]
      refine take_to (i := 23) (d := some 30) (v := .agg #[.int .u32 (4294967295 - (t : Int))]) rfl rfl (by kernel_rfl) (by kernel_rfl) (by kernel_rfl) (fun _ _ _ h => h) (Or.inl ⟨by kernel_rfl, fun W hS => by obtain ⟨h1, h2, h3, h4, h5, h6⟩ := hS; go_simp⟩) ⟨c0, q0, g14, g10, c10, f22⟩ ?_
      simp only [Act.put, List.setIfInBounds_toArray, List.set_cons_zero, List.set_cons_succ]
      refine wpAnyH_ready (rs := [24]) (by kernel_rfl) (by simp) ?_
      refine AllReadyH.cons rfl (fun K hK => ?_) AllReadyH.nil
      go_simp
      refine (get21 t t4 _).mono ?_
      rintro e w1 ⟨rfl, hb⟩
      have HB1 := Lib.hid (HB.out.drew.trans (hb.mono HB.out.size))
      clear hb
      try go_simp
      refine hK.out _ _ (NEW.out _ HB1.out) (fun _ => ?_)
      clear hK K
      try simp only [Act.put, List.setIfInBounds_toArray, List.set_cons_zero, List.set_cons_succ]
      refine take_to (i := 25) (d := some 32) (v := .pointer (some ⟨O, t * 24, none⟩)) rfl rfl (by kernel_rfl) (by kernel_rfl) (by kernel_rfl) (fun _ _ _ h => h) (Or.inl ⟨by kernel_rfl, fun W _ => by go_simp⟩) (NEW.out _ HB1.out) ?_
      simp only [Act.put, List.setIfInBounds_toArray, List.set_cons_zero, List.set_cons_succ]
      refine wpAnyH_ready (rs := [26]) (by kernel_rfl) (by simp) ?_
      refine AllReadyH.cons rfl (fun K hK => ?_) AllReadyH.nil
      go_simp
      refine (entry23 O (t * 24) _ (NEW.out _ HB1.out).2.2.2.2.2).mono ?_
      rintro e w2 ⟨rfl, rfl⟩
      try go_simp
      refine hK.out _ _ (NEW.out _ HB1.out) (fun _ => ?_)
      clear hK K
      try simp only [Act.put, List.setIfInBounds_toArray, List.set_cons_zero, List.set_cons_succ]
      refine take_to (i := 27) (d := some 34) (v := .bool false) rfl rfl (by kernel_rfl) (by kernel_rfl) (by kernel_rfl) (fun _ _ _ h => h) (Or.inl ⟨by kernel_rfl, fun W _ => by go_simp⟩) (NEW.out _ HB1.out) ?_
      simp only [Act.put, List.setIfInBounds_toArray, List.set_cons_zero, List.set_cons_succ]
      refine take_to (i := 28) (d := some 35) (v := .bool false) rfl rfl (by kernel_rfl) (by kernel_rfl) (by kernel_rfl) (fun _ _ _ h => h) (Or.inl ⟨by kernel_rfl, fun W _ => by go_simp⟩) (NEW.out _ HB1.out) ?_
      simp only [Act.put, List.setIfInBounds_toArray, List.set_cons_zero, List.set_cons_succ]
      refine take_to (i := 29) (d := some 36) (v := undef) rfl rfl (by kernel_rfl) (by kernel_rfl) (by kernel_rfl) (fun _ _ _ h => h) (Or.inr ⟨by kernel_rfl, rfl⟩) (NEW.out _ HB1.out) ?_
      simp only [Act.put, List.setIfInBounds_toArray, List.set_cons_zero, List.set_cons_succ]
      refine take_to (i := 30) (d := some 37) (v := undef) rfl rfl (by kernel_rfl) (by kernel_rfl) (by kernel_rfl) (fun _ _ _ h => h) (Or.inr ⟨by kernel_rfl, rfl⟩) (NEW.out _ HB1.out) ?_
      simp only [Act.put, List.setIfInBounds_toArray, List.set_cons_zero, List.set_cons_succ]
      refine take_to (i := 31) (d := some 38) (v := undef) rfl rfl (by kernel_rfl) (by kernel_rfl) (by kernel_rfl) (fun _ _ _ h => h) (Or.inr ⟨by kernel_rfl, rfl⟩) (NEW.out _ HB1.out) ?_
      simp only [Act.put, List.setIfInBounds_toArray, List.set_cons_zero, List.set_cons_succ]
      refine take_to (i := 32) (d := some 39) (v := undef) rfl rfl (by kernel_rfl) (by kernel_rfl) (by kernel_rfl) (fun _ _ _ h => h) (Or.inr ⟨by kernel_rfl, rfl⟩) (NEW.out _ HB1.out) ?_
      simp only [Act.put, List.setIfInBounds_toArray, List.set_cons_zero, List.set_cons_succ]
      refine take_to (i := 33) (d := some 40) (v := undef) rfl rfl (by kernel_rfl) (by kernel_rfl) (by kernel_rfl) (fun _ _ _ h => h) (Or.inr ⟨by kernel_rfl, rfl⟩) (NEW.out _ HB1.out) ?_
      simp only [Act.put, List.setIfInBounds_toArray, List.set_cons_zero, List.set_cons_succ]
      refine take_to (i := 34) (d := some 41) (v := undef) rfl rfl (by kernel_rfl) (by kernel_rfl) (by kernel_rfl) (fun _ _ _ h => h) (Or.inr ⟨by kernel_rfl, rfl⟩) (NEW.out _ HB1.out) ?_
      simp only [Act.put, List.setIfInBounds_toArray, List.set_cons_zero, List.set_cons_succ]
      refine take_to (i := 35) (d := some 42) (v := undef) rfl rfl (by kernel_rfl) (by kernel_rfl) (by kernel_rfl) (fun _ _ _ h => h) (Or.inr ⟨by kernel_rfl, rfl⟩) (NEW.out _ HB1.out) ?_
      simp only [Act.put, List.setIfInBounds_toArray, List.set_cons_zero, List.set_cons_succ]
      refine take_to (i := 36) (d := some 43) (v := .bool false) rfl rfl (by kernel_rfl) (by kernel_rfl) (by kernel_rfl) (fun _ _ _ h => h) (Or.inl ⟨by kernel_rfl, fun W _ => by go_simp⟩) (NEW.out _ HB1.out) ?_
      simp only [Act.put, List.setIfInBounds_toArray, List.set_cons_zero, List.set_cons_succ]
      refine take_to (i := 37) (d := some 6) (v := .bool false) rfl rfl (by kernel_rfl) (by kernel_rfl) (by kernel_rfl) (fun _ _ _ h => h) (Or.inl ⟨by kernel_rfl, fun W _ => by go_simp⟩) (NEW.out _ HB1.out) ?_
      simp only [Act.put, List.setIfInBounds_toArray, List.set_cons_zero, List.set_cons_succ]
      refine wpAnyH_done (by kernel_rfl) ?_ _
      go_wp2_with fail
      go_ret
      exact ⟨rfl, HB1.out⟩
end Go.Proofs.Ytpidbikdncgogaa.MrE
