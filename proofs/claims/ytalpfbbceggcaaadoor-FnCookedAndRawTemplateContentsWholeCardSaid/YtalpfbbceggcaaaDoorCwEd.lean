/- FnCookedAndRawTemplateContentsWhole: the encoder, modes 5. -/
import Derived.Test.YtalpfbbceggcaaaDoorCwK
import Derived.Test.YtalpfbbceggcaaaDoorCwJ
import Derived.Great.BuildSlice
import Derived.Deep.DeepCutAuto
import Derived.Deep.CutBlock
import Derived.Laws.MakeOwn
import Derived.WalkKit
import Derived.ProofKit
import Derived.OpenShut
import Derived.Below
import Derived.WalkLawsBesides
import Derived.Lib.Hide
import Derived.Outline
import Derived.RegionTactic
import Derived.Deep.QuietTactic
import Derived.BigQuiet
import Derived.WalkSpells
import Derived.Deep.OwnRows
import Derived.IntWalk
import Derived.Deep.DeepMust
namespace Go.Proofs.YtalpfbbceggcaaaDoor.CwEd
open Go.RowKit Mem Args Own Str CwP CwH CwG CwA CwB CwT CwK
set_option linter.unusedVariables false
set_option linter.unusedSimpArgs false
set_option maxRecDepth 100000 in
set_option maxHeartbeats 4000000 in
theorem arm5 {w wc : World} {A2 : Option Addr} {c2 L2 : Nat} {r' : Value} {Z Y : List Int} {u m : Int} {up : Bool} {s0 s1 s3 s4 s5 s6 s7 s10 s14 s16 s17 s18 s19 s20 s21 s22 s23 s24 s25 s26 s27 s28 s29 s30 s31 s32 s33 s34 s35 s36 s37 s38 s39 s40 s41 s42 s43 s44 s45 s46 s47 s48 s49 s50 s51 s52 s53 s54 s55 s56 s57 s58 s59 s60 s61 s62 s63 s64 s65 s66 s67 s68 s69 s70 s71 s72 s73 s74 s75 s76 s77 s78 s79 s80 s81 s82 s83 s84 s85 s86 s87 s88 s89 s90 s91 s92 s93 s94 s95 s96 s97 s98 s103 s104 s105 s106 s107 s108 s109 s110 s111 s112 s113 s114 s115 s116 s117 s118 s119 s120 s121 s122 s123 s124 s125 s126 s127 s128 s129 s130 s131 s132 s133 s134 s135 s136 s137 s138 s139 s140 s141 s142 s143 s144 s145 s146 s147 s148 s149 s150 s151 s152 s153 s154 s155 s156 s157 s158 s159 s160 s161 s162 s163 s164 s165 s166 s167 s168 s169 s170 s171 s172 s173 s174 s175 s176 s177 s178 s179 s180 s181 s182 s183 s184 s185 s186 s187 s188 s189 s190 s191 s192 s193 s194 s195 s196 s197 s198 s199 s200 s201 s202 s203 s204 s205 s206 s207 s208 s209 s210 s211 s212 s213 s214 s215 s216 s217 s218 s219 s220 s221 s222 s223 s224 s225 s226 s227 s228 s229 s230 s231 s232 s233 s234 s235 s236 s237 s238 s239 s240 s241 : Value} {J K' : Act → World → Prop} {Q' : Exit → Act → World → Prop}
    (hub : 0 ≤ u ∧ u ≤ 65535) (hmb : 0 ≤ m ∧ m ≤ 255) (HUP : Hid (up = up8 m)) (HD : Hid (5 = m % 8)) (hL2b : L2 ≤ 2000000) (HL2 : Hid (L2 = Z.length)) (HZL : Hid (Z.length ≤ 2000000 ∧ Y.length ≤ 2000000)) (HT2 : Hid (Tw w wc (.slice A2 L2 c2) r' Z Y))
    (HJ : ∀ (a' : Act) (w' : World), CwJ.RJ w r' Z Y u m up L2 s0 s1 s3 s4 s5 s6 s7 s10 s14 s19 s20 s21 s22 s23 s24 s25 s26 s238 s239 s240 s241 a' w' → J a' w') (hK : ∀ (a' : Act) (w' : World), Met J a' w' → K' a' w')
    {JQ : Act → World → Prop} (HQ : ∀ (a' : Act) (w' : World), CwJ.RQ w r' Z Y u m up L2 s0 s1 s3 s4 s5 s6 s7 s10 s14 s19 s20 s21 s22 s23 s24 s25 s26 s238 s239 s240 s241 a' w' → JQ a' w') (hQ : ∀ (a' : Act) (w' : World), Met JQ a' w' → Q' (.exit 1) a' w')
    : Code.wp Tryd.prog (blkOf 3 Tryd.f7) (Exit.then K' Q') { tmps := #[s0, s1, .bool true, s3, s4, s5, s6, s7, .slice A2 L2 c2, r', s10, .int .u16 u, .int .u8 m, .bool up, s14, .int .i64 L2, s16, s17, s18, s19, s20, s21, s22, s23, s24, s25, s26, s27, s28, s29, s30, s31, s32, s33, s34, s35, s36, s37, s38, s39, s40, s41, s42, s43, s44, s45, s46, s47, s48, s49, s50, s51, s52, s53, s54, s55, s56, s57, s58, s59, s60, s61, s62, s63, s64, s65, s66, s67, s68, s69, s70, s71, s72, s73, s74, s75, s76, s77, s78, s79, s80, s81, s82, s83, s84, s85, s86, s87, s88, s89, s90, s91, s92, s93, s94, s95, s96, s97, s98, .slice A2 L2 c2, .int .i64 L2, .int .u8 m, .int .u8 5, s103, s104, s105, s106, s107, s108, s109, s110, s111, s112, s113, s114, s115, s116, s117, s118, s119, s120, s121, s122, s123, s124, s125, s126, s127, s128, s129, s130, s131, s132, s133, s134, s135, s136, s137, s138, s139, s140, s141, s142, s143, s144, s145, s146, s147, s148, s149, s150, s151, s152, s153, s154, s155, s156, s157, s158, s159, s160, s161, s162, s163, s164, s165, s166, s167, s168, s169, s170, s171, s172, s173, s174, s175, s176, s177, s178, s179, s180, s181, s182, s183, s184, s185, s186, s187, s188, s189, s190, s191, s192, s193, s194, s195, s196, s197, s198, s199, s200, s201, s202, s203, s204, s205, s206, s207, s208, s209, s210, s211, s212, s213, s214, s215, s216, s217, s218, s219, s220, s221, s222, s223, s224, s225, s226, s227, s228, s229, s230, s231, s232, s233, s234, s235, s236, s237, s238, s239, s240, s241], defers := [] } wc := by
  conv => arg 2; whnf
  by_cases g1 : u = 10
  · subst g1
    cases up with
    | true =>
      have HP := Lib.hid (show pcE 10 m = [13, 10] ∧ pcR 10 m = [10] from ⟨by unfold pcE; rw [if_neg (show ¬ m % 8 = 1 from by have := HD.out; omega), if_neg (show ¬ m % 8 = 2 from by have := HD.out; omega), if_neg (show ¬ m % 8 = 3 from by have := HD.out; omega), if_neg (show ¬ m % 8 = 4 from by have := HD.out; omega), if_pos HD.out.symm, if_pos rfl, ← HUP.out]; rfl, by unfold pcR; rw [if_pos ⟨HD.out.symm, rfl⟩]⟩)
      go_wp2_with (first | (refine wpList_app _ rfl _ _ rfl w.heap.size _ _ rfl HT2.out.ev [13, 10] 2 rfl rfl (by have h1 := HZL.out; (try simp only [List.length_append, List.length_cons, List.length_nil, hx_len, List.length_replicate]); omega) HT2.out.bel.size ?_; intro A' n' c' w1 ho hg; have HV := Lib.hid (HT2.out.growV ho hg); clear ho hg) | (refine wpList_app _ rfl _ _ rfl w.heap.size _ _ rfl HV.out.er [10] 1 rfl rfl (by have h1 := HZL.out; (try simp only [List.length_append, List.length_cons, List.length_nil, hx_len, List.length_replicate]); omega) HV.out.bel.size ?_; intro A' n' c' w1 ho hg; have HR := Lib.hid (HV.out.growR ho hg); clear ho hg))
      refine Met.intro ?_
      refine HQ _ _ ?_
      unfold CwJ.RQ
      repeat apply Exists.intro
      exact ⟨by rw [HP.out.1, HP.out.2]; exact HR.out, rfl⟩
    | false =>
      have HP := Lib.hid (show pcE 10 m = [13] ∧ pcR 10 m = [10] from ⟨by unfold pcE; rw [if_neg (show ¬ m % 8 = 1 from by have := HD.out; omega), if_neg (show ¬ m % 8 = 2 from by have := HD.out; omega), if_neg (show ¬ m % 8 = 3 from by have := HD.out; omega), if_neg (show ¬ m % 8 = 4 from by have := HD.out; omega), if_pos HD.out.symm, if_pos rfl, ← HUP.out]; rfl, by unfold pcR; rw [if_pos ⟨HD.out.symm, rfl⟩]⟩)
      go_wp2_with (first | (refine wpList_app _ rfl _ _ rfl w.heap.size _ _ rfl HT2.out.ev [13] 1 rfl rfl (by have h1 := HZL.out; (try simp only [List.length_append, List.length_cons, List.length_nil, hx_len, List.length_replicate]); omega) HT2.out.bel.size ?_; intro A' n' c' w1 ho hg; have HV := Lib.hid (HT2.out.growV ho hg); clear ho hg) | (refine wpList_app _ rfl _ _ rfl w.heap.size _ _ rfl HV.out.er [10] 1 rfl rfl (by have h1 := HZL.out; (try simp only [List.length_append, List.length_cons, List.length_nil, hx_len, List.length_replicate]); omega) HV.out.bel.size ?_; intro A' n' c' w1 ho hg; have HR := Lib.hid (HV.out.growR ho hg); clear ho hg))
      refine Met.intro ?_
      refine HQ _ _ ?_
      unfold CwJ.RQ
      repeat apply Exists.intro
      exact ⟨by rw [HP.out.1, HP.out.2]; exact HR.out, rfl⟩
  · have HP := Lib.hid (show pcE u m = u4 u up from by unfold pcE; rw [if_neg (show ¬ m % 8 = 1 from by have := HD.out; omega), if_neg (show ¬ m % 8 = 2 from by have := HD.out; omega), if_neg (show ¬ m % 8 = 3 from by have := HD.out; omega), if_neg (show ¬ m % 8 = 4 from by have := HD.out; omega), if_pos HD.out.symm, if_neg g1, ← HUP.out])
    go_wp2_with ((go_at_call 14; refine (u414 w.heap.size _ _ u up _ HT2.out.ev (by omega) (by omega) (by have h1 := HZL.out; have h2 := (hl_le u).2; (try simp only [List.length_append, List.length_cons, List.length_nil, hx_len, List.length_replicate]); omega) HT2.out.bel.size).mono ?_; rintro e wv ⟨A', n', c', rfl, ho, hg⟩; have HV := Lib.hid (HT2.out.growV ho hg); clear ho hg))
    refine Met.intro ?_
    refine HJ _ _ ?_
    unfold CwJ.RJ
    repeat apply Exists.intro
    refine ⟨?_, rfl⟩
    refine ⟨rfl, fun h => by have := HD.out; omega, _, rfl, ?_⟩
    rw [HP.out]
    exact HV.out
end Go.Proofs.YtalpfbbceggcaaaDoor.CwEd
