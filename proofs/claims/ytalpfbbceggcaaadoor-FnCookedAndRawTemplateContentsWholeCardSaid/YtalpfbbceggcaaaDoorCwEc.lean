/- FnCookedAndRawTemplateContentsWhole: the encoder, modes 4. -/
import Derived.Test.YtalpfbbceggcaaaDoorCwK
import Derived.Test.YtalpfbbceggcaaaDoorCwJ
import Derived.Great.BuildSlice
import Derived.Deep.DeepCutAuto
import Derived.Deep.CutBlock
import Derived.Laws.MakeOwn
import Derived.WalkKit
import Derived.ProofKit
import Derived.OpenShut
import Derived.Below
import Derived.WalkLawsBesides
import Derived.Lib.Hide
import Derived.Outline
import Derived.RegionTactic
import Derived.Deep.QuietTactic
import Derived.BigQuiet
import Derived.WalkSpells
import Derived.Deep.OwnRows
import Derived.IntWalk
import Derived.Deep.DeepMust
namespace Go.Proofs.YtalpfbbceggcaaaDoor.CwEc
open Go.RowKit Mem Args Own Str CwP CwH CwG CwA CwB CwT CwK
set_option linter.unusedVariables false
set_option linter.unusedSimpArgs false
set_option maxRecDepth 100000 in
set_option maxHeartbeats 4000000 in
theorem arm4 {w wc : World} {A2 : Option Addr} {c2 L2 : Nat} {r' : Value} {Z Y : List Int} {u m : Int} {up : Bool} {s0 s1 s3 s4 s5 s6 s7 s10 s14 s16 s17 s18 s19 s20 s21 s22 s23 s24 s25 s26 s27 s28 s29 s30 s31 s32 s33 s34 s35 s36 s37 s38 s39 s40 s41 s42 s43 s44 s45 s46 s47 s48 s49 s50 s51 s52 s53 s54 s55 s56 s57 s58 s59 s60 s61 s62 s63 s64 s65 s66 s67 s68 s69 s70 s71 s72 s73 s74 s75 s76 s77 s78 s79 s80 s81 s82 s83 s84 s85 s86 s87 s88 s89 s90 s91 s92 s93 s94 s95 s96 s97 s98 s103 s104 s105 s106 s107 s108 s109 s110 s111 s112 s113 s114 s115 s116 s117 s118 s119 s120 s121 s122 s123 s124 s125 s126 s127 s128 s129 s130 s131 s132 s133 s134 s135 s136 s137 s138 s139 s140 s141 s142 s143 s144 s145 s146 s147 s148 s149 s150 s151 s152 s153 s154 s155 s156 s157 s158 s159 s160 s161 s162 s163 s164 s165 s166 s167 s168 s169 s170 s171 s172 s173 s174 s175 s176 s177 s178 s179 s180 s181 s182 s183 s184 s185 s186 s187 s188 s189 s190 s191 s192 s193 s194 s195 s196 s197 s198 s199 s200 s201 s202 s203 s204 s205 s206 s207 s208 s209 s210 s211 s212 s213 s214 s215 s216 s217 s218 s219 s220 s221 s222 s223 s224 s225 s226 s227 s228 s229 s230 s231 s232 s233 s234 s235 s236 s237 s238 s239 s240 s241 : Value} {J K' : Act → World → Prop} {Q' : Exit → Act → World → Prop}
    (hub : 0 ≤ u ∧ u ≤ 65535) (hmb : 0 ≤ m ∧ m ≤ 255) (HUP : Hid (up = up8 m)) (HD : Hid (4 = m % 8)) (hL2b : L2 ≤ 2000000) (HL2 : Hid (L2 = Z.length)) (HZL : Hid (Z.length ≤ 2000000 ∧ Y.length ≤ 2000000)) (HT2 : Hid (Tw w wc (.slice A2 L2 c2) r' Z Y))
    (HJ : ∀ (a' : Act) (w' : World), CwJ.RJ w r' Z Y u m up L2 s0 s1 s3 s4 s5 s6 s7 s10 s14 s19 s20 s21 s22 s23 s24 s25 s26 s238 s239 s240 s241 a' w' → J a' w') (hK : ∀ (a' : Act) (w' : World), Met J a' w' → K' a' w')
    : Code.wp Tryd.prog (blkOf 3 Tryd.f7) (Exit.then K' Q') { tmps := #[s0, s1, .bool true, s3, s4, s5, s6, s7, .slice A2 L2 c2, r', s10, .int .u16 u, .int .u8 m, .bool up, s14, .int .i64 L2, s16, s17, s18, s19, s20, s21, s22, s23, s24, s25, s26, s27, s28, s29, s30, s31, s32, s33, s34, s35, s36, s37, s38, s39, s40, s41, s42, s43, s44, s45, s46, s47, s48, s49, s50, s51, s52, s53, s54, s55, s56, s57, s58, s59, s60, s61, s62, s63, s64, s65, s66, s67, s68, s69, s70, s71, s72, s73, s74, s75, s76, s77, s78, s79, s80, s81, s82, s83, s84, s85, s86, s87, s88, s89, s90, s91, s92, s93, s94, s95, s96, s97, s98, .slice A2 L2 c2, .int .i64 L2, .int .u8 m, .int .u8 4, s103, s104, s105, s106, s107, s108, s109, s110, s111, s112, s113, s114, s115, s116, s117, s118, s119, s120, s121, s122, s123, s124, s125, s126, s127, s128, s129, s130, s131, s132, s133, s134, s135, s136, s137, s138, s139, s140, s141, s142, s143, s144, s145, s146, s147, s148, s149, s150, s151, s152, s153, s154, s155, s156, s157, s158, s159, s160, s161, s162, s163, s164, s165, s166, s167, s168, s169, s170, s171, s172, s173, s174, s175, s176, s177, s178, s179, s180, s181, s182, s183, s184, s185, s186, s187, s188, s189, s190, s191, s192, s193, s194, s195, s196, s197, s198, s199, s200, s201, s202, s203, s204, s205, s206, s207, s208, s209, s210, s211, s212, s213, s214, s215, s216, s217, s218, s219, s220, s221, s222, s223, s224, s225, s226, s227, s228, s229, s230, s231, s232, s233, s234, s235, s236, s237, s238, s239, s240, s241], defers := [] } wc := by
  conv => arg 2; whnf
  go_upto_block 6 with fail
  go_cut [18] from 27 to 237 (fun s18 wx => s18 = .int .u8 (esc u) ∧ wx = wc)
  case first =>
    by_cases ge : 8 ≤ u ∧ u ≤ 13
    · obtain ⟨g8, g13⟩ := ge
      have hcs : u = 8 ∨ u = 9 ∨ u = 10 ∨ u = 11 ∨ u = 12 ∨ u = 13 := by omega
      rcases hcs with hu | hu | hu | hu | hu | hu <;> subst hu <;> (go_wp2_with fail) <;> go_meet <;> exact ⟨rfl, rfl⟩
    · have gz := Lib.hid (esc_z ge)
      have g0 : (u == 8) = false := by simp; omega
      have g1 : (u == 9) = false := by simp; omega
      have g2 : (u == 10) = false := by simp; omega
      have g3 : (u == 11) = false := by simp; omega
      have g4 : (u == 12) = false := by simp; omega
      have g5 : (u == 13) = false := by simp; omega
      clear ge
      go_wp2_with fail
      go_meet
      exact ⟨by rw [gz.out], rfl⟩
  case rest =>
    obtain ⟨rfl, rfl⟩ := hcut
    obtain ⟨e, he⟩ : ∃ e, e = esc u := ⟨_, rfl⟩
    rw [← he]
    have HE := Lib.hid he
    clear he
    by_cases e0 : e = 0
    · subst e0
      by_cases gi : idn u = true
      · have HP := Lib.hid (show pcE u m = [92] ++ utf u from by unfold pcE; rw [if_neg (show ¬ m % 8 = 1 from by have := HD.out; omega), if_neg (show ¬ m % 8 = 2 from by have := HD.out; omega), if_neg (show ¬ m % 8 = 3 from by have := HD.out; omega), if_pos HD.out.symm, if_neg (by rw [← HE.out]; simp), if_pos gi]; try rfl)
        go_wp2_with (first | (refine wpList_app _ rfl _ _ rfl w.heap.size _ _ rfl HT2.out.ev [92] 1 rfl rfl (by have h1 := HZL.out; have h2 := (hl_le u).2; (try simp only [List.length_append, List.length_cons, List.length_nil, hx_len, List.length_replicate]); omega) HT2.out.bel.size ?_; intro A' n' c' w1 ho hg; have HV := Lib.hid (HT2.out.growV ho hg); clear ho hg) | (go_at_call 15; refine (idn15 u (by omega) (by omega) _).mono ?_; rintro e wv ⟨rfl, rfl⟩) | (go_at_call 16; refine (utf16 w.heap.size _ _ u _ HV.out.ev (by omega) (by omega) (by have h1 := HZL.out; have h2 := (hl_le u).2; (try simp only [List.length_append, List.length_cons, List.length_nil, hx_len, List.length_replicate]); omega) HV.out.bel.size).mono ?_; rintro e wv ⟨A', n', c', rfl, ho, hg⟩; have HV2 := Lib.hid (HV.out.growV ho hg); clear ho hg))
        refine Met.intro ?_
        refine HJ _ _ ?_
        unfold CwJ.RJ
        repeat apply Exists.intro
        refine ⟨?_, rfl⟩
        refine ⟨rfl, fun h => by have := HD.out; omega, _, rfl, ?_⟩
        have e9 : Z ++ pcE u m = (Z ++ [92]) ++ utf u := by rw [HP.out]; try simp [ub, u4]
        rw [e9]
        exact HV2.out
      · have gi' : idn u = false := by simpa using gi
        have HP := Lib.hid (show pcE u m = u4 u up from by unfold pcE; rw [if_neg (show ¬ m % 8 = 1 from by have := HD.out; omega), if_neg (show ¬ m % 8 = 2 from by have := HD.out; omega), if_neg (show ¬ m % 8 = 3 from by have := HD.out; omega), if_pos HD.out.symm, if_neg (by rw [← HE.out]; simp), if_neg gi, ← HUP.out])
        clear gi
        go_wp2_with (first | (go_at_call 15; refine (idn15 u (by omega) (by omega) _).mono ?_; rintro e wv ⟨rfl, rfl⟩) | (go_at_call 14; refine (u414 w.heap.size _ _ u up _ HT2.out.ev (by omega) (by omega) (by have h1 := HZL.out; have h2 := (hl_le u).2; (try simp only [List.length_append, List.length_cons, List.length_nil, hx_len, List.length_replicate]); omega) HT2.out.bel.size).mono ?_; rintro e wv ⟨A', n', c', rfl, ho, hg⟩; have HV := Lib.hid (HT2.out.growV ho hg); clear ho hg))
        refine Met.intro ?_
        refine HJ _ _ ?_
        unfold CwJ.RJ
        repeat apply Exists.intro
        refine ⟨?_, rfl⟩
        refine ⟨rfl, fun h => by have := HD.out; omega, _, rfl, ?_⟩
        have e9 : Z ++ pcE u m = Z ++ u4 u up := by rw [HP.out]; try simp [ub, u4]
        rw [e9]
        exact HV.out
    · have en : (e != 0) = true := by simpa using e0
      have HP := Lib.hid (show pcE u m = [92, e] from by unfold pcE; rw [if_neg (show ¬ m % 8 = 1 from by have := HD.out; omega), if_neg (show ¬ m % 8 = 2 from by have := HD.out; omega), if_neg (show ¬ m % 8 = 3 from by have := HD.out; omega), if_pos HD.out.symm, if_pos (by rw [← HE.out]; exact e0), ← HE.out])
      clear e0
      go_wp2_with ((refine wpList_app _ rfl _ _ rfl w.heap.size _ _ rfl HT2.out.ev [92, e] 2 rfl rfl (by have h1 := HZL.out; have h2 := (hl_le u).2; (try simp only [List.length_append, List.length_cons, List.length_nil, hx_len, List.length_replicate]); omega) HT2.out.bel.size ?_; intro A' n' c' w1 ho hg; have HV := Lib.hid (HT2.out.growV ho hg); clear ho hg))
      refine Met.intro ?_
      refine HJ _ _ ?_
      unfold CwJ.RJ
      repeat apply Exists.intro
      refine ⟨?_, rfl⟩
      refine ⟨rfl, fun h => by have := HD.out; omega, _, rfl, ?_⟩
      have e9 : Z ++ pcE u m = Z ++ [92, e] := by rw [HP.out]; try simp [ub, u4]
      rw [e9]
      exact HV.out
end Go.Proofs.YtalpfbbceggcaaaDoor.CwEc
