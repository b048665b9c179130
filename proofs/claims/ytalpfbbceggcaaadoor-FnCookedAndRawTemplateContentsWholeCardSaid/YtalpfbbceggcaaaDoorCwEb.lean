/- FnCookedAndRawTemplateContentsWhole: the encoder, modes 3. -/
import Derived.Test.YtalpfbbceggcaaaDoorCwK
import Derived.Test.YtalpfbbceggcaaaDoorCwJ
import Derived.Great.BuildSlice
import Derived.Deep.DeepCutAuto
import Derived.Deep.CutBlock
import Derived.Laws.MakeOwn
import Derived.WalkKit
import Derived.ProofKit
import Derived.OpenShut
import Derived.Below
import Derived.WalkLawsBesides
import Derived.Lib.Hide
import Derived.Outline
import Derived.RegionTactic
import Derived.Deep.QuietTactic
import Derived.BigQuiet
import Derived.WalkSpells
import Derived.Deep.OwnRows
import Derived.IntWalk
import Derived.Deep.DeepMust
namespace Go.Proofs.YtalpfbbceggcaaaDoor.CwEb
open Go.RowKit Mem Args Own Str CwP CwH CwG CwA CwB CwT CwK
set_option linter.unusedVariables false
set_option linter.unusedSimpArgs false
set_option maxRecDepth 100000 in
set_option maxHeartbeats 4000000 in
theorem arm3 {w wc : World} {A2 : Option Addr} {c2 L2 : Nat} {r' : Value} {Z Y : List Int} {u m : Int} {up : Bool} {s0 s1 s3 s4 s5 s6 s7 s10 s14 s16 s17 s18 s19 s20 s21 s22 s23 s24 s25 s26 s27 s28 s29 s30 s31 s32 s33 s34 s35 s36 s37 s38 s39 s40 s41 s42 s43 s44 s45 s46 s47 s48 s49 s50 s51 s52 s53 s54 s55 s56 s57 s58 s59 s60 s61 s62 s63 s64 s65 s66 s67 s68 s69 s70 s71 s72 s73 s74 s75 s76 s77 s78 s79 s80 s81 s82 s83 s84 s85 s86 s87 s88 s89 s90 s91 s92 s93 s94 s95 s96 s97 s98 s103 s104 s105 s106 s107 s108 s109 s110 s111 s112 s113 s114 s115 s116 s117 s118 s119 s120 s121 s122 s123 s124 s125 s126 s127 s128 s129 s130 s131 s132 s133 s134 s135 s136 s137 s138 s139 s140 s141 s142 s143 s144 s145 s146 s147 s148 s149 s150 s151 s152 s153 s154 s155 s156 s157 s158 s159 s160 s161 s162 s163 s164 s165 s166 s167 s168 s169 s170 s171 s172 s173 s174 s175 s176 s177 s178 s179 s180 s181 s182 s183 s184 s185 s186 s187 s188 s189 s190 s191 s192 s193 s194 s195 s196 s197 s198 s199 s200 s201 s202 s203 s204 s205 s206 s207 s208 s209 s210 s211 s212 s213 s214 s215 s216 s217 s218 s219 s220 s221 s222 s223 s224 s225 s226 s227 s228 s229 s230 s231 s232 s233 s234 s235 s236 s237 s238 s239 s240 s241 : Value} {J K' : Act → World → Prop} {Q' : Exit → Act → World → Prop}
    (hub : 0 ≤ u ∧ u ≤ 65535) (hmb : 0 ≤ m ∧ m ≤ 255) (HUP : Hid (up = up8 m)) (HD : Hid (3 = m % 8)) (hL2b : L2 ≤ 2000000) (HL2 : Hid (L2 = Z.length)) (HZL : Hid (Z.length ≤ 2000000 ∧ Y.length ≤ 2000000)) (HT2 : Hid (Tw w wc (.slice A2 L2 c2) r' Z Y))
    (HJ : ∀ (a' : Act) (w' : World), CwJ.RJ w r' Z Y u m up L2 s0 s1 s3 s4 s5 s6 s7 s10 s14 s19 s20 s21 s22 s23 s24 s25 s26 s238 s239 s240 s241 a' w' → J a' w') (hK : ∀ (a' : Act) (w' : World), Met J a' w' → K' a' w')
    : Code.wp Tryd.prog (blkOf 3 Tryd.f7) (Exit.then K' Q') { tmps := #[s0, s1, .bool true, s3, s4, s5, s6, s7, .slice A2 L2 c2, r', s10, .int .u16 u, .int .u8 m, .bool up, s14, .int .i64 L2, s16, s17, s18, s19, s20, s21, s22, s23, s24, s25, s26, s27, s28, s29, s30, s31, s32, s33, s34, s35, s36, s37, s38, s39, s40, s41, s42, s43, s44, s45, s46, s47, s48, s49, s50, s51, s52, s53, s54, s55, s56, s57, s58, s59, s60, s61, s62, s63, s64, s65, s66, s67, s68, s69, s70, s71, s72, s73, s74, s75, s76, s77, s78, s79, s80, s81, s82, s83, s84, s85, s86, s87, s88, s89, s90, s91, s92, s93, s94, s95, s96, s97, s98, .slice A2 L2 c2, .int .i64 L2, .int .u8 m, .int .u8 3, s103, s104, s105, s106, s107, s108, s109, s110, s111, s112, s113, s114, s115, s116, s117, s118, s119, s120, s121, s122, s123, s124, s125, s126, s127, s128, s129, s130, s131, s132, s133, s134, s135, s136, s137, s138, s139, s140, s141, s142, s143, s144, s145, s146, s147, s148, s149, s150, s151, s152, s153, s154, s155, s156, s157, s158, s159, s160, s161, s162, s163, s164, s165, s166, s167, s168, s169, s170, s171, s172, s173, s174, s175, s176, s177, s178, s179, s180, s181, s182, s183, s184, s185, s186, s187, s188, s189, s190, s191, s192, s193, s194, s195, s196, s197, s198, s199, s200, s201, s202, s203, s204, s205, s206, s207, s208, s209, s210, s211, s212, s213, s214, s215, s216, s217, s218, s219, s220, s221, s222, s223, s224, s225, s226, s227, s228, s229, s230, s231, s232, s233, s234, s235, s236, s237, s238, s239, s240, s241], defers := [] } wc := by
  conv => arg 2; whnf
  have s3 := m3 (m / 16) (by omega) (by omega)
  obtain ⟨zc, hzc⟩ : ∃ zc : Nat, m / 16 % 4 = (zc : Int) := ⟨(m / 16 % 4).toNat, by omega⟩
  have hz4 : zc ≤ 3 := by omega
  have HP := Lib.hid (show pcE u m = ub u up zc from by unfold pcE; rw [if_neg (show ¬ m % 8 = 1 from by have := HD.out; omega), if_neg (show ¬ m % 8 = 2 from by have := HD.out; omega), if_pos HD.out.symm, ← HUP.out, hzc]; rw [Int.toNat_natCast])
  rw [hzc] at s3
  clear hzc
  go_wp2_with ((refine wpList_app _ rfl _ _ rfl w.heap.size _ _ rfl HT2.out.ev [92, 117, 123] 3 rfl rfl (by have h1 := HZL.out; have h2 := (hl_le u).2; (try simp only [List.length_append, List.length_cons, List.length_nil, hx_len, List.length_replicate]); omega) HT2.out.bel.size ?_; intro A' n' c' w1 ho hg; have HV := Lib.hid (HT2.out.growV ho hg); clear ho hg))
  go_loopw [8, 17] (fun s8 s17 wy => ∃ (v4 : Value) (z : Nat), v4 = s8 ∧ s17 = .int .i64 z ∧ z ≤ zc ∧ Hid (Tw w wy v4 r' ((Z ++ [92, 117, 123]) ++ List.replicate z 48) Y)) (fun _ s17 _ => zc - (intOf s17).toNat)
  case atStart => exact ⟨_, 0, rfl, rfl, Nat.zero_le _, by rw [List.replicate, List.append_nil]; exact HV.out⟩
  case round =>
    obtain ⟨v4, z, rfl, rfl, hz, HZT⟩ := hrel
    clear HV
    by_cases hlz : z < zc
    · go_wp2_with ((refine wpList_app _ rfl _ _ rfl w.heap.size _ _ rfl HZT.out.ev [48] 1 rfl rfl (by have h1 := HZL.out; have h2 := (hl_le u).2; (try simp only [List.length_append, List.length_cons, List.length_nil, hx_len, List.length_replicate]); omega) HZT.out.bel.size ?_; intro A' n' c' w1 ho hg; have HV := Lib.hid (HZT.out.growV ho hg); clear ho hg))
      go_roundw
      case rel => exact ⟨_, z + 1, rfl, by go_num, by omega, by rw [List.replicate_succ', ← List.append_assoc]; exact HV.out⟩
      case measure => simp [intOf]; omega
    · obtain rfl : z = zc := by omega
      go_wp2_with (first | (refine wpList_app _ rfl _ _ rfl w.heap.size _ _ rfl HV2.out.ev [125] 1 rfl rfl (by have h1 := HZL.out; have h2 := (hl_le u).2; (try simp only [List.length_append, List.length_cons, List.length_nil, hx_len, List.length_replicate]); omega) HV2.out.bel.size ?_; intro A' n' c' w1 ho hg; have HV3 := Lib.hid (HV2.out.growV ho hg); clear ho hg) | (go_at_call 13; refine (len13 u (by omega) (by omega) _).mono ?_; rintro e wv ⟨rfl, rfl⟩) | (go_at_call 12; refine (hex12 w.heap.size _ _ u (hl u) up _ HZT.out.ev (by omega) (by omega) (by have := (hl_le u).2; omega) (by have h1 := HZL.out; have h2 := (hl_le u).2; (try simp only [List.length_append, List.length_cons, List.length_nil, hx_len, List.length_replicate]); omega) HZT.out.bel.size).mono ?_; rintro e wv ⟨A', n', c', rfl, ho, hg⟩; have HV2 := Lib.hid (HZT.out.growV ho hg); clear ho hg))
      refine Met.intro ?_
      refine HJ _ _ ?_
      unfold CwJ.RJ
      repeat apply Exists.intro
      refine ⟨?_, rfl⟩
      refine ⟨rfl, fun h => by have := HD.out; omega, _, rfl, ?_⟩
      have e9 : Z ++ pcE u m = (((Z ++ [92, 117, 123]) ++ List.replicate z 48) ++ hx u up (hl u)) ++ [125] := by rw [HP.out]; try simp [ub, u4]
      rw [e9]
      exact HV3.out
end Go.Proofs.YtalpfbbceggcaaaDoor.CwEb
