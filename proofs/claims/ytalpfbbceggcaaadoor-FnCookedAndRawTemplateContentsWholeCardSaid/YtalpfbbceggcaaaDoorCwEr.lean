/- FnCookedAndRawTemplateContentsWhole: the encoder, a round. -/
import Derived.Test.YtalpfbbceggcaaaDoorCwK
import Derived.Test.YtalpfbbceggcaaaDoorCwEx
import Derived.Test.YtalpfbbceggcaaaDoorCwEf
import Derived.Great.BuildSlice
import Derived.Deep.DeepCutAuto
import Derived.Deep.CutBlock
import Derived.Laws.MakeOwn
import Derived.WalkKit
import Derived.ProofKit
import Derived.OpenShut
import Derived.Below
import Derived.WalkLawsBesides
import Derived.Lib.Hide
import Derived.Outline
import Derived.RegionTactic
import Derived.Deep.QuietTactic
import Derived.BigQuiet
import Derived.WalkSpells
import Derived.Deep.OwnRows
import Derived.IntWalk
import Derived.Deep.DeepMust
namespace Go.Proofs.YtalpfbbceggcaaaDoor.CwEr
open Go.RowKit Mem Args Own Str CwP CwH CwG CwA CwB CwT CwK
set_option linter.unusedVariables false
set_option linter.unusedSimpArgs false
set_option maxRecDepth 100000 in
set_option maxHeartbeats 4000000 in
theorem round7 {w wr : World} {v r : Value} {A0 : Option Addr} {n0 c0 : Nat} {A1 : Option Addr} {n1 c1 : Nat} {U M : List Int} {i : Nat} {s3 s4 s5 s6 s7 s11 s12 s13 s14 s15 s16 s17 s18 s19 s20 s21 s22 s23 s24 s25 s26 s27 s28 s29 s30 s31 s32 s33 s34 s35 s36 s37 s38 s39 s40 s41 s42 s43 s44 s45 s46 s47 s48 s49 s50 s51 s52 s53 s54 s55 s56 s57 s58 s59 s60 s61 s62 s63 s64 s65 s66 s67 s68 s69 s70 s71 s72 s73 s74 s75 s76 s77 s78 s79 s80 s81 s82 s83 s84 s85 s86 s87 s88 s89 s90 s91 s92 s93 s94 s95 s96 s97 s98 s99 s100 s101 s102 s103 s104 s105 s106 s107 s108 s109 s110 s111 s112 s113 s114 s115 s116 s117 s118 s119 s120 s121 s122 s123 s124 s125 s126 s127 s128 s129 s130 s131 s132 s133 s134 s135 s136 s137 s138 s139 s140 s141 s142 s143 s144 s145 s146 s147 s148 s149 s150 s151 s152 s153 s154 s155 s156 s157 s158 s159 s160 s161 s162 s163 s164 s165 s166 s167 s168 s169 s170 s171 s172 s173 s174 s175 s176 s177 s178 s179 s180 s181 s182 s183 s184 s185 s186 s187 s188 s189 s190 s191 s192 s193 s194 s195 s196 s197 s198 s199 s200 s201 s202 s203 s204 s205 s206 s207 s208 s209 s210 s211 s212 s213 s214 s215 s216 s217 s218 s219 s220 s221 s222 s223 s224 s225 s226 s227 s228 s229 s230 s231 s232 s233 s234 s235 s236 s237 s238 s239 s240 s241 : Value} {JN N : Act → World → Prop} {Q' : Exit → Act → World → Prop}
    (HUB : Hid (∀ i, 0 ≤ U.getD i 0 ∧ U.getD i 0 ≤ 65535)) (H0 : Hid (IsInts .u16 w A0 n0 c0 U)) (H1 : Hid (IsInts .u8 w A1 n1 c1 M)) (hn : n0 ≤ 65536) (hm : n1 ≤ 65536) (hlt : i < n0) (HT : Hid (Tw w wr v r (encE U M i) (encR U M i)))
    (HN : ∀ (a' : Act) (w' : World), CwM.RN w A0 n0 c0 A1 n1 c1 U M i s3 s4 s5 s6 s7 s19 s20 s21 s22 s23 s24 s25 s26 s238 s239 s240 s241 a' w' → JN a' w') (hN : ∀ (a' : Act) (w' : World), Met JN a' w' → N a' w')
    : Code.wp Tryd.prog (CwM.lpOf Tryd.f7) (Exit.then N Q') { tmps := #[.slice A0 n0 c0, .slice A1 n1 c1, .bool true, s3, s4, s5, s6, s7, v, r, .int .i64 i, s11, s12, s13, s14, s15, s16, s17, s18, s19, s20, s21, s22, s23, s24, s25, s26, s27, s28, s29, s30, s31, s32, s33, s34, s35, s36, s37, s38, s39, s40, s41, s42, s43, s44, s45, s46, s47, s48, s49, s50, s51, s52, s53, s54, s55, s56, s57, s58, s59, s60, s61, s62, s63, s64, s65, s66, s67, s68, s69, s70, s71, s72, s73, s74, s75, s76, s77, s78, s79, s80, s81, s82, s83, s84, s85, s86, s87, s88, s89, s90, s91, s92, s93, s94, s95, s96, s97, s98, s99, s100, s101, s102, s103, s104, s105, s106, s107, s108, s109, s110, s111, s112, s113, s114, s115, s116, s117, s118, s119, s120, s121, s122, s123, s124, s125, s126, s127, s128, s129, s130, s131, s132, s133, s134, s135, s136, s137, s138, s139, s140, s141, s142, s143, s144, s145, s146, s147, s148, s149, s150, s151, s152, s153, s154, s155, s156, s157, s158, s159, s160, s161, s162, s163, s164, s165, s166, s167, s168, s169, s170, s171, s172, s173, s174, s175, s176, s177, s178, s179, s180, s181, s182, s183, s184, s185, s186, s187, s188, s189, s190, s191, s192, s193, s194, s195, s196, s197, s198, s199, s200, s201, s202, s203, s204, s205, s206, s207, s208, s209, s210, s211, s212, s213, s214, s215, s216, s217, s218, s219, s220, s221, s222, s223, s224, s225, s226, s227, s228, s229, s230, s231, s232, s233, s234, s235, s236, s237, s238, s239, s240, s241], defers := [] } wr := by
  conv => arg 2; whnf
  obtain ⟨bU, oU, haU, hbU, hcU⟩ := H0.out.read i hlt
  have cU := (HT.out.bel.cell (p := ⟨bU, oU + i, none⟩) hbU).trans hcU
  have wfU := H0.out.wf_at i hlt
  obtain ⟨u, hu⟩ : ∃ u, u = U.getD i 0 := ⟨_, rfl⟩
  have hub : 0 ≤ u ∧ u ≤ 65535 := by rw [hu]; exact u16b wfU
  rw [← hu] at cU
  have HU := Lib.hid hu
  obtain ⟨m, hmo⟩ : ∃ m, m = mo M i := ⟨_, rfl⟩
  have hmb : 0 ≤ m ∧ m ≤ 255 := by rw [hmo]; exact mo_b H1.out i
  have HM := Lib.hid hmo
  subst haU
  clear hbU hcU wfU hu hmo
  go_upto_if 39 with fail
  go_cut [12] from 27 to 237 (fun s12 wx => s12 = .int .u8 m ∧ wx = wr)
  case first =>
    by_cases h1n : n1 = 0
    · have hm0 : m = 0 := by rw [HM.out]; unfold mo; rw [if_pos (by have := H1.out.2.2.1; omega)]
      subst h1n
      subst hm0
      go_wp2_with fail
      go_meet
      exact ⟨rfl, rfl⟩
    · have hk : i % n1 < n1 := Nat.mod_lt _ (by omega)
      obtain ⟨bM, oM, haM, hbM, hcM⟩ := H1.out.read (i % n1) hk
      have cM := (HT.out.bel.cell (p := ⟨bM, oM + i % n1, none⟩) hbM).trans hcM
      have hme : M.getD (i % n1) 0 = m := by rw [HM.out]; unfold mo; rw [if_neg (by have := H1.out.2.2.1; omega), H1.out.2.2.1]
      rw [hme] at cM
      obtain ⟨q, hq⟩ : ∃ q, q = i % n1 := ⟨_, rfl⟩
      rw [← hq] at cM hk
      have hr : ((i : Int).tmod (n1 : Int)) = (q : Int) := by rw [hq]; rfl
      have hqz : (q : Int) < (n1 : Int) := by omega
      have hnz : (0 : Int) < (n1 : Int) := by omega
      subst haM
      clear hbM hcM hme hq
      go_wp2_with fail
      go_meet
      exact ⟨rfl, rfl⟩
  case rest =>
    obtain ⟨rfl, rfl⟩ := hcut
    clear cU
    have a8 := m8 m hmb.1 hmb.2
    have a64 := m64 m hmb.1 hmb.2
    obtain ⟨up, hup⟩ : ∃ up, up = up8 m := ⟨_, rfl⟩
    rw [← hup] at a8
    have HUP := Lib.hid hup
    clear hup
    have HLE := Lib.hid (show (encE U M i).length ≤ 1048576 ∧ (encR U M i).length ≤ 1048576 ∧ (lcE m).length ≤ 4 ∧ (lcR m).length ≤ 4 from
      ⟨by have := encE_len U M i; omega, by have := encR_len U M i; omega, lcE_len m, lcR_len m⟩)
    go_upto_if 52 with fail
    refine CwEf.arm52 hmb HUP HLE HT ?_ (fun _ _ h => h)
    intro a' wc hx
    unfold CwM.R52 at hx
    obtain ⟨u8, hx⟩ := hx
    obtain ⟨u9, hx⟩ := hx
    obtain ⟨u14, hx⟩ := hx
    obtain ⟨u27, hx⟩ := hx
    obtain ⟨u28, hx⟩ := hx
    obtain ⟨u29, hx⟩ := hx
    obtain ⟨u30, hx⟩ := hx
    obtain ⟨u31, hx⟩ := hx
    obtain ⟨u32, hx⟩ := hx
    obtain ⟨u33, hx⟩ := hx
    obtain ⟨u34, hx⟩ := hx
    obtain ⟨u35, hx⟩ := hx
    obtain ⟨u36, hx⟩ := hx
    obtain ⟨u37, hx⟩ := hx
    obtain ⟨u38, hx⟩ := hx
    obtain ⟨u39, hx⟩ := hx
    obtain ⟨u40, hx⟩ := hx
    obtain ⟨u41, hx⟩ := hx
    obtain ⟨u42, hx⟩ := hx
    obtain ⟨u43, hx⟩ := hx
    obtain ⟨u44, hx⟩ := hx
    obtain ⟨u45, hx⟩ := hx
    obtain ⟨u46, hx⟩ := hx
    obtain ⟨u47, hx⟩ := hx
    obtain ⟨u48, hx⟩ := hx
    obtain ⟨u49, hx⟩ := hx
    obtain ⟨u50, hx⟩ := hx
    obtain ⟨u51, hx⟩ := hx
    obtain ⟨u52, hx⟩ := hx
    obtain ⟨u53, hx⟩ := hx
    obtain ⟨u54, hx⟩ := hx
    obtain ⟨u55, hx⟩ := hx
    obtain ⟨u56, hx⟩ := hx
    obtain ⟨u57, hx⟩ := hx
    obtain ⟨u58, hx⟩ := hx
    obtain ⟨u59, hx⟩ := hx
    obtain ⟨u60, hx⟩ := hx
    obtain ⟨u61, hx⟩ := hx
    obtain ⟨u62, hx⟩ := hx
    obtain ⟨u63, hx⟩ := hx
    obtain ⟨u64, hx⟩ := hx
    obtain ⟨u65, hx⟩ := hx
    obtain ⟨u66, hx⟩ := hx
    obtain ⟨u67, hx⟩ := hx
    obtain ⟨u68, hx⟩ := hx
    obtain ⟨u69, hx⟩ := hx
    obtain ⟨u70, hx⟩ := hx
    obtain ⟨u71, hx⟩ := hx
    obtain ⟨u72, hx⟩ := hx
    obtain ⟨u73, hx⟩ := hx
    obtain ⟨u74, hx⟩ := hx
    obtain ⟨u75, hx⟩ := hx
    obtain ⟨u76, hx⟩ := hx
    obtain ⟨u77, hx⟩ := hx
    obtain ⟨u78, hx⟩ := hx
    obtain ⟨u79, hx⟩ := hx
    obtain ⟨u80, hx⟩ := hx
    obtain ⟨u81, hx⟩ := hx
    obtain ⟨u82, hx⟩ := hx
    obtain ⟨u83, hx⟩ := hx
    obtain ⟨u84, hx⟩ := hx
    obtain ⟨u85, hx⟩ := hx
    obtain ⟨u86, hx⟩ := hx
    obtain ⟨u87, hx⟩ := hx
    obtain ⟨u88, hx⟩ := hx
    obtain ⟨u89, hx⟩ := hx
    obtain ⟨u90, hx⟩ := hx
    obtain ⟨u91, hx⟩ := hx
    obtain ⟨u92, hx⟩ := hx
    obtain ⟨u93, hx⟩ := hx
    obtain ⟨u94, hx⟩ := hx
    obtain ⟨u95, hx⟩ := hx
    obtain ⟨u96, hx⟩ := hx
    obtain ⟨u97, hx⟩ := hx
    obtain ⟨u98, hx⟩ := hx
    obtain ⟨u99, hx⟩ := hx
    obtain ⟨u100, hx⟩ := hx
    obtain ⟨u101, hx⟩ := hx
    obtain ⟨u102, hx⟩ := hx
    obtain ⟨u103, hx⟩ := hx
    obtain ⟨u104, hx⟩ := hx
    obtain ⟨u105, hx⟩ := hx
    obtain ⟨u106, hx⟩ := hx
    obtain ⟨u107, hx⟩ := hx
    obtain ⟨u108, hx⟩ := hx
    obtain ⟨u109, hx⟩ := hx
    obtain ⟨u110, hx⟩ := hx
    obtain ⟨u111, hx⟩ := hx
    obtain ⟨u112, hx⟩ := hx
    obtain ⟨u113, hx⟩ := hx
    obtain ⟨u114, hx⟩ := hx
    obtain ⟨u115, hx⟩ := hx
    obtain ⟨u116, hx⟩ := hx
    obtain ⟨u117, hx⟩ := hx
    obtain ⟨u118, hx⟩ := hx
    obtain ⟨u119, hx⟩ := hx
    obtain ⟨u120, hx⟩ := hx
    obtain ⟨u121, hx⟩ := hx
    obtain ⟨u122, hx⟩ := hx
    obtain ⟨u123, hx⟩ := hx
    obtain ⟨u124, hx⟩ := hx
    obtain ⟨u125, hx⟩ := hx
    obtain ⟨u126, hx⟩ := hx
    obtain ⟨u127, hx⟩ := hx
    obtain ⟨u128, hx⟩ := hx
    obtain ⟨u129, hx⟩ := hx
    obtain ⟨u130, hx⟩ := hx
    obtain ⟨u131, hx⟩ := hx
    obtain ⟨u132, hx⟩ := hx
    obtain ⟨u133, hx⟩ := hx
    obtain ⟨u134, hx⟩ := hx
    obtain ⟨u135, hx⟩ := hx
    obtain ⟨u136, hx⟩ := hx
    obtain ⟨u137, hx⟩ := hx
    obtain ⟨u138, hx⟩ := hx
    obtain ⟨u139, hx⟩ := hx
    obtain ⟨u140, hx⟩ := hx
    obtain ⟨u141, hx⟩ := hx
    obtain ⟨u142, hx⟩ := hx
    obtain ⟨u143, hx⟩ := hx
    obtain ⟨u144, hx⟩ := hx
    obtain ⟨u145, hx⟩ := hx
    obtain ⟨u146, hx⟩ := hx
    obtain ⟨u147, hx⟩ := hx
    obtain ⟨u148, hx⟩ := hx
    obtain ⟨u149, hx⟩ := hx
    obtain ⟨u150, hx⟩ := hx
    obtain ⟨u151, hx⟩ := hx
    obtain ⟨u152, hx⟩ := hx
    obtain ⟨u153, hx⟩ := hx
    obtain ⟨u154, hx⟩ := hx
    obtain ⟨u155, hx⟩ := hx
    obtain ⟨u156, hx⟩ := hx
    obtain ⟨u157, hx⟩ := hx
    obtain ⟨u158, hx⟩ := hx
    obtain ⟨u159, hx⟩ := hx
    obtain ⟨u160, hx⟩ := hx
    obtain ⟨u161, hx⟩ := hx
    obtain ⟨u162, hx⟩ := hx
    obtain ⟨u163, hx⟩ := hx
    obtain ⟨u164, hx⟩ := hx
    obtain ⟨u165, hx⟩ := hx
    obtain ⟨u166, hx⟩ := hx
    obtain ⟨u167, hx⟩ := hx
    obtain ⟨u168, hx⟩ := hx
    obtain ⟨u169, hx⟩ := hx
    obtain ⟨u170, hx⟩ := hx
    obtain ⟨u171, hx⟩ := hx
    obtain ⟨u172, hx⟩ := hx
    obtain ⟨u173, hx⟩ := hx
    obtain ⟨u174, hx⟩ := hx
    obtain ⟨u175, hx⟩ := hx
    obtain ⟨u176, hx⟩ := hx
    obtain ⟨u177, hx⟩ := hx
    obtain ⟨u178, hx⟩ := hx
    obtain ⟨u179, hx⟩ := hx
    obtain ⟨u180, hx⟩ := hx
    obtain ⟨u181, hx⟩ := hx
    obtain ⟨u182, hx⟩ := hx
    obtain ⟨u183, hx⟩ := hx
    obtain ⟨u184, hx⟩ := hx
    obtain ⟨u185, hx⟩ := hx
    obtain ⟨u186, hx⟩ := hx
    obtain ⟨u187, hx⟩ := hx
    obtain ⟨u188, hx⟩ := hx
    obtain ⟨u189, hx⟩ := hx
    obtain ⟨u190, hx⟩ := hx
    obtain ⟨u191, hx⟩ := hx
    obtain ⟨u192, hx⟩ := hx
    obtain ⟨u193, hx⟩ := hx
    obtain ⟨u194, hx⟩ := hx
    obtain ⟨u195, hx⟩ := hx
    obtain ⟨u196, hx⟩ := hx
    obtain ⟨u197, hx⟩ := hx
    obtain ⟨u198, hx⟩ := hx
    obtain ⟨u199, hx⟩ := hx
    obtain ⟨u200, hx⟩ := hx
    obtain ⟨u201, hx⟩ := hx
    obtain ⟨u202, hx⟩ := hx
    obtain ⟨u203, hx⟩ := hx
    obtain ⟨u204, hx⟩ := hx
    obtain ⟨u205, hx⟩ := hx
    obtain ⟨u206, hx⟩ := hx
    obtain ⟨u207, hx⟩ := hx
    obtain ⟨u208, hx⟩ := hx
    obtain ⟨u209, hx⟩ := hx
    obtain ⟨u210, hx⟩ := hx
    obtain ⟨u211, hx⟩ := hx
    obtain ⟨u212, hx⟩ := hx
    obtain ⟨u213, hx⟩ := hx
    obtain ⟨u214, hx⟩ := hx
    obtain ⟨u215, hx⟩ := hx
    obtain ⟨u216, hx⟩ := hx
    obtain ⟨u217, hx⟩ := hx
    obtain ⟨u218, hx⟩ := hx
    obtain ⟨u219, hx⟩ := hx
    obtain ⟨u220, hx⟩ := hx
    obtain ⟨u221, hx⟩ := hx
    obtain ⟨u222, hx⟩ := hx
    obtain ⟨u223, hx⟩ := hx
    obtain ⟨u224, hx⟩ := hx
    obtain ⟨u225, hx⟩ := hx
    obtain ⟨u226, hx⟩ := hx
    obtain ⟨u227, hx⟩ := hx
    obtain ⟨u228, hx⟩ := hx
    obtain ⟨u229, hx⟩ := hx
    obtain ⟨u230, hx⟩ := hx
    obtain ⟨u231, hx⟩ := hx
    obtain ⟨u232, hx⟩ := hx
    obtain ⟨u233, hx⟩ := hx
    obtain ⟨u234, hx⟩ := hx
    obtain ⟨u235, hx⟩ := hx
    obtain ⟨u236, hx⟩ := hx
    obtain ⟨u237, hx⟩ := hx
    obtain ⟨hcut, rfl⟩ := hx
    obtain ⟨v', r', rfl, rfl, HT2⟩ := hcut
    obtain ⟨A2, c2, hf⟩ := HT2.out.ev.form
    obtain ⟨Z, hZ⟩ : ∃ Z, Z = encE U M i ++ lcE m := ⟨_, rfl⟩
    obtain ⟨Y, hY⟩ : ∃ Y, Y = encR U M i ++ lcR m := ⟨_, rfl⟩
    rw [← hZ, ← hY] at HT2
    rw [← hZ] at hf
    have HZL := Lib.hid (show Z.length ≤ 2000000 ∧ Y.length ≤ 2000000 from by rw [hZ, hY]; have := HLE.out; simp only [List.length_append]; omega)
    obtain ⟨L2, hL2⟩ : ∃ L2, L2 = Z.length := ⟨_, rfl⟩
    rw [← hL2] at hf
    subst hf
    have HL2 := Lib.hid hL2
    have HZ := Lib.hid hZ
    have HY := Lib.hid hY
    have hL2b : L2 ≤ 2000000 := by rw [hL2]; exact HZL.out.1
    clear hL2 hZ hY
    clear HT a64
    have a7 := m7 m hmb.1 hmb.2
    obtain ⟨d, hd⟩ : ∃ d, d = m % 8 := ⟨_, rfl⟩
    rw [← hd] at a7
    have HD := Lib.hid hd
    have hdb : 0 ≤ d ∧ d < 8 := by omega
    clear hd
    go_upto_block 3 with fail
    refine CwEx.all3 hub hmb HUP HD hL2b HL2 HZL HT2 ?_ ?_
    · intro a' wc hx
      unfold CwJ.RJ at hx
      obtain ⟨u8, hx⟩ := hx
      obtain ⟨u9, hx⟩ := hx
      obtain ⟨u16, hx⟩ := hx
      obtain ⟨u17, hx⟩ := hx
      obtain ⟨u18, hx⟩ := hx
      obtain ⟨u27, hx⟩ := hx
      obtain ⟨u28, hx⟩ := hx
      obtain ⟨u29, hx⟩ := hx
      obtain ⟨u30, hx⟩ := hx
      obtain ⟨u31, hx⟩ := hx
      obtain ⟨u32, hx⟩ := hx
      obtain ⟨u33, hx⟩ := hx
      obtain ⟨u34, hx⟩ := hx
      obtain ⟨u35, hx⟩ := hx
      obtain ⟨u36, hx⟩ := hx
      obtain ⟨u37, hx⟩ := hx
      obtain ⟨u38, hx⟩ := hx
      obtain ⟨u39, hx⟩ := hx
      obtain ⟨u40, hx⟩ := hx
      obtain ⟨u41, hx⟩ := hx
      obtain ⟨u42, hx⟩ := hx
      obtain ⟨u43, hx⟩ := hx
      obtain ⟨u44, hx⟩ := hx
      obtain ⟨u45, hx⟩ := hx
      obtain ⟨u46, hx⟩ := hx
      obtain ⟨u47, hx⟩ := hx
      obtain ⟨u48, hx⟩ := hx
      obtain ⟨u49, hx⟩ := hx
      obtain ⟨u50, hx⟩ := hx
      obtain ⟨u51, hx⟩ := hx
      obtain ⟨u52, hx⟩ := hx
      obtain ⟨u53, hx⟩ := hx
      obtain ⟨u54, hx⟩ := hx
      obtain ⟨u55, hx⟩ := hx
      obtain ⟨u56, hx⟩ := hx
      obtain ⟨u57, hx⟩ := hx
      obtain ⟨u58, hx⟩ := hx
      obtain ⟨u59, hx⟩ := hx
      obtain ⟨u60, hx⟩ := hx
      obtain ⟨u61, hx⟩ := hx
      obtain ⟨u62, hx⟩ := hx
      obtain ⟨u63, hx⟩ := hx
      obtain ⟨u64, hx⟩ := hx
      obtain ⟨u65, hx⟩ := hx
      obtain ⟨u66, hx⟩ := hx
      obtain ⟨u67, hx⟩ := hx
      obtain ⟨u68, hx⟩ := hx
      obtain ⟨u69, hx⟩ := hx
      obtain ⟨u70, hx⟩ := hx
      obtain ⟨u71, hx⟩ := hx
      obtain ⟨u72, hx⟩ := hx
      obtain ⟨u73, hx⟩ := hx
      obtain ⟨u74, hx⟩ := hx
      obtain ⟨u75, hx⟩ := hx
      obtain ⟨u76, hx⟩ := hx
      obtain ⟨u77, hx⟩ := hx
      obtain ⟨u78, hx⟩ := hx
      obtain ⟨u79, hx⟩ := hx
      obtain ⟨u80, hx⟩ := hx
      obtain ⟨u81, hx⟩ := hx
      obtain ⟨u82, hx⟩ := hx
      obtain ⟨u83, hx⟩ := hx
      obtain ⟨u84, hx⟩ := hx
      obtain ⟨u85, hx⟩ := hx
      obtain ⟨u86, hx⟩ := hx
      obtain ⟨u87, hx⟩ := hx
      obtain ⟨u88, hx⟩ := hx
      obtain ⟨u89, hx⟩ := hx
      obtain ⟨u90, hx⟩ := hx
      obtain ⟨u91, hx⟩ := hx
      obtain ⟨u92, hx⟩ := hx
      obtain ⟨u93, hx⟩ := hx
      obtain ⟨u94, hx⟩ := hx
      obtain ⟨u95, hx⟩ := hx
      obtain ⟨u96, hx⟩ := hx
      obtain ⟨u97, hx⟩ := hx
      obtain ⟨u98, hx⟩ := hx
      obtain ⟨u99, hx⟩ := hx
      obtain ⟨u100, hx⟩ := hx
      obtain ⟨u101, hx⟩ := hx
      obtain ⟨u102, hx⟩ := hx
      obtain ⟨u103, hx⟩ := hx
      obtain ⟨u104, hx⟩ := hx
      obtain ⟨u105, hx⟩ := hx
      obtain ⟨u106, hx⟩ := hx
      obtain ⟨u107, hx⟩ := hx
      obtain ⟨u108, hx⟩ := hx
      obtain ⟨u109, hx⟩ := hx
      obtain ⟨u110, hx⟩ := hx
      obtain ⟨u111, hx⟩ := hx
      obtain ⟨u112, hx⟩ := hx
      obtain ⟨u113, hx⟩ := hx
      obtain ⟨u114, hx⟩ := hx
      obtain ⟨u115, hx⟩ := hx
      obtain ⟨u116, hx⟩ := hx
      obtain ⟨u117, hx⟩ := hx
      obtain ⟨u118, hx⟩ := hx
      obtain ⟨u119, hx⟩ := hx
      obtain ⟨u120, hx⟩ := hx
      obtain ⟨u121, hx⟩ := hx
      obtain ⟨u122, hx⟩ := hx
      obtain ⟨u123, hx⟩ := hx
      obtain ⟨u124, hx⟩ := hx
      obtain ⟨u125, hx⟩ := hx
      obtain ⟨u126, hx⟩ := hx
      obtain ⟨u127, hx⟩ := hx
      obtain ⟨u128, hx⟩ := hx
      obtain ⟨u129, hx⟩ := hx
      obtain ⟨u130, hx⟩ := hx
      obtain ⟨u131, hx⟩ := hx
      obtain ⟨u132, hx⟩ := hx
      obtain ⟨u133, hx⟩ := hx
      obtain ⟨u134, hx⟩ := hx
      obtain ⟨u135, hx⟩ := hx
      obtain ⟨u136, hx⟩ := hx
      obtain ⟨u137, hx⟩ := hx
      obtain ⟨u138, hx⟩ := hx
      obtain ⟨u139, hx⟩ := hx
      obtain ⟨u140, hx⟩ := hx
      obtain ⟨u141, hx⟩ := hx
      obtain ⟨u142, hx⟩ := hx
      obtain ⟨u143, hx⟩ := hx
      obtain ⟨u144, hx⟩ := hx
      obtain ⟨u145, hx⟩ := hx
      obtain ⟨u146, hx⟩ := hx
      obtain ⟨u147, hx⟩ := hx
      obtain ⟨u148, hx⟩ := hx
      obtain ⟨u149, hx⟩ := hx
      obtain ⟨u150, hx⟩ := hx
      obtain ⟨u151, hx⟩ := hx
      obtain ⟨u152, hx⟩ := hx
      obtain ⟨u153, hx⟩ := hx
      obtain ⟨u154, hx⟩ := hx
      obtain ⟨u155, hx⟩ := hx
      obtain ⟨u156, hx⟩ := hx
      obtain ⟨u157, hx⟩ := hx
      obtain ⟨u158, hx⟩ := hx
      obtain ⟨u159, hx⟩ := hx
      obtain ⟨u160, hx⟩ := hx
      obtain ⟨u161, hx⟩ := hx
      obtain ⟨u162, hx⟩ := hx
      obtain ⟨u163, hx⟩ := hx
      obtain ⟨u164, hx⟩ := hx
      obtain ⟨u165, hx⟩ := hx
      obtain ⟨u166, hx⟩ := hx
      obtain ⟨u167, hx⟩ := hx
      obtain ⟨u168, hx⟩ := hx
      obtain ⟨u169, hx⟩ := hx
      obtain ⟨u170, hx⟩ := hx
      obtain ⟨u171, hx⟩ := hx
      obtain ⟨u172, hx⟩ := hx
      obtain ⟨u173, hx⟩ := hx
      obtain ⟨u174, hx⟩ := hx
      obtain ⟨u175, hx⟩ := hx
      obtain ⟨u176, hx⟩ := hx
      obtain ⟨u177, hx⟩ := hx
      obtain ⟨u178, hx⟩ := hx
      obtain ⟨u179, hx⟩ := hx
      obtain ⟨u180, hx⟩ := hx
      obtain ⟨u181, hx⟩ := hx
      obtain ⟨u182, hx⟩ := hx
      obtain ⟨u183, hx⟩ := hx
      obtain ⟨u184, hx⟩ := hx
      obtain ⟨u185, hx⟩ := hx
      obtain ⟨u186, hx⟩ := hx
      obtain ⟨u187, hx⟩ := hx
      obtain ⟨u188, hx⟩ := hx
      obtain ⟨u189, hx⟩ := hx
      obtain ⟨u190, hx⟩ := hx
      obtain ⟨u191, hx⟩ := hx
      obtain ⟨u192, hx⟩ := hx
      obtain ⟨u193, hx⟩ := hx
      obtain ⟨u194, hx⟩ := hx
      obtain ⟨u195, hx⟩ := hx
      obtain ⟨u196, hx⟩ := hx
      obtain ⟨u197, hx⟩ := hx
      obtain ⟨u198, hx⟩ := hx
      obtain ⟨u199, hx⟩ := hx
      obtain ⟨u200, hx⟩ := hx
      obtain ⟨u201, hx⟩ := hx
      obtain ⟨u202, hx⟩ := hx
      obtain ⟨u203, hx⟩ := hx
      obtain ⟨u204, hx⟩ := hx
      obtain ⟨u205, hx⟩ := hx
      obtain ⟨u206, hx⟩ := hx
      obtain ⟨u207, hx⟩ := hx
      obtain ⟨u208, hx⟩ := hx
      obtain ⟨u209, hx⟩ := hx
      obtain ⟨u210, hx⟩ := hx
      obtain ⟨u211, hx⟩ := hx
      obtain ⟨u212, hx⟩ := hx
      obtain ⟨u213, hx⟩ := hx
      obtain ⟨u214, hx⟩ := hx
      obtain ⟨u215, hx⟩ := hx
      obtain ⟨u216, hx⟩ := hx
      obtain ⟨u217, hx⟩ := hx
      obtain ⟨u218, hx⟩ := hx
      obtain ⟨u219, hx⟩ := hx
      obtain ⟨u220, hx⟩ := hx
      obtain ⟨u221, hx⟩ := hx
      obtain ⟨u222, hx⟩ := hx
      obtain ⟨u223, hx⟩ := hx
      obtain ⟨u224, hx⟩ := hx
      obtain ⟨u225, hx⟩ := hx
      obtain ⟨u226, hx⟩ := hx
      obtain ⟨u227, hx⟩ := hx
      obtain ⟨u228, hx⟩ := hx
      obtain ⟨u229, hx⟩ := hx
      obtain ⟨u230, hx⟩ := hx
      obtain ⟨u231, hx⟩ := hx
      obtain ⟨u232, hx⟩ := hx
      obtain ⟨u233, hx⟩ := hx
      obtain ⟨u234, hx⟩ := hx
      obtain ⟨u235, hx⟩ := hx
      obtain ⟨u236, hx⟩ := hx
      obtain ⟨u237, hx⟩ := hx
      obtain ⟨hcut, rfl⟩ := hx
      obtain ⟨rfl, hne, v3, rfl, HT3⟩ := hcut
      have HNE := Lib.hid hne
      clear hne HT2
      have HB := Lib.hid (show ∀ c ∈ Z ++ pcE u m, CwV.By c from by
        intro c hc
        rw [HZ.out] at hc
        simp only [List.mem_append] at hc
        rcases hc with (hc | hc) | hc
        · exact CwV.encE_b HUB.out i c hc
        · exact CwV.lcE_b _ c hc
        · exact CwV.pcE_b hub.1 hub.2 c hc)
      obtain ⟨A3, c3, hf3, hI3⟩ := HT3.out.ev.ints (fun z hz => by_u8 (HB.out z hz))
      have hpl : 1 ≤ (pcE u m).length := by have := pcE_ne u m; cases h : pcE u m with | nil => exact absurd h this | cons a b => simp
      obtain ⟨x, hx⟩ : ∃ x, x = (pcE u m).length := ⟨_, rfl⟩
      have hlen : (Z ++ pcE u m).length = L2 + x := by rw [List.length_append, HL2.out, hx]
      rw [hlen] at hf3 hI3
      have hx12 : x ≤ 12 := by rw [hx]; exact pcE_len u m
      rw [← hx] at hpl
      have HX := Lib.hid hx
      subst hf3
      have hc3 : L2 + x ≤ c3 := hI3.1
      have hc3b : c3 ≤ maxLen := hI3.2.1
      unfold maxLen at hc3b
      obtain ⟨g3, o3, hA3, hg3, hcl3⟩ := hI3.2.2.2.2.2 (by omega)
      subst hA3
      have HCL := Lib.hid hcl3
      have HYS := Lib.hid (show ∀ j, j < x → wc.cell? ⟨g3, o3 + L2 + j, none⟩ = some (.int .u8 ((pcE u m).getD j 0)) from fun j hj => by
        have := hcl3 (L2 + j) (by omega)
        rw [Nat.add_assoc, this, HL2.out, getD_app])
      clear hcl3 hI3 hlen hx
      have HTURN := Lib.hid (show encE U M (i + 1) = Z ++ pcE u m ∧ encR U M (i + 1) = Y ++ pcE u m from by
        have e : pcR u m = pcE u m := by unfold pcR; rw [if_neg HNE.out]
        rw [encE_succ, encR_succ, ← HU.out, ← HM.out, e, ← List.append_assoc, ← List.append_assoc, ← HZ.out, ← HY.out]
        exact ⟨rfl, rfl⟩)
      have HYL := Lib.hid (show Y.length + x ≤ 1000000000 from by have := HZL.out; omega)
      go_wp2_with (refine Owg.wpList_own_g _ rfl _ _ 23 rfl w.heap.size 5 .u8 1 Tryd.underlying23 info5 (by decide) _ _ rfl HT3.out.er g3 (o3 + L2) x (c3 - L2) (pcE u m) (by go_simp <;> first | rfl | (simp [Addr.add]; omega)) HX.out.symm HYS.out HYL.out HT3.out.bel.size ?_; intro A' n' c' w1 ho h2 h3; have HR := Lib.hid (HT3.out.growR ho (gr_of h2 h3)); clear ho h2 h3)
      refine Met.intro ?_
      refine HN _ _ ?_
      unfold CwM.RN
      repeat apply Exists.intro
      refine ⟨?_, rfl⟩
      exact ⟨_, _, rfl, rfl, by go_num, by rw [HTURN.out.1, HTURN.out.2]; exact HR.out⟩
    · intro a' wc hx
      unfold CwJ.RQ at hx
      obtain ⟨u8, hx⟩ := hx
      obtain ⟨u9, hx⟩ := hx
      obtain ⟨u16, hx⟩ := hx
      obtain ⟨u17, hx⟩ := hx
      obtain ⟨u18, hx⟩ := hx
      obtain ⟨u27, hx⟩ := hx
      obtain ⟨u28, hx⟩ := hx
      obtain ⟨u29, hx⟩ := hx
      obtain ⟨u30, hx⟩ := hx
      obtain ⟨u31, hx⟩ := hx
      obtain ⟨u32, hx⟩ := hx
      obtain ⟨u33, hx⟩ := hx
      obtain ⟨u34, hx⟩ := hx
      obtain ⟨u35, hx⟩ := hx
      obtain ⟨u36, hx⟩ := hx
      obtain ⟨u37, hx⟩ := hx
      obtain ⟨u38, hx⟩ := hx
      obtain ⟨u39, hx⟩ := hx
      obtain ⟨u40, hx⟩ := hx
      obtain ⟨u41, hx⟩ := hx
      obtain ⟨u42, hx⟩ := hx
      obtain ⟨u43, hx⟩ := hx
      obtain ⟨u44, hx⟩ := hx
      obtain ⟨u45, hx⟩ := hx
      obtain ⟨u46, hx⟩ := hx
      obtain ⟨u47, hx⟩ := hx
      obtain ⟨u48, hx⟩ := hx
      obtain ⟨u49, hx⟩ := hx
      obtain ⟨u50, hx⟩ := hx
      obtain ⟨u51, hx⟩ := hx
      obtain ⟨u52, hx⟩ := hx
      obtain ⟨u53, hx⟩ := hx
      obtain ⟨u54, hx⟩ := hx
      obtain ⟨u55, hx⟩ := hx
      obtain ⟨u56, hx⟩ := hx
      obtain ⟨u57, hx⟩ := hx
      obtain ⟨u58, hx⟩ := hx
      obtain ⟨u59, hx⟩ := hx
      obtain ⟨u60, hx⟩ := hx
      obtain ⟨u61, hx⟩ := hx
      obtain ⟨u62, hx⟩ := hx
      obtain ⟨u63, hx⟩ := hx
      obtain ⟨u64, hx⟩ := hx
      obtain ⟨u65, hx⟩ := hx
      obtain ⟨u66, hx⟩ := hx
      obtain ⟨u67, hx⟩ := hx
      obtain ⟨u68, hx⟩ := hx
      obtain ⟨u69, hx⟩ := hx
      obtain ⟨u70, hx⟩ := hx
      obtain ⟨u71, hx⟩ := hx
      obtain ⟨u72, hx⟩ := hx
      obtain ⟨u73, hx⟩ := hx
      obtain ⟨u74, hx⟩ := hx
      obtain ⟨u75, hx⟩ := hx
      obtain ⟨u76, hx⟩ := hx
      obtain ⟨u77, hx⟩ := hx
      obtain ⟨u78, hx⟩ := hx
      obtain ⟨u79, hx⟩ := hx
      obtain ⟨u80, hx⟩ := hx
      obtain ⟨u81, hx⟩ := hx
      obtain ⟨u82, hx⟩ := hx
      obtain ⟨u83, hx⟩ := hx
      obtain ⟨u84, hx⟩ := hx
      obtain ⟨u85, hx⟩ := hx
      obtain ⟨u86, hx⟩ := hx
      obtain ⟨u87, hx⟩ := hx
      obtain ⟨u88, hx⟩ := hx
      obtain ⟨u89, hx⟩ := hx
      obtain ⟨u90, hx⟩ := hx
      obtain ⟨u91, hx⟩ := hx
      obtain ⟨u92, hx⟩ := hx
      obtain ⟨u93, hx⟩ := hx
      obtain ⟨u94, hx⟩ := hx
      obtain ⟨u95, hx⟩ := hx
      obtain ⟨u96, hx⟩ := hx
      obtain ⟨u97, hx⟩ := hx
      obtain ⟨u98, hx⟩ := hx
      obtain ⟨u99, hx⟩ := hx
      obtain ⟨u100, hx⟩ := hx
      obtain ⟨u101, hx⟩ := hx
      obtain ⟨u102, hx⟩ := hx
      obtain ⟨u103, hx⟩ := hx
      obtain ⟨u104, hx⟩ := hx
      obtain ⟨u105, hx⟩ := hx
      obtain ⟨u106, hx⟩ := hx
      obtain ⟨u107, hx⟩ := hx
      obtain ⟨u108, hx⟩ := hx
      obtain ⟨u109, hx⟩ := hx
      obtain ⟨u110, hx⟩ := hx
      obtain ⟨u111, hx⟩ := hx
      obtain ⟨u112, hx⟩ := hx
      obtain ⟨u113, hx⟩ := hx
      obtain ⟨u114, hx⟩ := hx
      obtain ⟨u115, hx⟩ := hx
      obtain ⟨u116, hx⟩ := hx
      obtain ⟨u117, hx⟩ := hx
      obtain ⟨u118, hx⟩ := hx
      obtain ⟨u119, hx⟩ := hx
      obtain ⟨u120, hx⟩ := hx
      obtain ⟨u121, hx⟩ := hx
      obtain ⟨u122, hx⟩ := hx
      obtain ⟨u123, hx⟩ := hx
      obtain ⟨u124, hx⟩ := hx
      obtain ⟨u125, hx⟩ := hx
      obtain ⟨u126, hx⟩ := hx
      obtain ⟨u127, hx⟩ := hx
      obtain ⟨u128, hx⟩ := hx
      obtain ⟨u129, hx⟩ := hx
      obtain ⟨u130, hx⟩ := hx
      obtain ⟨u131, hx⟩ := hx
      obtain ⟨u132, hx⟩ := hx
      obtain ⟨u133, hx⟩ := hx
      obtain ⟨u134, hx⟩ := hx
      obtain ⟨u135, hx⟩ := hx
      obtain ⟨u136, hx⟩ := hx
      obtain ⟨u137, hx⟩ := hx
      obtain ⟨u138, hx⟩ := hx
      obtain ⟨u139, hx⟩ := hx
      obtain ⟨u140, hx⟩ := hx
      obtain ⟨u141, hx⟩ := hx
      obtain ⟨u142, hx⟩ := hx
      obtain ⟨u143, hx⟩ := hx
      obtain ⟨u144, hx⟩ := hx
      obtain ⟨u145, hx⟩ := hx
      obtain ⟨u146, hx⟩ := hx
      obtain ⟨u147, hx⟩ := hx
      obtain ⟨u148, hx⟩ := hx
      obtain ⟨u149, hx⟩ := hx
      obtain ⟨u150, hx⟩ := hx
      obtain ⟨u151, hx⟩ := hx
      obtain ⟨u152, hx⟩ := hx
      obtain ⟨u153, hx⟩ := hx
      obtain ⟨u154, hx⟩ := hx
      obtain ⟨u155, hx⟩ := hx
      obtain ⟨u156, hx⟩ := hx
      obtain ⟨u157, hx⟩ := hx
      obtain ⟨u158, hx⟩ := hx
      obtain ⟨u159, hx⟩ := hx
      obtain ⟨u160, hx⟩ := hx
      obtain ⟨u161, hx⟩ := hx
      obtain ⟨u162, hx⟩ := hx
      obtain ⟨u163, hx⟩ := hx
      obtain ⟨u164, hx⟩ := hx
      obtain ⟨u165, hx⟩ := hx
      obtain ⟨u166, hx⟩ := hx
      obtain ⟨u167, hx⟩ := hx
      obtain ⟨u168, hx⟩ := hx
      obtain ⟨u169, hx⟩ := hx
      obtain ⟨u170, hx⟩ := hx
      obtain ⟨u171, hx⟩ := hx
      obtain ⟨u172, hx⟩ := hx
      obtain ⟨u173, hx⟩ := hx
      obtain ⟨u174, hx⟩ := hx
      obtain ⟨u175, hx⟩ := hx
      obtain ⟨u176, hx⟩ := hx
      obtain ⟨u177, hx⟩ := hx
      obtain ⟨u178, hx⟩ := hx
      obtain ⟨u179, hx⟩ := hx
      obtain ⟨u180, hx⟩ := hx
      obtain ⟨u181, hx⟩ := hx
      obtain ⟨u182, hx⟩ := hx
      obtain ⟨u183, hx⟩ := hx
      obtain ⟨u184, hx⟩ := hx
      obtain ⟨u185, hx⟩ := hx
      obtain ⟨u186, hx⟩ := hx
      obtain ⟨u187, hx⟩ := hx
      obtain ⟨u188, hx⟩ := hx
      obtain ⟨u189, hx⟩ := hx
      obtain ⟨u190, hx⟩ := hx
      obtain ⟨u191, hx⟩ := hx
      obtain ⟨u192, hx⟩ := hx
      obtain ⟨u193, hx⟩ := hx
      obtain ⟨u194, hx⟩ := hx
      obtain ⟨u195, hx⟩ := hx
      obtain ⟨u196, hx⟩ := hx
      obtain ⟨u197, hx⟩ := hx
      obtain ⟨u198, hx⟩ := hx
      obtain ⟨u199, hx⟩ := hx
      obtain ⟨u200, hx⟩ := hx
      obtain ⟨u201, hx⟩ := hx
      obtain ⟨u202, hx⟩ := hx
      obtain ⟨u203, hx⟩ := hx
      obtain ⟨u204, hx⟩ := hx
      obtain ⟨u205, hx⟩ := hx
      obtain ⟨u206, hx⟩ := hx
      obtain ⟨u207, hx⟩ := hx
      obtain ⟨u208, hx⟩ := hx
      obtain ⟨u209, hx⟩ := hx
      obtain ⟨u210, hx⟩ := hx
      obtain ⟨u211, hx⟩ := hx
      obtain ⟨u212, hx⟩ := hx
      obtain ⟨u213, hx⟩ := hx
      obtain ⟨u214, hx⟩ := hx
      obtain ⟨u215, hx⟩ := hx
      obtain ⟨u216, hx⟩ := hx
      obtain ⟨u217, hx⟩ := hx
      obtain ⟨u218, hx⟩ := hx
      obtain ⟨u219, hx⟩ := hx
      obtain ⟨u220, hx⟩ := hx
      obtain ⟨u221, hx⟩ := hx
      obtain ⟨u222, hx⟩ := hx
      obtain ⟨u223, hx⟩ := hx
      obtain ⟨u224, hx⟩ := hx
      obtain ⟨u225, hx⟩ := hx
      obtain ⟨u226, hx⟩ := hx
      obtain ⟨u227, hx⟩ := hx
      obtain ⟨u228, hx⟩ := hx
      obtain ⟨u229, hx⟩ := hx
      obtain ⟨u230, hx⟩ := hx
      obtain ⟨u231, hx⟩ := hx
      obtain ⟨u232, hx⟩ := hx
      obtain ⟨u233, hx⟩ := hx
      obtain ⟨u234, hx⟩ := hx
      obtain ⟨u235, hx⟩ := hx
      obtain ⟨u236, hx⟩ := hx
      obtain ⟨u237, hx⟩ := hx
      obtain ⟨HR, rfl⟩ := hx
      simp only [Exit.inBlock, Exit.then]
      go_wp2_with fail
      refine Met.intro ?_
      refine HN _ _ ?_
      unfold CwM.RN
      repeat apply Exists.intro
      refine ⟨?_, rfl⟩
      exact ⟨_, _, rfl, rfl, by go_num, by rw [encE_succ, encR_succ, ← HU.out, ← HM.out, ← List.append_assoc, ← List.append_assoc, ← HZ.out, ← HY.out]; exact HR.out⟩
end Go.Proofs.YtalpfbbceggcaaaDoor.CwEr
