/- FnSortedCrossChunkImportsOrderFree: pdqsort over any state. -/
import Derived.Test.YtfcpjckecjjmjaaSoH
import Derived.Test.YtfcpjckecjjmjaaSoR
import Derived.Test.YtfcpjckecjjmjaaSoP
import Derived.Test.YtfcpjckecjjmjaaSoQ
import Derived.Test.YtfcpjckecjjmjaaSoV
import Derived.Test.YtfcpjckecjjmjaaSoB
import Derived.Shelf.GgSortFunc.Pdq
import Derived.WalkKit
import Derived.ProofKit
import Derived.OpenShut
import Derived.Below
import Derived.WalkLawsBesides
import Derived.Lib.Hide
import Derived.Outline
import Derived.RegionTactic
import Derived.Deep.QuietTactic
import Derived.BigQuiet
import Derived.WalkSpells
import Derived.Deep.OwnRows
import Derived.IntWalk
import Derived.Deep.DeepMust
namespace Go.Proofs.Ytfcpjckecjjmjaa.SoM
open Go.RowKit Go.Sort Go.Shelf Go.Lib SoA SoD SoH SoR SoP SoQ SoO SoV SoB
set_option linter.unusedVariables false
section
variable {P : Program} {ρ : Ren} {α : Type} [Inhabited α] {T : TypeId} {rv : Value} {gl gs : Nat} {lt : α → α → Bool} {n base : Nat} {S : World → Array α → Prop}
set_option maxRecDepth 1000000 in
set_option maxHeartbeats 12800000 in
theorem pdq18 (L : LaysGt.n18 P ρ) (hO : SWO lt) (I : Ifc P T rv gl gs lt n base S) (hn : n ≤ 1048576) :
    ∀ (N a b limit : Nat) (d : Array α) (W : World), b - a < N → S W d → a ≤ b → b ≤ n → limit ≤ 64 → Sort.Below lt a b d →
    Calls P (ρ.f 18) #[.iface T rv, .int .i64 a, .int .i64 b, .int .i64 limit] W fun e w' => e = .returned (.tuple #[]) ∧ S w' (pdq lt d a b limit true true) := by
  have HI := Lib.hid I
  have LX := Lib.hid L
  have SZ := Lib.hid I.size
  have mL := I.mL
  have mS := I.mS
  have eL := I.eL
  have eS := I.eS
  clear I
  have mixed := L.mixed; have t0 := L.t0; have a0 := L.a0; have z0 := L.z0; have v0 := L.v0; have t3 := L.t3; have a3 := L.a3; have z3 := L.z3; have v3 := L.v3; have t4 := L.t4; have a4 := L.a4; have z4 := L.z4; have v4 := L.v4; have t5 := L.t5; have a5 := L.a5; have z5 := L.z5; have v5 := L.v5; have t9 := L.t9; have a9 := L.a9; have z9 := L.z9; have v9 := L.v9; have t26 := L.t26; have a26 := L.a26; have z26 := L.z26; have v26 := L.v26; have t38 := L.t38; have a38 := L.a38; have z38 := L.z38; have v38 := L.v38; have t43 := L.t43; have a43 := L.a43; have z43 := L.z43; have v43 := L.v43; have t45 := L.t45; have a45 := L.a45; have z45 := L.z45; have v45 := L.v45; have t47 := L.t47; have a47 := L.a47; have z47 := L.z47; have v47 := L.v47; have t56 := L.t56; have a56 := L.a56; have z56 := L.z56; have v56 := L.v56; have t58 := L.t58; have a58 := L.a58; have z58 := L.z58; have v58 := L.v58; have t60 := L.t60; have a60 := L.a60; have z60 := L.z60; have v60 := L.v60; have t61 := L.t61; have a61 := L.a61; have z61 := L.z61; have v61 := L.v61; have t65 := L.t65; have a65 := L.a65; have z65 := L.z65; have v65 := L.v65; have t67 := L.t67; have a67 := L.a67; have z67 := L.z67; have v67 := L.v67; have t71 := L.t71; have a71 := L.a71; have z71 := L.z71; have v71 := L.v71; have t73 := L.t73; have a73 := L.a73; have z73 := L.z73; have v73 := L.v73; have t74 := L.t74; have a74 := L.a74; have z74 := L.z74; have v74 := L.v74
  have e33 : ∀ args w, (callFunc (ρ.f 33) args).run P w = .ok (.enter (ρ.f 33) args) w := enters_of L.f33 (by kernel_rfl) rfl
  have e34 : ∀ args w, (callFunc (ρ.f 34) args).run P w = .ok (.enter (ρ.f 34) args) w := enters_of L.f34 (by kernel_rfl) rfl
  have e35 : ∀ args w, (callFunc (ρ.f 35) args).run P w = .ok (.enter (ρ.f 35) args) w := enters_of L.f35 (by kernel_rfl) rfl
  have e36 : ∀ args w, (callFunc (ρ.f 36) args).run P w = .ok (.enter (ρ.f 36) args) w := enters_of L.f36 (by kernel_rfl) rfl
  have e37 : ∀ args w, (callFunc (ρ.f 37) args).run P w = .ok (.enter (ρ.f 37) args) w := enters_of L.f37 (by kernel_rfl) rfl
  have e38 : ∀ args w, (callFunc (ρ.f 38) args).run P w = .ok (.enter (ρ.f 38) args) w := enters_of L.f38 (by kernel_rfl) rfl
  have e39 : ∀ args w, (callFunc (ρ.f 39) args).run P w = .ok (.enter (ρ.f 39) args) w := enters_of L.f39 (by kernel_rfl) rfl
  have e40 : ∀ args w, (callFunc (ρ.f 40) args).run P w = .ok (.enter (ρ.f 40) args) w := enters_of L.f40 (by kernel_rfl) rfl
  have e18 : ∀ args w, (callFunc (ρ.f 18) args).run P w = .ok (.enter (ρ.f 18) args) w := enters_of L.f18 (by kernel_rfl) rfl
  intro N
  induction N with
  | zero => intro _ _ _ _ _ h; exact absurd h (Nat.not_lt_zero _)
  | succ N ih =>
    intro a b limit d W hN hS hab hb hlimit hBel0
    have IH := Lib.hid ih
    have HS := Lib.hid hS
    have HB0 := Lib.hid hBel0
    clear ih hS hBel0
    go_enter L.f18, BodyGt.n18_ntmps ρ
    go_wp2
    go_loopw [1, 2, 3, 8, 9] (fun s1 s2 s3 s8 s9 wr => ∃ (a' b' lim : Nat) (wb wp : Bool) (dk : Array α), s1 = .int .i64 a' ∧ s2 = .int .i64 b' ∧ s3 = .int .i64 lim ∧ s8 = .bool wb ∧ s9 = .bool wp ∧
      a' ≤ b' ∧ b' ≤ n ∧ b' - a' ≤ b - a ∧ lim ≤ limit ∧ Hid (Sort.Below lt a' b' dk) ∧ Hid (S wr dk) ∧ Hid (pdq lt dk a' b' lim wb wp = pdq lt d a b limit true true)) (fun s1 s2 _ _ _ _ => (intOf s2 - intOf s1).toNat)
    case atStart => exact ⟨a, b, limit, true, true, d, rfl, rfl, rfl, rfl, rfl, hab, hb, Nat.le_refl _, Nat.le_refl _, HB0.out, HS.out, rfl⟩
    case round =>
      obtain ⟨a', b', lim, wb, wp, dk, rfl, rfl, rfl, rfl, rfl, hab', hb', hk, hlim, hBel, SK, A⟩ := hrel
      by_cases h12 : b' - a' ≤ 12
      · have h12z : (b' : Int) - (a' : Int) ≤ 12 := by omega
        have hc := Lib.hid (ins33 (P := P) (ρ := ρ) { LX.out with } HI.out hn wr dk a' b' SK.out hab' hb')
        have FIN := Lib.hid (show pdq lt d a b limit true true = insertionSort lt dk a' b' from by rw [← A.out, pdq_small h12])
        go_wp2_with (go_at_fn (ρ.f 33); refine hc.out.mono ?_; rintro e w' ⟨rfl, hs⟩; have S1 := Lib.hid hs; clear hs)
        (try simp only [Exit.inBlock, Exit.then]); refine bodyPost_ret (results_none rfl _ _ _) rfl ?_
        refine ⟨rfl, ?_⟩
        rw [FIN.out]
        exact S1.out
      · have h12z : ¬ ((b' : Int) - (a' : Int) ≤ 12) := by omega
        by_cases hl0 : lim = 0
        · subst hl0
          have hc := Lib.hid (heap34 (P := P) (ρ := ρ) { LX.out with } HI.out hn wr dk a' b' SK.out hab' hb')
          have FIN := Lib.hid (show pdq lt d a b limit true true = heapSort lt dk a' b' from by rw [← A.out, pdq_heap h12 rfl])
          go_wp2_with (go_at_fn (ρ.f 34); refine hc.out.mono ?_; rintro e w' ⟨rfl, hs⟩; have S1 := Lib.hid hs; clear hs)
          (try simp only [Exit.inBlock, Exit.then]); refine bodyPost_ret (results_none rfl _ _ _) rfl ?_
          refine ⟨rfl, ?_⟩
          rw [FIN.out]
          exact S1.out
        · have hl0z : ¬ ((lim : Int) = 0) := by omega
          have dks := SZ.out _ _ SK.out
          obtain ⟨s1, B1, hc1, s2, B2, hpv, s3, B3⟩ := rd_facts (lt := lt) (limit := lim) (wb := wb) (wp := wp) hO partialInsertionSort_holds reverseRange_holds (show a' < b' by omega) (show b' ≤ dk.size by omega) hBel.out
          have RF := Lib.hid (show (rd lt dk a' b' lim wb wp).d1.size = n ∧ (rd lt dk a' b' lim wb wp).d2.size = n ∧ (rd lt dk a' b' lim wb wp).pi.1.size = n ∧ Sort.Below lt a' b' (rd lt dk a' b' lim wb wp).pi.1 from ⟨by omega, by omega, by omega, B3⟩)
          clear dks s1 B1 s2 B2 s3 B3
          -- 'if !wasBalanced'
          go_upto_if 35 with fail
          go_cut [3] from 19 (fun s3 wc => s3 = .int .i64 (rd lt dk a' b' lim wb wp).lim ∧ Hid (S wc (rd lt dk a' b' lim wb wp).d1))
          case first =>
            cases wb
            · have hc := Lib.hid (brk35 (P := P) (ρ := ρ) { LX.out with } HI.out hn wr dk a' b' SK.out hab' hb')
              go_wp2_with (go_at_fn (ρ.f 35); refine hc.out.mono ?_; rintro e w' ⟨rfl, hs⟩; have S1 := Lib.hid hs; clear hs)
              go_meet
              case rel =>
                refine ⟨?_, S1.out⟩
                show Value.int .i64 ((lim : Int) - 1) = Value.int .i64 ((lim - 1 : Nat) : Int)
                congr 1
                omega
            · go_wp2_with fail
              go_meet
              case rel => exact ⟨rfl, SK.out⟩
          case rest =>
            obtain ⟨rfl, S1⟩ := hcut
            have hc17 := Lib.hid (show Calls P (ρ.f 36) #[.iface T rv, .int .i64 a', .int .i64 b'] wc fun e w' => e = .returned (.tuple #[.int .i64 (rd lt dk a' b' lim wb wp).c.1, .int .i64 (hintCode (rd lt dk a' b' lim wb wp).c.2)]) ∧ S w' (rd lt dk a' b' lim wb wp).d1 from
              piv36 (P := P) (ρ := ρ) { LX.out with } HI.out hn wc (rd lt dk a' b' lim wb wp).d1 a' b' S1.out (by omega) hb')
            go_upto_if 50 with (go_at_fn (ρ.f 36); refine hc17.out.mono ?_; rintro e w2 ⟨rfl, hs⟩; have S2 := Lib.hid hs; clear hs)
            go_cut [11, 12] from 19 (fun s11 s12 wc => s11 = .int .i64 (rd lt dk a' b' lim wb wp).pivot ∧ s12 = .int .i64 (hintCode (rd lt dk a' b' lim wb wp).hint) ∧ Hid (S wc (rd lt dk a' b' lim wb wp).d2))
            case first =>
              by_cases hh : (rd lt dk a' b' lim wb wp).c.2 = .decreasing
              · have hcode : hintCode (rd lt dk a' b' lim wb wp).c.2 = 2 := by rw [hh]; rfl
                obtain ⟨e2, epv, eht⟩ := rd_dec hh
                have hc18 := Lib.hid (rev37 (P := P) (ρ := ρ) { LX.out with } HI.out hn w2 (rd lt dk a' b' lim wb wp).d1 a' b' S2.out hab' hb')
                have E2 := Lib.hid e2
                have EP := Lib.hid epv
                have EH := Lib.hid eht
                clear e2 epv eht
                go_wp2_with (go_at_fn (ρ.f 37); refine hc18.out.mono ?_; rintro e w3 ⟨rfl, hs⟩; have S3 := Lib.hid hs; clear hs)
                go_meet
                case rel =>
                  refine ⟨?_, by rw [EH.out]; rfl, by rw [E2.out]; exact S3.out⟩
                  rw [EP.out]
                  congr 1
                  omega
              · have hcode : ¬ (hintCode (rd lt dk a' b' lim wb wp).c.2 = 2) := fun h => hh (hintCode_two h)
                obtain ⟨e2, epv, eht⟩ := rd_not hh
                have E2 := Lib.hid e2
                have EP := Lib.hid epv
                have EH := Lib.hid eht
                clear e2 epv eht
                go_wp2_with fail
                go_meet
                case rel => exact ⟨by rw [EP.out], by rw [EH.out], by rw [E2.out]; exact S2.out⟩
            case rest =>
              obtain ⟨rfl, rfl, S3⟩ := hcut
              go_upto_region 15 with fail
              go_cut [12, 68] from 19 (fun s12 s68 wx => s12 = .int .i64 (hintCode (rd lt dk a' b' lim wb wp).hint) ∧ s68 = .bool (wb && wp && decide ((rd lt dk a' b' lim wb wp).hint = .increasing)) ∧ wx = wc)
              case first =>
                cases wb <;> cases wp <;> cases hh3 : (rd lt dk a' b' lim _ _).hint <;>
                  (have hcode3 := congrArg hintCode hh3
                   simp only [hintCode] at hcode3
                   go_wp2_with fail
                   go_meet
                   exact ⟨by simp [hh3, hintCode], by simp [hh3, hintCode], rfl⟩)
              case rest =>
                obtain ⟨rfl, rfl, rfl⟩ := hcut
                go_upto_if 68 with fail
                go_cut [] from 19 (fun wx => (rd lt dk a' b' lim wb wp).pi.2 = false ∧ Hid (S wx (rd lt dk a' b' lim wb wp).pi.1))
                case first =>
                  cases h68 : (wb && wp && decide ((rd lt dk a' b' lim wb wp).hint = .increasing))
                  · have EPI := Lib.hid (rd_pi_no (lt := lt) (d := dk) (a := a') (b := b') (limit := lim) h68)
                    go_wp2_with fail
                    go_meet
                    case rel => exact ⟨by rw [EPI.out], by rw [EPI.out]; exact S3.out⟩
                  · have epi := rd_pi_yes (lt := lt) (d := dk) (a := a') (b := b') (limit := lim) h68
                    have hc19 := par38 (P := P) (ρ := ρ) { LX.out with } HI.out hn wc (rd lt dk a' b' lim wb wp).d2 a' b' S3.out (by omega) hb'
                    rw [← epi] at hc19
                    have EPI := Lib.hid epi
                    have H19 := Lib.hid hc19
                    clear epi hc19
                    go_wp2_with (go_at_fn (ρ.f 38); refine H19.out.mono ?_; rintro e w4 ⟨rfl, hs⟩; have S4 := Lib.hid hs; clear hs)
                    all_goals first
                      | (have hp2 : (rd lt dk a' b' lim wb wp).pi.2 = false := by assumption
                         go_meet
                         exact ⟨hp2, S4.out⟩)
                      | (have hp2 : (rd lt dk a' b' lim wb wp).pi.2 = true := by assumption
                         (try simp only [Exit.inBlock, Exit.then]); refine bodyPost_ret (results_none rfl _ _ _) rfl ?_
                         refine ⟨rfl, ?_⟩
                         rw [← A.out, pdq_done h12 hl0 hp2]
                         exact S4.out)
                case rest =>
                  obtain ⟨hp2, S5⟩ := hcut
                  go_upto_region 17 with fail
                  go_cut [82] from 19 (fun s82 wx => s82 = .bool (decide (a' > 0) && !lt (rd lt dk a' b' lim wb wp).pi.1[a' - 1]! (rd lt dk a' b' lim wb wp).pi.1[(rd lt dk a' b' lim wb wp).pivot]!) ∧ Hid (S wx (rd lt dk a' b' lim wb wp).pi.1))
                  case first =>
                    rcases Nat.eq_zero_or_pos a' with ha0 | ha0
                    · have ha0z : decide ((a' : Int) > 0) = false := decide_eq_false (by omega)
                      go_wp2_with fail
                      go_meet
                      case rel => exact ⟨by simp [ha0], S5.out⟩
                    · have ha0z : (a' : Int) > 0 := by omega
                      cases hlv : lt (rd lt dk a' b' lim wb wp).pi.1[a' - 1]! (rd lt dk a' b' lim wb wp).pi.1[(rd lt dk a' b' lim wb wp).pivot]! <;>
                        (have hl := Lib.hid (HI.out.lessZ ((a' : Int) - 1) ((rd lt dk a' b' lim wb wp).pivot : Int) wc (rd lt dk a' b' lim wb wp).pi.1 (a' - 1) (rd lt dk a' b' lim wb wp).pivot _ S5.out (by omega) rfl (by omega) (by omega) hlv)
                         go_wp2_with (go_at_fn gl; refine hl.out.mono ?_; rintro e w' ⟨rfl, hs⟩; have S6 := Lib.hid hs; clear hs)
                         go_meet
                         exact ⟨by simp [ha0, hlv], S6.out⟩)
                  case rest =>
                    obtain ⟨rfl, S6⟩ := hcut
                    cases h87 : (decide (a' > 0) && !lt (rd lt dk a' b' lim wb wp).pi.1[a' - 1]! (rd lt dk a' b' lim wb wp).pi.1[(rd lt dk a' b' lim wb wp).pivot]!)
                    · obtain ⟨mid, ap, d4, hx⟩ : ∃ mid ap d4, partition lt (rd lt dk a' b' lim wb wp).pi.1 a' b' (rd lt dk a' b' lim wb wp).pivot = (mid, ap, d4) := ⟨(partition lt (rd lt dk a' b' lim wb wp).pi.1 a' b' (rd lt dk a' b' lim wb wp).pivot).1, (partition lt (rd lt dk a' b' lim wb wp).pi.1 a' b' (rd lt dk a' b' lim wb wp).pivot).2.1, (partition lt (rd lt dk a' b' lim wb wp).pi.1 a' b' (rd lt dk a' b' lim wb wp).pivot).2.2, rfl⟩
                      obtain ⟨r1, r2, r3, r4, r5, r6, r7⟩ := round_part hO (partition_holds lt) hpv.1 hpv.2 (show b' ≤ (rd lt dk a' b' lim wb wp).pi.1.size by have := RF.out; omega) RF.out.2.2.2 hx
                      have hc22 := par40 (P := P) (ρ := ρ) { LX.out with } HI.out hn wc (rd lt dk a' b' lim wb wp).pi.1 a' b' (rd lt dk a' b' lim wb wp).pivot S6.out hpv.1 hpv.2 hb'
                      rw [hx] at hc22
                      have X := Lib.hid hx
                      have H22 := Lib.hid hc22
                      have R4 := Lib.hid r4
                      have R5 := Lib.hid r5
                      have R6 := Lib.hid r6
                      have R7 := Lib.hid r7
                      clear hx hc22 r3 r4 r5 r6 r7
                      go_upto_if 108 with (go_at_fn (ρ.f 40); refine H22.out.mono ?_; rintro e w7 ⟨rfl, hs⟩; have S7 := Lib.hid hs; clear hs)
                      have hs4 := SZ.out _ _ S7.out
                      have hs4' : d4.size = n := hs4
                      clear hs4
                      by_cases h4 : mid - a' < b' - mid
                      · have h4z : (mid : Int) - (a' : Int) < (b' : Int) - (mid : Int) := by omega
                        have hih := Lib.hid (IH.out a' mid (rd lt dk a' b' lim wb wp).lim d4 w7 (by omega) S7.out (by omega) (by omega) (Nat.le_trans rd_lim_le (Nat.le_trans hlim hlimit)) R4.out)
                        obtain ⟨pL, sL⟩ := pdq_sorts lt hO d4 a' mid (rd lt dk a' b' lim wb wp).lim true true (by omega) (by omega) R4.out
                        have PL := Lib.hid pL
                        have SL := Lib.hid sL
                        clear pL sL
                        go_wp2_with (go_at_fn (ρ.f 18); refine hih.out.mono ?_; rintro e w8 ⟨rfl, hs⟩; have S8 := Lib.hid hs; clear hs)
                        go_roundw
                        case rel =>
                          refine ⟨mid + 1, b', (rd lt dk a' b' lim wb wp).lim, decide (mid - a' ≥ (b' - a') / 8), ap, pdq lt d4 a' mid (rd lt dk a' b' lim wb wp).lim true true, by simp, rfl, rfl, ?_, rfl, by omega, by omega, by omega, Nat.le_trans rd_lim_le hlim, (R6.out _ PL.out SL.out).1, S8.out, ?_⟩
                          · exact congrArg Value.bool (eighth (by omega) (by omega))
                          · show _ = _
                            rw [← A.out, pdq_left h12 hl0 hp2 h87 (by rw [X.out]; exact ⟨r1, r2⟩) (by rw [X.out]; exact h4), X.out]
                        case measure => simp [intOf]; omega
                      · have h4z : ¬ ((mid : Int) - (a' : Int) < (b' : Int) - (mid : Int)) := by omega
                        have hih0 := IH.out (mid + 1) b' (rd lt dk a' b' lim wb wp).lim d4 w7 (by omega) S7.out (by omega) (by omega) (Nat.le_trans rd_lim_le (Nat.le_trans hlim hlimit)) R5.out
                        rw [show ((mid + 1 : Nat) : Int) = (mid : Int) + 1 by omega] at hih0
                        have hih := Lib.hid hih0
                        clear hih0
                        obtain ⟨pL, sL⟩ := pdq_sorts lt hO d4 (mid + 1) b' (rd lt dk a' b' lim wb wp).lim true true (by omega) (by omega) R5.out
                        have PL := Lib.hid pL
                        have SL := Lib.hid sL
                        clear pL sL
                        go_wp2_with (go_at_fn (ρ.f 18); refine hih.out.mono ?_; rintro e w8 ⟨rfl, hs⟩; have S8 := Lib.hid hs; clear hs)
                        go_roundw
                        case rel =>
                          refine ⟨a', mid, (rd lt dk a' b' lim wb wp).lim, decide (b' - mid ≥ (b' - a') / 8), ap, pdq lt d4 (mid + 1) b' (rd lt dk a' b' lim wb wp).lim true true, rfl, rfl, rfl, ?_, rfl, by omega, by omega, by omega, Nat.le_trans rd_lim_le hlim, (R7.out _ PL.out SL.out).1, S8.out, ?_⟩
                          · exact congrArg Value.bool (eighth (by omega) (by omega))
                          · show _ = _
                            rw [← A.out, pdq_right h12 hl0 hp2 h87 (by rw [X.out]; exact ⟨r1, r2⟩) (by rw [X.out]; exact h4), X.out]
                        case measure => simp [intOf]; omega
                    · have h87' := h87
                      simp only [Bool.and_eq_true, decide_eq_true_eq, Bool.not_eq_true'] at h87'
                      obtain ⟨mid, d4, hx⟩ : ∃ mid d4, partitionEqual lt (rd lt dk a' b' lim wb wp).pi.1 a' b' (rd lt dk a' b' lim wb wp).pivot = (mid, d4) := ⟨(partitionEqual lt (rd lt dk a' b' lim wb wp).pi.1 a' b' (rd lt dk a' b' lim wb wp).pivot).1, (partitionEqual lt (rd lt dk a' b' lim wb wp).pi.1 a' b' (rd lt dk a' b' lim wb wp).pivot).2, rfl⟩
                      obtain ⟨r1, r2, r3, r4, _⟩ := round_eq hO (partitionEqual_holds lt) h87'.1 hpv.1 hpv.2 (show b' ≤ (rd lt dk a' b' lim wb wp).pi.1.size by have := RF.out; omega) RF.out.2.2.2 h87'.2 hx
                      have hc21 := parE39 (P := P) (ρ := ρ) { LX.out with } HI.out hn wc (rd lt dk a' b' lim wb wp).pi.1 a' b' (rd lt dk a' b' lim wb wp).pivot S6.out hpv.1 hpv.2 hb'
                      rw [hx] at hc21
                      have X := Lib.hid hx
                      have H21 := Lib.hid hc21
                      have R4 := Lib.hid r4
                      clear hx hc21 r3 r4
                      go_wp2_with (go_at_fn (ρ.f 39); refine H21.out.mono ?_; rintro e w7 ⟨rfl, hs⟩; have S7 := Lib.hid hs; clear hs)
                      go_roundw
                      case rel =>
                        exact ⟨mid, b', (rd lt dk a' b' lim wb wp).lim, wb, wp, d4, rfl, rfl, rfl, rfl, rfl, r2, hb', by omega, Nat.le_trans rd_lim_le hlim, R4.out, S7.out, by show _ = _; rw [← A.out, pdq_eq h12 hl0 hp2 h87 (by rw [X.out]; exact ⟨r1, r2⟩), X.out]⟩
                      case measure => simp [intOf]; omega
end
end Go.Proofs.Ytfcpjckecjjmjaa.SoM
