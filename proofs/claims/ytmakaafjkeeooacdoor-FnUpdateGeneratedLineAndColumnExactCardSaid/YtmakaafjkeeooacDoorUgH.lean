/- FnUpdateGeneratedLineAndColumnExact: updateGeneratedLineAndColumn, without a mapping. -/
import Derived.Test.YtmakaafjkeeooacDoorRows
import Derived.Test.YtmakaafjkeeooacDoorMem
import Derived.Test.YtmakaafjkeeooacDoorSl
import Derived.Test.YtmakaafjkeeooacDoorUgG
import Derived.Test.YtmakaafjkeeooacDoorUgF
import Derived.Test.YtmakaafjkeeooacDoorUgE
import Derived.Test.YtmakaafjkeeooacDoorUgP
import Derived.Test.YtmakaafjkeeooacDoorStep
import Derived.Deep.DeepCutAuto
import Derived.Deep.RegionHeld3
import Derived.WalkMore
import Derived.ScopeJumps
import Derived.Laws.RangeAny
import Derived.WalkKit
import Derived.ProofKit
import Derived.OpenShut
import Derived.Below
import Derived.WalkLawsBesides
import Derived.Lib.Hide
import Derived.Outline
import Derived.RegionTactic
import Derived.Deep.QuietTactic
import Derived.BigQuiet
import Derived.WalkSpells
import Derived.Deep.OwnRows
import Derived.IntWalk
import Derived.Deep.DeepMust
namespace Go.Proofs.YtmakaafjkeeooacDoor.UgH
open Go.RowKit Mem Sl
set_option linter.unusedVariables false
open Own Vq Dec Lin Str Prn Owg UgA UgB UgC UgD UgE UgF UgG UgP Args

def Upd (w : World) (B j : Nat) (q v : Value) (s : ByteArray) (e : Ending) (w' : World) : Prop := e = .returned (.tuple #[]) ∧ ∃ (L U : Nat) (v' : Value), fin2 s 0 0 0 = (L, U) ∧ L ≤ s.size ∧ Bd w' B j q v' (outB false 0 L) (L : Int) 0 0 0 0 (s.size : Int) (U : Int) false ∧ Below B w w' ∧ Prn.Step j w v w' v'
set_option maxRecDepth 100000 in
set_option maxHeartbeats 16000000 in
theorem upd21 (B j : Nat) (q v : Value) (s : ByteArray) (A : Option Addr) (n : Nat) (w : World) (h : Bd w B j q v (outB false 0 0) 0 0 0 0 0 0 0 false) (hT : ∀ W, Below B w W → Tx W A n n s) (hn : n ≤ 1048576) :
    Calls Tryd.prog 21 #[.pointer (some ⟨j, 0, none⟩), .slice A n n] w (Upd w B j q v s ) := by
  have hT0 := hT w (Below.refl _ _)
  have hs : s.size = n := hT0.1
  have HS := Lib.hid hs
  have HT := Lib.hid hT
  have hcv0 := conv_tx hT0
  have hsl := run_slice0 A n
  have hBw : B ≤ w.heap.size := Nat.le_trans h.hj (Nat.le_of_lt h.row.lt)
  have HBW := Lib.hid hBw
  skip
  skip
  have hjB := h.hj
  have hr := h.row
  unfold cb at hr
  have r13 := hr.at_ (i := 13) rfl
  have HM0 := Lib.hid (show Mid2 w B j w.heap.size q s false 0 0 0 0 0 0 0 0 v v (w.iter s 0) from ⟨Prn.Step.of_below ((Below.refl _ _).alloc (Nat.le_refl _) _) (Nat.le_refl _), h.alloc _, World.iter_heap w s 0, (Below.refl _ _).alloc hBw _⟩)
  clear h hT hT0 hs hr
  go_enter Tryd.func21, Tryd.ntmps21
  go_wp2_with fail
  go_loopw [4] (fun x wr => ∃ (pos L U : Nat) (v' : Value), pos ≤ n ∧ L ≤ pos ∧ U ≤ pos ∧ fin2 s pos L U = fin2 s 0 0 0 ∧ Mid2 w B j w.heap.size q s false 0 0 0 0 0 pos L U v v' wr) (fun _ wr => n - wr.iterPos w.heap.size)
  case atStart => exact ⟨0, 0, 0, v, Nat.zero_le _, Nat.zero_le _, Nat.zero_le _, rfl, HM0.out⟩
  case round =>
    obtain ⟨pos, L, U, v', hpn, hLp, hUp, hfin, hmid⟩ := hrel
    have hit := hmid.it
    have HIT := Lib.hid hit
    have HIT0 := HIT
    have HMD := Lib.hid hmid
    have HFIN := Lib.hid hfin
    clear hmid hfin hcv0 hsl r13 HM0
    by_cases hlt : pos < n
    · have hlt' : pos < s.size := by rw [HS.out]; exact hlt
      obtain ⟨W', hnx, hit', hg', hsz'⟩ := next_at (P := Tryd.prog) hit hlt'
      obtain ⟨hbd1, hbel1⟩ := HMD.out.next hg' HBW.out
      have HBD := Lib.hid hbd1
      have HBEL := Lib.hid hbel1
      have HSTP := Lib.hid (step_next HMD.out.stp hg' (Nat.le_refl _))
      have hw := wd_pos hlt'
      have hsc := Step.dec_scalar s pos
      have hR1 : ru s pos ≤ 1114111 := hsc.1
      rw [show (Utf8.decode s pos).1 = ru s pos from rfl] at hnx
      rw [show (Utf8.decode s pos).2 = wd s pos from rfl] at hit'
      have htx := HT.out W' hbel1
      have h1 : pos + 1 < n → ∃ b, A = some ⟨b, 0, none⟩ ∧ W'.cell? ⟨b, pos + 1, none⟩ = some (.int .u8 ((by_ s (pos + 1) : Nat) : Int)) := by
        intro h
        obtain ⟨b, ha, hb, hc⟩ := htx.2.2.2 (by omega)
        exact ⟨b, ha, hc _ h⟩
      obtain ⟨R, hR⟩ : ∃ R, ru s pos = R := ⟨_, rfl⟩
      obtain ⟨W, hW⟩ : ∃ W, wd s pos = W := ⟨_, rfl⟩
      obtain ⟨Y, hY⟩ : ∃ Y, by_ s (pos + 1) = Y := ⟨_, rfl⟩
      rw [hR] at hnx hR1
      rw [hW, HS.out] at hw
      rw [hW] at hit'
      rw [hY] at h1
      have hyl := by_lt s (pos + 1)
      rw [hY] at hyl
      have HRr := Lib.hid hR
      have HWr := Lib.hid hW
      have HYr := Lib.hid hY
      have HI1 := Lib.hid hit'
      have hrow := hbd1.row
      unfold cb at hrow
      have b13 := hrow.at_ (i := 13) rfl
      have b14 := hrow.at_ (i := 14) rfl
      have f14 := hrow.frozen 14
      have HROW := Lib.hid hrow
      have HKS := Lib.hid hlt'
      clear hR hW hY hsc htx hit' hit hg' hsz' hbd1 hbel1 hlt' hrow HIT HMD
      by_cases c13 : R = 13
      · subst c13
        by_cases d1 : pos + 1 < n
        · obtain ⟨bt, hA, y1⟩ := h1 d1
          have v1 : (pos : Int) + 1 < (n : Int) := by omega
          subst hA
          by_cases cy : Y = 10
          · subst cy
            have HST := Lib.hid (step_cr s pos L U 13 W HKS.out HRr.out HWr.out rfl (by rw [HS.out]; exact d1) HYr.out)
            have hip : World.iterPos W' w.heap.size = pos + W := by unfold World.iterPos; rw [HI1.out]
            have hip0 : World.iterPos wr w.heap.size = pos := by unfold World.iterPos; rw [HIT0.out]
            clear h1
            go_wp2_with fail
            go_roundw
            case rel => exact ⟨pos + W, L, U, v', by omega, by omega, by omega, HST.out.trans HFIN.out, HSTP.out, HBD.out, HI1.out, HBEL.out⟩
            case measure => simp only [hip, hip0]; omega
          · have ty : ((Y : Int) == 10) = false := by simp; omega
            have HST := Lib.hid (show _ ∧ True from ⟨step_brk s pos L U 13 W HKS.out HRr.out HWr.out (by omega) (fun _ _ => by rw [HYr.out]; exact cy), trivial⟩)
            have b6 := HROW.out.at_ (i := 6) rfl
            have b7 := HROW.out.at_ (i := 7) rfl
            have b18 := HROW.out.at_ (i := 18) rfl
            have b20 := HROW.out.at_ (i := 20) rfl
            have b21 := HROW.out.at_ (i := 21) rfl
            have fz := HROW.out.frozen
            go_upto_region 19 with fail
            have HB3 := Lib.hid (show Brk w B j w.heap.size q s false (outB false 0 L) 0 0 0 (pos + W) ((L : Int) + 1) v v' (((W'.setCell ⟨j, 6, none⟩ (.int .i64 ((L : Int) + 1))).setCell ⟨j, 7, none⟩ (.int .i64 0)).setCell ⟨j, 14, none⟩ (.int .i64 0)) from
              ⟨((HSTP.out.set_ _ _).set_ _ _).set_ _ _, bd_setC (bd_setG (bd_setL HBD.out ((L : Int) + 1)) 0) 0, it_set (bd_setG (bd_setL HBD.out _) _).row (it_set (bd_setL HBD.out _).row (it_set HBD.out.row HI1.out 6 _) 7 _) 14 _, ((HBEL.out.setCell hjB _).setCell hjB _).setCell hjB _⟩)
            generalize hX : (((W'.setCell ⟨j, 6, none⟩ (.int .i64 ((L : Int) + 1))).setCell ⟨j, 7, none⟩ (.int .i64 0)).setCell ⟨j, 14, none⟩ (.int .i64 0)) = X at HB3 ⊢
            clear b6 b7 b18 b20 b21 fz hX b13 b14 f14 hnx
            have hr3 := HB3.out.bd.row
            unfold cb at hr3
            have r1 := hr3.at_ (i := 1) rfl
            have f1 := hr3.frozen 1
            have f20 := hr3.frozen 20
            have r20 := hr3.at_ (i := 20) rfl
            have HR3 := Lib.hid hr3
            have hjX := hr3.lt
            have HBX := Lib.hid (show B ≤ X.heap.size by omega)
            have HLN := Lib.hid (show (outB false 0 L).length + 1 ≤ 1000000000 by have := outB_len false 0 ⟨by omega, by omega⟩ L; omega)
            clear hr3
            go_upto_region 20 with (at_builtin; refine wpList_push_g _ rfl _ _ 22 rfl B 5 .u8 1 Tryd.underlying22 info5 (by decide) v' (outB false 0 L) rfl (HB3.out.bd.own.alloc _) _ 59 rfl ((Row.newArr _ 5 _).at_ (i := 0) rfl) HLN.out (by have := HBX.out; simp; omega) ?_; intro A1 n1 c1 w5 hown1 hgr1; have HO1 := Lib.hid hown1; have HG1 := Lib.hid hgr1; have hr5 : Row w5 j 52 _ := hgr1.row (HB3.out.bd.row.alloc _) (own_ne HB3.out.bd.own HB3.out.bd.row (by decide)); unfold cb at hr5; have g1 := hr5.at_ (i := 1) rfl; have g2 := hr5.frozen 1; have g3 := hr5.at_ (i := 20) rfl; have g4 := hr5.frozen 20; clear hown1 hgr1 hr5)
            have HDN := Lib.hid (HB3.out.done _ HO1.out HG1.out)
            go_wp2_with fail
            have hip : World.iterPos ((w5.setCell ⟨j, 1, none⟩ (.slice A1 n1 c1)).setCell ⟨j, 20, none⟩ (.bool false)) w.heap.size = pos + W := by unfold World.iterPos; rw [HDN.out.2.1]
            have hip0 : World.iterPos wr w.heap.size = pos := by unfold World.iterPos; rw [HIT0.out]
            go_roundw
            case rel => exact ⟨pos + W, L + 1, 0, _, by omega, by omega, by omega, HST.out.1.trans HFIN.out, mid2_of HDN.out (outB_no1 0 L) rfl⟩
            case measure => simp only [hip, hip0]; omega
        · have v1 : decide ((pos : Int) + 1 < (n : Int)) = false := by simp; omega
          clear h1
          have HST := Lib.hid (show _ ∧ True from ⟨step_brk s pos L U 13 W HKS.out HRr.out HWr.out (by omega) (fun _ h => by rw [HS.out] at h; omega), trivial⟩)
          have b6 := HROW.out.at_ (i := 6) rfl
          have b7 := HROW.out.at_ (i := 7) rfl
          have b18 := HROW.out.at_ (i := 18) rfl
          have b20 := HROW.out.at_ (i := 20) rfl
          have b21 := HROW.out.at_ (i := 21) rfl
          have fz := HROW.out.frozen
          go_upto_region 19 with fail
          have HB3 := Lib.hid (show Brk w B j w.heap.size q s false (outB false 0 L) 0 0 0 (pos + W) ((L : Int) + 1) v v' (((W'.setCell ⟨j, 6, none⟩ (.int .i64 ((L : Int) + 1))).setCell ⟨j, 7, none⟩ (.int .i64 0)).setCell ⟨j, 14, none⟩ (.int .i64 0)) from
            ⟨((HSTP.out.set_ _ _).set_ _ _).set_ _ _, bd_setC (bd_setG (bd_setL HBD.out ((L : Int) + 1)) 0) 0, it_set (bd_setG (bd_setL HBD.out _) _).row (it_set (bd_setL HBD.out _).row (it_set HBD.out.row HI1.out 6 _) 7 _) 14 _, ((HBEL.out.setCell hjB _).setCell hjB _).setCell hjB _⟩)
          generalize hX : (((W'.setCell ⟨j, 6, none⟩ (.int .i64 ((L : Int) + 1))).setCell ⟨j, 7, none⟩ (.int .i64 0)).setCell ⟨j, 14, none⟩ (.int .i64 0)) = X at HB3 ⊢
          clear b6 b7 b18 b20 b21 fz hX b13 b14 f14 hnx
          have hr3 := HB3.out.bd.row
          unfold cb at hr3
          have r1 := hr3.at_ (i := 1) rfl
          have f1 := hr3.frozen 1
          have f20 := hr3.frozen 20
          have r20 := hr3.at_ (i := 20) rfl
          have HR3 := Lib.hid hr3
          have hjX := hr3.lt
          have HBX := Lib.hid (show B ≤ X.heap.size by omega)
          have HLN := Lib.hid (show (outB false 0 L).length + 1 ≤ 1000000000 by have := outB_len false 0 ⟨by omega, by omega⟩ L; omega)
          clear hr3
          go_upto_region 20 with (at_builtin; refine wpList_push_g _ rfl _ _ 22 rfl B 5 .u8 1 Tryd.underlying22 info5 (by decide) v' (outB false 0 L) rfl (HB3.out.bd.own.alloc _) _ 59 rfl ((Row.newArr _ 5 _).at_ (i := 0) rfl) HLN.out (by have := HBX.out; simp; omega) ?_; intro A1 n1 c1 w5 hown1 hgr1; have HO1 := Lib.hid hown1; have HG1 := Lib.hid hgr1; have hr5 : Row w5 j 52 _ := hgr1.row (HB3.out.bd.row.alloc _) (own_ne HB3.out.bd.own HB3.out.bd.row (by decide)); unfold cb at hr5; have g1 := hr5.at_ (i := 1) rfl; have g2 := hr5.frozen 1; have g3 := hr5.at_ (i := 20) rfl; have g4 := hr5.frozen 20; clear hown1 hgr1 hr5)
          have HDN := Lib.hid (HB3.out.done _ HO1.out HG1.out)
          go_wp2_with fail
          have hip : World.iterPos ((w5.setCell ⟨j, 1, none⟩ (.slice A1 n1 c1)).setCell ⟨j, 20, none⟩ (.bool false)) w.heap.size = pos + W := by unfold World.iterPos; rw [HDN.out.2.1]
          have hip0 : World.iterPos wr w.heap.size = pos := by unfold World.iterPos; rw [HIT0.out]
          go_roundw
          case rel => exact ⟨pos + W, L + 1, 0, _, by omega, by omega, by omega, HST.out.1.trans HFIN.out, mid2_of HDN.out (outB_no1 0 L) rfl⟩
          case measure => simp only [hip, hip0]; omega
      have t13 : ((R : Int) == 13) = false := by simp; omega
      clear h1
      by_cases c10 : R = 10
      · subst c10
        have HST := Lib.hid (show _ ∧ True from ⟨step_brk s pos L U 10 W HKS.out HRr.out HWr.out (by omega) (fun h => by omega), trivial⟩)
        have b6 := HROW.out.at_ (i := 6) rfl
        have b7 := HROW.out.at_ (i := 7) rfl
        have b18 := HROW.out.at_ (i := 18) rfl
        have b20 := HROW.out.at_ (i := 20) rfl
        have b21 := HROW.out.at_ (i := 21) rfl
        have fz := HROW.out.frozen
        go_upto_region 19 with fail
        have HB3 := Lib.hid (show Brk w B j w.heap.size q s false (outB false 0 L) 0 0 0 (pos + W) ((L : Int) + 1) v v' (((W'.setCell ⟨j, 6, none⟩ (.int .i64 ((L : Int) + 1))).setCell ⟨j, 7, none⟩ (.int .i64 0)).setCell ⟨j, 14, none⟩ (.int .i64 0)) from
          ⟨((HSTP.out.set_ _ _).set_ _ _).set_ _ _, bd_setC (bd_setG (bd_setL HBD.out ((L : Int) + 1)) 0) 0, it_set (bd_setG (bd_setL HBD.out _) _).row (it_set (bd_setL HBD.out _).row (it_set HBD.out.row HI1.out 6 _) 7 _) 14 _, ((HBEL.out.setCell hjB _).setCell hjB _).setCell hjB _⟩)
        generalize hX : (((W'.setCell ⟨j, 6, none⟩ (.int .i64 ((L : Int) + 1))).setCell ⟨j, 7, none⟩ (.int .i64 0)).setCell ⟨j, 14, none⟩ (.int .i64 0)) = X at HB3 ⊢
        clear b6 b7 b18 b20 b21 fz hX b13 b14 f14 hnx
        have hr3 := HB3.out.bd.row
        unfold cb at hr3
        have r1 := hr3.at_ (i := 1) rfl
        have f1 := hr3.frozen 1
        have f20 := hr3.frozen 20
        have r20 := hr3.at_ (i := 20) rfl
        have HR3 := Lib.hid hr3
        have hjX := hr3.lt
        have HBX := Lib.hid (show B ≤ X.heap.size by omega)
        have HLN := Lib.hid (show (outB false 0 L).length + 1 ≤ 1000000000 by have := outB_len false 0 ⟨by omega, by omega⟩ L; omega)
        clear hr3
        go_upto_region 20 with (at_builtin; refine wpList_push_g _ rfl _ _ 22 rfl B 5 .u8 1 Tryd.underlying22 info5 (by decide) v' (outB false 0 L) rfl (HB3.out.bd.own.alloc _) _ 59 rfl ((Row.newArr _ 5 _).at_ (i := 0) rfl) HLN.out (by have := HBX.out; simp; omega) ?_; intro A1 n1 c1 w5 hown1 hgr1; have HO1 := Lib.hid hown1; have HG1 := Lib.hid hgr1; have hr5 : Row w5 j 52 _ := hgr1.row (HB3.out.bd.row.alloc _) (own_ne HB3.out.bd.own HB3.out.bd.row (by decide)); unfold cb at hr5; have g1 := hr5.at_ (i := 1) rfl; have g2 := hr5.frozen 1; have g3 := hr5.at_ (i := 20) rfl; have g4 := hr5.frozen 20; clear hown1 hgr1 hr5)
        have HDN := Lib.hid (HB3.out.done _ HO1.out HG1.out)
        go_wp2_with fail
        have hip : World.iterPos ((w5.setCell ⟨j, 1, none⟩ (.slice A1 n1 c1)).setCell ⟨j, 20, none⟩ (.bool false)) w.heap.size = pos + W := by unfold World.iterPos; rw [HDN.out.2.1]
        have hip0 : World.iterPos wr w.heap.size = pos := by unfold World.iterPos; rw [HIT0.out]
        go_roundw
        case rel => exact ⟨pos + W, L + 1, 0, _, by omega, by omega, by omega, HST.out.1.trans HFIN.out, mid2_of HDN.out (outB_no1 0 L) rfl⟩
        case measure => simp only [hip, hip0]; omega
      have t10 : ((R : Int) == 10) = false := by simp; omega
      by_cases c8232 : R = 8232
      · subst c8232
        have HST := Lib.hid (show _ ∧ True from ⟨step_brk s pos L U 8232 W HKS.out HRr.out HWr.out (by omega) (fun h => by omega), trivial⟩)
        have b6 := HROW.out.at_ (i := 6) rfl
        have b7 := HROW.out.at_ (i := 7) rfl
        have b18 := HROW.out.at_ (i := 18) rfl
        have b20 := HROW.out.at_ (i := 20) rfl
        have b21 := HROW.out.at_ (i := 21) rfl
        have fz := HROW.out.frozen
        go_upto_region 19 with fail
        have HB3 := Lib.hid (show Brk w B j w.heap.size q s false (outB false 0 L) 0 0 0 (pos + W) ((L : Int) + 1) v v' (((W'.setCell ⟨j, 6, none⟩ (.int .i64 ((L : Int) + 1))).setCell ⟨j, 7, none⟩ (.int .i64 0)).setCell ⟨j, 14, none⟩ (.int .i64 0)) from
          ⟨((HSTP.out.set_ _ _).set_ _ _).set_ _ _, bd_setC (bd_setG (bd_setL HBD.out ((L : Int) + 1)) 0) 0, it_set (bd_setG (bd_setL HBD.out _) _).row (it_set (bd_setL HBD.out _).row (it_set HBD.out.row HI1.out 6 _) 7 _) 14 _, ((HBEL.out.setCell hjB _).setCell hjB _).setCell hjB _⟩)
        generalize hX : (((W'.setCell ⟨j, 6, none⟩ (.int .i64 ((L : Int) + 1))).setCell ⟨j, 7, none⟩ (.int .i64 0)).setCell ⟨j, 14, none⟩ (.int .i64 0)) = X at HB3 ⊢
        clear b6 b7 b18 b20 b21 fz hX b13 b14 f14 hnx
        have hr3 := HB3.out.bd.row
        unfold cb at hr3
        have r1 := hr3.at_ (i := 1) rfl
        have f1 := hr3.frozen 1
        have f20 := hr3.frozen 20
        have r20 := hr3.at_ (i := 20) rfl
        have HR3 := Lib.hid hr3
        have hjX := hr3.lt
        have HBX := Lib.hid (show B ≤ X.heap.size by omega)
        have HLN := Lib.hid (show (outB false 0 L).length + 1 ≤ 1000000000 by have := outB_len false 0 ⟨by omega, by omega⟩ L; omega)
        clear hr3
        go_upto_region 20 with (at_builtin; refine wpList_push_g _ rfl _ _ 22 rfl B 5 .u8 1 Tryd.underlying22 info5 (by decide) v' (outB false 0 L) rfl (HB3.out.bd.own.alloc _) _ 59 rfl ((Row.newArr _ 5 _).at_ (i := 0) rfl) HLN.out (by have := HBX.out; simp; omega) ?_; intro A1 n1 c1 w5 hown1 hgr1; have HO1 := Lib.hid hown1; have HG1 := Lib.hid hgr1; have hr5 : Row w5 j 52 _ := hgr1.row (HB3.out.bd.row.alloc _) (own_ne HB3.out.bd.own HB3.out.bd.row (by decide)); unfold cb at hr5; have g1 := hr5.at_ (i := 1) rfl; have g2 := hr5.frozen 1; have g3 := hr5.at_ (i := 20) rfl; have g4 := hr5.frozen 20; clear hown1 hgr1 hr5)
        have HDN := Lib.hid (HB3.out.done _ HO1.out HG1.out)
        go_wp2_with fail
        have hip : World.iterPos ((w5.setCell ⟨j, 1, none⟩ (.slice A1 n1 c1)).setCell ⟨j, 20, none⟩ (.bool false)) w.heap.size = pos + W := by unfold World.iterPos; rw [HDN.out.2.1]
        have hip0 : World.iterPos wr w.heap.size = pos := by unfold World.iterPos; rw [HIT0.out]
        go_roundw
        case rel => exact ⟨pos + W, L + 1, 0, _, by omega, by omega, by omega, HST.out.1.trans HFIN.out, mid2_of HDN.out (outB_no1 0 L) rfl⟩
        case measure => simp only [hip, hip0]; omega
      have t8232 : ((R : Int) == 8232) = false := by simp; omega
      by_cases c8233 : R = 8233
      · subst c8233
        have HST := Lib.hid (show _ ∧ True from ⟨step_brk s pos L U 8233 W HKS.out HRr.out HWr.out (by omega) (fun h => by omega), trivial⟩)
        have b6 := HROW.out.at_ (i := 6) rfl
        have b7 := HROW.out.at_ (i := 7) rfl
        have b18 := HROW.out.at_ (i := 18) rfl
        have b20 := HROW.out.at_ (i := 20) rfl
        have b21 := HROW.out.at_ (i := 21) rfl
        have fz := HROW.out.frozen
        go_upto_region 19 with fail
        have HB3 := Lib.hid (show Brk w B j w.heap.size q s false (outB false 0 L) 0 0 0 (pos + W) ((L : Int) + 1) v v' (((W'.setCell ⟨j, 6, none⟩ (.int .i64 ((L : Int) + 1))).setCell ⟨j, 7, none⟩ (.int .i64 0)).setCell ⟨j, 14, none⟩ (.int .i64 0)) from
          ⟨((HSTP.out.set_ _ _).set_ _ _).set_ _ _, bd_setC (bd_setG (bd_setL HBD.out ((L : Int) + 1)) 0) 0, it_set (bd_setG (bd_setL HBD.out _) _).row (it_set (bd_setL HBD.out _).row (it_set HBD.out.row HI1.out 6 _) 7 _) 14 _, ((HBEL.out.setCell hjB _).setCell hjB _).setCell hjB _⟩)
        generalize hX : (((W'.setCell ⟨j, 6, none⟩ (.int .i64 ((L : Int) + 1))).setCell ⟨j, 7, none⟩ (.int .i64 0)).setCell ⟨j, 14, none⟩ (.int .i64 0)) = X at HB3 ⊢
        clear b6 b7 b18 b20 b21 fz hX b13 b14 f14 hnx
        have hr3 := HB3.out.bd.row
        unfold cb at hr3
        have r1 := hr3.at_ (i := 1) rfl
        have f1 := hr3.frozen 1
        have f20 := hr3.frozen 20
        have r20 := hr3.at_ (i := 20) rfl
        have HR3 := Lib.hid hr3
        have hjX := hr3.lt
        have HBX := Lib.hid (show B ≤ X.heap.size by omega)
        have HLN := Lib.hid (show (outB false 0 L).length + 1 ≤ 1000000000 by have := outB_len false 0 ⟨by omega, by omega⟩ L; omega)
        clear hr3
        go_upto_region 20 with (at_builtin; refine wpList_push_g _ rfl _ _ 22 rfl B 5 .u8 1 Tryd.underlying22 info5 (by decide) v' (outB false 0 L) rfl (HB3.out.bd.own.alloc _) _ 59 rfl ((Row.newArr _ 5 _).at_ (i := 0) rfl) HLN.out (by have := HBX.out; simp; omega) ?_; intro A1 n1 c1 w5 hown1 hgr1; have HO1 := Lib.hid hown1; have HG1 := Lib.hid hgr1; have hr5 : Row w5 j 52 _ := hgr1.row (HB3.out.bd.row.alloc _) (own_ne HB3.out.bd.own HB3.out.bd.row (by decide)); unfold cb at hr5; have g1 := hr5.at_ (i := 1) rfl; have g2 := hr5.frozen 1; have g3 := hr5.at_ (i := 20) rfl; have g4 := hr5.frozen 20; clear hown1 hgr1 hr5)
        have HDN := Lib.hid (HB3.out.done _ HO1.out HG1.out)
        go_wp2_with fail
        have hip : World.iterPos ((w5.setCell ⟨j, 1, none⟩ (.slice A1 n1 c1)).setCell ⟨j, 20, none⟩ (.bool false)) w.heap.size = pos + W := by unfold World.iterPos; rw [HDN.out.2.1]
        have hip0 : World.iterPos wr w.heap.size = pos := by unfold World.iterPos; rw [HIT0.out]
        go_roundw
        case rel => exact ⟨pos + W, L + 1, 0, _, by omega, by omega, by omega, HST.out.1.trans HFIN.out, mid2_of HDN.out (outB_no1 0 L) rfl⟩
        case measure => simp only [hip, hip0]; omega
      have t8233 : ((R : Int) == 8233) = false := by simp; omega
      by_cases cb' : R ≤ 65535
      · have tb : decide ((R : Int) ≤ 65535) = true := by simp; omega
        have HST := Lib.hid (step_un s pos L U R W HKS.out HRr.out HWr.out (by omega) 1 (by rw [if_pos cb']))
        have HM1 := Lib.hid (show Mid2 w B j w.heap.size q s false 0 0 0 0 0 (pos + W) L (U + 1) v v' (W'.setCell ⟨j, 14, none⟩ (.int .i64 ((U : Int) + 1))) from ⟨HSTP.out.set_ _ _, by have h9 := bd_setC HBD.out ((U : Int) + 1); rwa [show (U : Int) + 1 = ((U + 1 : Nat) : Int) by omega] at h9 ⊢, it_set HBD.out.row HI1.out 14 _, HBEL.out.setCell hjB _⟩)
        have hip : World.iterPos (W'.setCell ⟨j, 14, none⟩ (.int .i64 ((U : Int) + 1))) w.heap.size = pos + W := by unfold World.iterPos; rw [HM1.out.it]
        have hip0 : World.iterPos wr w.heap.size = pos := by unfold World.iterPos; rw [HIT0.out]
        go_wp2_with fail
        go_roundw
        case rel => exact ⟨pos + W, L, U + 1, v', by omega, by omega, by have := HST.out.2; omega, HST.out.1.trans HFIN.out, HM1.out⟩
        case measure => simp only [hip, hip0]; omega
      · have tb : decide ((R : Int) ≤ 65535) = false := by simp; omega
        have HST := Lib.hid (step_un s pos L U R W HKS.out HRr.out HWr.out (by omega) 2 (by rw [if_neg cb']))
        have HM1 := Lib.hid (show Mid2 w B j w.heap.size q s false 0 0 0 0 0 (pos + W) L (U + 2) v v' (W'.setCell ⟨j, 14, none⟩ (.int .i64 ((U : Int) + 2))) from ⟨HSTP.out.set_ _ _, by have h9 := bd_setC HBD.out ((U : Int) + 2); rwa [show (U : Int) + 2 = ((U + 2 : Nat) : Int) by omega] at h9 ⊢, it_set HBD.out.row HI1.out 14 _, HBEL.out.setCell hjB _⟩)
        have hip : World.iterPos (W'.setCell ⟨j, 14, none⟩ (.int .i64 ((U : Int) + 2))) w.heap.size = pos + W := by unfold World.iterPos; rw [HM1.out.it]
        have hip0 : World.iterPos wr w.heap.size = pos := by unfold World.iterPos; rw [HIT0.out]
        go_wp2_with fail
        go_roundw
        case rel => exact ⟨pos + W, L, U + 2, v', by omega, by omega, by have := HST.out.2; omega, HST.out.1.trans HFIN.out, HM1.out⟩
        case measure => simp only [hip, hip0]; omega
    · have hlt' : ¬ pos < s.size := by rw [HS.out]; exact hlt
      have hnx := fun ty => next_end (P := Tryd.prog) hit hlt' ty
      have hf := HFIN.out
      rw [fin2_end s pos L U hlt'] at hf
      have HF := Lib.hid hf
      have hrow := HMD.out.bd.row
      have hbd := HMD.out.bd
      unfold cb at hrow
      have f13 := hrow.frozen 13
      have c13 := hrow.at_ (i := 13) rfl
      have HRES := Lib.hid (show Upd w B j q v s (.returned (.tuple #[])) (wr.setCell ⟨j, 13, none⟩ (.int .i64 (n : Int))) from ⟨rfl, L, U, v', hf.symm, by rw [HS.out]; omega, by rw [HS.out]; exact bd_setU hbd _, HMD.out.bel.setCell HMD.out.bd.hj _, HMD.out.stp.set_ _ _⟩)
      clear hf hit hrow hbd HIT HMD
      go_wp2_with fail
      go_end0
      exact HRES.out
end Go.Proofs.YtmakaafjkeeooacDoor.UgH
