/- FnAdvanceStringMatchesLineModel: the law. -/
import Derived.Test.YtdajemigdciphaaRows
import Derived.Test.YtdajemigdciphaaMem
import Derived.Test.YtdajemigdciphaaSl
import Derived.Test.YtdajemigdciphaaAdv
import Derived.Test.YtdajemigdciphaaDecL
import Derived.WalkKit
import Derived.ProofKit
import Derived.OpenShut
import Derived.Below
import Derived.WalkLawsBesides
import Derived.Lib.Hide
import Derived.Outline
import Derived.RegionTactic
import Derived.Deep.QuietTactic
import Derived.BigQuiet
import Derived.WalkSpells
import Derived.Deep.OwnRows
import Derived.IntWalk
import Derived.Deep.DeepMust
namespace Go.Proofs.Ytdajemigdciphaa.AdvL
open Go.RowKit Mem Sl
set_option linter.unusedVariables false
open Dec Lin Adv

theorem dec12' (s : ByteArray) (i : Nat) (w : World) (hi : i < s.size) (hs : s.size ≤ 1048576) : Calls Try.prog 12 #[.string s, .int .i64 i] w fun e w' => (∃ ok, e = .returned (.tuple #[.int .i64 (wd s i), .int .i64 (un s i), .bool (isT (ru s i)), .bool (ru s i == 13), .bool ok])) ∧ w = w' :=
  (DecF.dec12 s i w hi hs).mono fun e w' ⟨ok, he, hw⟩ => ⟨⟨ok, he⟩, hw⟩
def tl (L T : Nat) : Int := if L = 0 then -1 else T
/-- What the model answers. -/
def ModP (l c : Int) (s : ByteArray) (w : World) (e : Ending) (w' : World) : Prop :=
  e = .returned (.tuple #[.int .i64 (W64 (l + (fin s 0 0 0 0).1)), .int .i64 (col c (fin s 0 0 0 0).1 (fin s 0 0 0 0).2.1)]) ∧ w = w'
theorem cr_term {r : Nat} (h : (r == 13) = true) : isT r = true := by simp at h; subst h; rfl
set_option maxHeartbeats 4000000 in
set_option maxRecDepth 100000 in
theorem mod7 (l c : Int) (s : ByteArray) (w : World) (hs : s.size ≤ 1048576) (hc0 : -9223372036854775808 ≤ c) (hc1 : c ≤ 9223372036854775807) :
    Calls Try.prog 7 #[.int .i64 l, .int .i64 c, .string s] w (ModP l c s w) := by
  go_enter Try.func7, Try.ntmps7
  go_wp2_with fail
  go_loop [8, 9, 10] (fun cn ta i => ∃ (pos L U T : Nat) (t : Int), cn = .int .i64 L ∧ ta = .int .i64 t ∧ i = .int .i64 pos ∧ pos ≤ s.size ∧ L ≤ pos ∧ T ≤ pos ∧ t = tl L T ∧ fin s pos L U T = fin s 0 0 0 0) (fun _ _ i => s.size - (intOf i).toNat)
  case atStart => exact ⟨0, 0, 0, 0, -1, rfl, rfl, rfl, by omega, by omega, by omega, rfl, rfl⟩
  case round =>
    obtain ⟨pos, L, U, T, t, rfl, rfl, rfl, hp, hL, hT, ht, hf⟩ := hrel
    have HT := Lib.hid ht
    have HF := Lib.hid hf
    clear ht hf
    by_cases hlt : pos < s.size
    · have hw := wd_pos hlt
      obtain ⟨hw1, hw2⟩ := hw
      have HD := Lib.hid (dec12' s pos w hlt hs)
      have x1 : pos + 1 < s.size → ∀ w, (Instr.index 9 (.string s) (.int .i64 ((pos : Int) + 1))).run Try.prog w = .ok (.int .u8 ((by_ s (pos + 1) : Nat) : Int)) w := fun h w => idx1 s pos 1 h w
      obtain ⟨B1, hB1⟩ : ∃ B, by_ s (pos + 1) = B := ⟨_, rfl⟩
      rw [hB1] at x1
      obtain ⟨W, hW⟩ : ∃ W, wd s pos = W := ⟨_, rfl⟩
      obtain ⟨b, hb⟩ : ∃ b, isT (ru s pos) = b := ⟨_, rfl⟩
      obtain ⟨cr, hcr⟩ : ∃ b, (ru s pos == 13) = b := ⟨_, rfl⟩
      rw [hW, hb, hcr] at HD
      rw [hW] at hw1 hw2
      have HW := Lib.hid hW
      have HBB := Lib.hid hb
      have HCR := Lib.hid hcr
      have HB1 := Lib.hid hB1
      clear hW hb hcr hB1
      generalize un s pos = u at HD
      cases b
      · skip
        have HBK := Lib.hid (show brk s pos = false from brk_no HBB.out)
        clear x1
        go_wp2_with fail
        refine HD.out.mono ?_
        rintro e w' ⟨⟨ok, rfl⟩, rfl⟩
        go_wp2_with fail
        go_round
        case rel => exact ⟨pos + W, L, U + un s pos, T, t, rfl, rfl, by go_num, hw2, by omega, by omega, HT.out, by rw [← HF.out, fin_un s pos L U T hlt HBK.out, HW.out]⟩
        case measure => simp [intOf]; omega
      · cases cr
        · skip
          have HBK := Lib.hid (show brk s pos = true from brk_yes HBB.out (by unfold crlf; rw [HCR.out]; rfl))
          clear x1
          go_wp2_with fail
          refine HD.out.mono ?_
          rintro e w' ⟨⟨ok, rfl⟩, rfl⟩
          go_wp2_with fail
          go_round
          case rel => exact ⟨pos + W, L + 1, 0, pos + W, _, by go_num, rfl, by go_num, hw2, by omega, by omega, by unfold tl; rw [if_neg (by omega)]; go_num, by rw [← HF.out, fin_brk s pos L U T hlt HBK.out, HW.out]⟩
          case measure => simp [intOf]; omega
        · by_cases hd : pos + 1 < s.size
          · have y1 := x1 hd
            by_cases h10 : B1 = 10
            · subst h10
              have HBK := Lib.hid (show brk s pos = false from brk_cr (by unfold crlf; rw [HCR.out, HB1.out]; simp [hd]))
              clear x1
              go_wp2_with fail
              refine HD.out.mono ?_
              rintro e w' ⟨⟨ok, rfl⟩, rfl⟩
              go_wp2_with fail
              go_round
              case rel => exact ⟨pos + W, L, U + un s pos, T, t, rfl, rfl, by go_num, hw2, by omega, by omega, HT.out, by rw [← HF.out, fin_un s pos L U T hlt HBK.out, HW.out]⟩
              case measure => simp [intOf]; omega
            · have tb : ((B1 : Int) == 10) = false := by simp; omega
              have HBK := Lib.hid (show brk s pos = true from brk_yes HBB.out (by unfold crlf; rw [HB1.out]; simp [h10]))
              clear x1
              go_wp2_with fail
              refine HD.out.mono ?_
              rintro e w' ⟨⟨ok, rfl⟩, rfl⟩
              go_wp2_with fail
              go_round
              case rel => exact ⟨pos + W, L + 1, 0, pos + W, _, by go_num, rfl, by go_num, hw2, by omega, by omega, by unfold tl; rw [if_neg (by omega)]; go_num, by rw [← HF.out, fin_brk s pos L U T hlt HBK.out, HW.out]⟩
              case measure => simp [intOf]; omega
          · skip
            have HBK := Lib.hid (show brk s pos = true from brk_yes HBB.out (by unfold crlf; simp [hd]))
            clear x1
            go_wp2_with fail
            refine HD.out.mono ?_
            rintro e w' ⟨⟨ok, rfl⟩, rfl⟩
            go_wp2_with fail
            go_round
            case rel => exact ⟨pos + W, L + 1, 0, pos + W, _, by go_num, rfl, by go_num, hw2, by omega, by omega, by unfold tl; rw [if_neg (by omega)]; go_num, by rw [← HF.out, fin_brk s pos L U T hlt HBK.out, HW.out]⟩
            case measure => simp [intOf]; omega
    · have hfe := HF.out
      rw [fin_end s pos L U T hlt] at hfe
      have hus := fin_usum s s.size 0 0 0 0 (by omega) rfl
      have hbd := fin_bounds s s.size 0 0 0 0 (by omega) (by omega) (by omega) (by omega) (by omega) (fun _ => rfl)
      rw [← hfe] at hus hbd
      simp only at hus hbd
      have HFE := Lib.hid hfe
      have hUb : U ≤ 1048576 := by omega
      have hTb : T ≤ s.size := by omega
      have HT0 := Lib.hid hbd.2.2.2.2
      clear hfe hbd
      obtain rfl : pos = s.size := by omega
      by_cases hL0 : L = 0
      · subst hL0
        obtain rfl : t = -1 := HT.out
        obtain rfl : T = 0 := HT0.out rfl
        have HUS := Lib.hid hus
        clear hus hlt
        go_wp2_with fail
        go_loop [18, 10] (fun u i => ∃ (p a : Nat), u = .int .i64 a ∧ i = .int .i64 p ∧ p ≤ s.size ∧ a ≤ p ∧ usum s p a = U) (fun _ i => s.size - (intOf i).toNat)
        case atStart => exact ⟨0, 0, rfl, rfl, by omega, by omega, HUS.out⟩
        case round =>
          obtain ⟨p, a, rfl, rfl, hp', ha, hu⟩ := hrel
          have HU := Lib.hid hu
          clear hu
          by_cases hlt' : p < s.size
          · obtain ⟨hw1, hw2⟩ := wd_pos hlt'
            have hun := un_le s p hlt'
            have HD := Lib.hid (dec12' s p w hlt' hs)
            have HST := Lib.hid (usum_step s p a hlt')
            obtain ⟨W, hW⟩ : ∃ W, wd s p = W := ⟨_, rfl⟩
            obtain ⟨V, hV⟩ : ∃ W, un s p = W := ⟨_, rfl⟩
            rw [hW, hV] at HD HST hun
            rw [hW] at hw1 hw2
            clear hW hV
            generalize isT (ru s p) = b1 at HD
            generalize (ru s p == 13) = b2 at HD
            go_wp2_with fail
            refine HD.out.mono ?_
            rintro e w' ⟨⟨ok, rfl⟩, rfl⟩
            go_wp2_with fail
            go_round
            case rel => exact ⟨p + W, a + V, by go_num, by go_num, hw2, by omega, by rw [← HST.out]; exact HU.out⟩
            case measure => simp [intOf]; omega
          · have hu := HU.out
            rw [usum_end s p a hlt'] at hu
            subst hu
            go_wp2_with fail
            go_ret2
            exact ⟨by rw [← HFE.out]; show _ = Ending.returned (.tuple #[.int .i64 (W64 (l + ((0 : Nat) : Int))), .int .i64 (W64 (c + (a : Int)))]); rw [← wrap64_W, ← wrap64_W]; simp, rfl⟩
      · obtain rfl : t = (T : Int) := by have := HT.out; unfold tl at this; rwa [if_neg hL0] at this
        have HUS := Lib.hid hus
        have HL0 := Lib.hid hL0
        clear hus hlt hL0
        go_wp2_with fail
        go_loop [18, 10] (fun u i => ∃ (p a : Nat), u = .int .i64 a ∧ i = .int .i64 p ∧ p ≤ s.size ∧ a ≤ p ∧ usum s p a = U) (fun _ i => s.size - (intOf i).toNat)
        case atStart => exact ⟨T, 0, rfl, rfl, by omega, by omega, HUS.out⟩
        case round =>
          obtain ⟨p, a, rfl, rfl, hp', ha, hu⟩ := hrel
          have HU := Lib.hid hu
          clear hu
          by_cases hlt' : p < s.size
          · obtain ⟨hw1, hw2⟩ := wd_pos hlt'
            have hun := un_le s p hlt'
            have HD := Lib.hid (dec12' s p w hlt' hs)
            have HST := Lib.hid (usum_step s p a hlt')
            obtain ⟨W, hW⟩ : ∃ W, wd s p = W := ⟨_, rfl⟩
            obtain ⟨V, hV⟩ : ∃ W, un s p = W := ⟨_, rfl⟩
            rw [hW, hV] at HD HST hun
            rw [hW] at hw1 hw2
            clear hW hV
            generalize isT (ru s p) = b1 at HD
            generalize (ru s p == 13) = b2 at HD
            go_wp2_with fail
            refine HD.out.mono ?_
            rintro e w' ⟨⟨ok, rfl⟩, rfl⟩
            go_wp2_with fail
            go_round
            case rel => exact ⟨p + W, a + V, by go_num, by go_num, hw2, by omega, by rw [← HST.out]; exact HU.out⟩
            case measure => simp [intOf]; omega
          · have hu := HU.out
            rw [usum_end s p a hlt'] at hu
            subst hu
            go_wp2_with fail
            go_ret2
            exact ⟨by rw [← HFE.out]; show _ = Ending.returned (.tuple #[.int .i64 (W64 (l + (L : Int))), .int .i64 (col c L a)]); unfold col; rw [if_neg HL0.out, ← wrap64_W]; simp, rfl⟩

theorem zz5 (a0 a1 : Int) (a2 : ByteArray) (w : World) (h : a2.size ≤ maxLen) : Calls Try.prog 5 #[.int .i64 a0, .int .i64 a1, .string a2] w fun e w' => (∃ b, e = .returned (.bool b)) ∧ w = w' := by
  unfold maxLen at h
  go_enter Try.func5, Try.ntmps5
  go_wp2
  all_goals go_ret
  all_goals exact ⟨⟨_, rfl⟩, rfl⟩
set_option maxHeartbeats 1000000 in
theorem law (a0 : Int) (a1 : Int) (a2 : ByteArray) (w : World) (w0 : (Lit.int .i64 a0).wf = true) (w1 : (Lit.int .i64 a1).wf = true) (w2 : a2.size ≤ maxLen) :
    Calls Try.prog 3 #[.int .i64 a0, .int .i64 a1, .string a2] w fun e w' => e = .returned (.bool true) ∧ Below w.heap.size w w' := by
  obtain ⟨h00, h01⟩ := bounds_i64 w0
  obtain ⟨h10, h11⟩ := bounds_i64 w1
  have M := Lib.hid w2
  unfold maxLen at w2
  clear w0 w1
  go_enter Try.func3, Try.ntmps3
  go_wp2_with fail
  refine (zz5 a0 a1 a2 w M.out).mono ?_
  rintro e w' ⟨⟨b, rfl⟩, rfl⟩
  cases b
  · go_wp2_with fail
    go_ret
    exact ⟨rfl, Below.refl _ _⟩
  by_cases q : 1048576 < a2.size
  · have g : decide (1048576 < (a2.size : Int)) = true := by simp; omega
    go_wp2_with fail
    go_ret
    exact ⟨rfl, Below.refl _ _⟩
  have g : decide (1048576 < (a2.size : Int)) = false := by simp; omega
  go_wp2_with fail
  clear g
  have HR := Lib.hid (Row.newArr w 24 #[.int .i64 a0, .int .i64 a1])
  refine (adv6 w.heap.size a0 a1 a2 _ HR.out (by omega) h00 h01 h10 h11).mono ?_
  rintro e u ⟨rfl, hr, hg⟩
  have HB := Lib.hid (show Below w.heap.size w u from ((Below.refl _ _).alloc (Nat.le_refl _) _).trans (grown_below hg (Nat.le_refl _) (by simp)))
  obtain ⟨x, hx⟩ : ∃ x, W64 (a0 + (fin a2 0 0 0 0).1) = x := ⟨_, rfl⟩
  obtain ⟨y, hy⟩ : ∃ y, col a1 (fin a2 0 0 0 0).1 (fin a2 0 0 0 0).2.1 = y := ⟨_, rfl⟩
  have HM := Lib.hid (mod7 a0 a1 a2 u (by omega) h10 h11)
  have HX := Lib.hid (And.intro hx hy)
  rw [hx, hy] at hr
  have c0 := hr.at_ (i := 0) rfl
  have c1 := hr.at_ (i := 1) rfl
  clear hr hg hx hy
  go_wp2_with fail
  refine HM.out.mono ?_
  rintro e w' ⟨rfl, rfl⟩
  rw [HX.out.1, HX.out.2]
  have ex : (x == x) = true := by simp
  have ey : (y == y) = true := by simp
  go_wp2_with fail
  go_ret
  exact ⟨rfl, HB.out⟩
end Go.Proofs.Ytdajemigdciphaa.AdvL
