/- FnPrintIdentifierUTF16AgreesWithPrintIdentifier: EncodeRune. -/
import Derived.Test.YtdplbdfaeighlabFmtRows
import Derived.Test.YtdplbdfaeighlabFmtMem
import Derived.Test.YtdplbdfaeighlabFmtSl
import Derived.Test.YtdplbdfaeighlabFmtPiC
import Derived.Laws.BitsLemmas
import Derived.WalkKit
import Derived.ProofKit
import Derived.OpenShut
import Derived.Below
import Derived.WalkLawsBesides
import Derived.Lib.Hide
import Derived.Outline
import Derived.RegionTactic
import Derived.Deep.QuietTactic
import Derived.BigQuiet
import Derived.WalkSpells
import Derived.Deep.OwnRows
import Derived.IntWalk
import Derived.Deep.DeepMust
namespace Go.Proofs.YtdplbdfaeighlabFmt.PiD
open Go.RowKit Mem Sl
set_option linter.unusedVariables false
open Prn Own Owg PiA PiB PiC

/-- Block T holds four bytes, the first of them those of D. -/
def T4 (w : World) (T : Nat) (D : List Int) : Prop := ∃ ys, D.length + ys.length = 4 ∧ Row w T 88 (iv .u8 (D ++ ys))
/-- What EncodeRune into block T leaves. -/
def Encd (w : World) (T : Nat) (r : Int) (e : Ending) (w' : World) : Prop := e = .returned (.int .i64 ((enc8 r).length : Nat)) ∧ T4 w' T (enc8 r) ∧ w.grownBy w' (some T) ∧ w'.heap.size = w.heap.size
theorem t4_open {w : World} {T : Nat} {D : List Int} (h : T4 w T D) : ∃ a b c d : Int, Row w T 88 [.int .u8 a, .int .u8 b, .int .u8 c, .int .u8 d] := by
  obtain ⟨ys, hl, hr⟩ := h
  have hl4 : (D ++ ys).length = 4 := by simpa using hl
  match D ++ ys, hl4, hr with
  | [a, b, c, d], _, hr => exact ⟨a, b, c, d, hr⟩
theorem t4_mk {w : World} {T : Nat} {D E : List Int} (h : Row w T 88 (iv .u8 E)) (hl : E.length = 4) (e : E.take D.length = D) (hd : D.length ≤ 4) : T4 w T D := by
  refine ⟨E.drop D.length, by simp; omega, ?_⟩
  have : D ++ E.drop D.length = E := by
    conv => lhs; rw [← e]
    have : (E.take D.length).length = D.length := by simp; omega
    rw [this, List.take_append_drop]
  rw [this]
  exact h

set_option maxRecDepth 100000 in
set_option maxHeartbeats 2000000 in
theorem enc_1 (T : Nat) (r : Int) (D : List Int) (w : World) (h : T4 w T D) (h0 : 0 ≤ r) (h1 : r ≤ 127) : Calls Tryf.prog 21 #[.slice (some ⟨T, 0, none⟩) 4 4, .int .i32 r] w (Encd w T r) := by
  obtain ⟨a, b, c, d, hr⟩ := t4_open h
  have c0 := hr.at_ (i := 0) rfl
  have c1 := hr.at_ (i := 1) rfl
  have c2 := hr.at_ (i := 2) rfl
  have c3 := hr.at_ (i := 3) rfl
  have f0 := hr.frozen 0
  have f1 := hr.frozen 1
  have f2 := hr.frozen 2
  have f3 := hr.frozen 3
  have HR := Lib.hid hr
  have HE := Lib.hid (show enc8 r = [r] by unfold enc8; rw [if_pos (by omega)])
  have w1 : IntKind.u32.wrap r = r := IntWalk.u32_in _ (by omega)
  have t0 : decide (r ≤ 127) = true := by simp; omega
  have m0 : (r) % 256 = r := by omega
  clear hr h
  go_enter Tryf.func21, Tryf.ntmps21
  go_wp2
  go_ret
  refine ⟨by rw [HE.out]; rfl, ?_, grown_set (grown_refl _ _) _ _, by simp⟩
  rw [HE.out]
  exact t4_mk (E := [r, b, c, d]) ((HR.out).set 0 _) rfl rfl (by simp)

set_option maxRecDepth 100000 in
set_option maxHeartbeats 2000000 in
theorem enc24_2 (T : Nat) (r : Int) (D : List Int) (w : World) (h : T4 w T D) (h0 : 128 ≤ r) (h1 : r ≤ 2047) : Calls Tryf.prog 24 #[.slice (some ⟨T, 0, none⟩) 4 4, .int .i32 r] w (Encd w T r) := by
  obtain ⟨a, b, c, d, hr⟩ := t4_open h
  have c0 := hr.at_ (i := 0) rfl
  have c1 := hr.at_ (i := 1) rfl
  have c2 := hr.at_ (i := 2) rfl
  have c3 := hr.at_ (i := 3) rfl
  have f0 := hr.frozen 0
  have f1 := hr.frozen 1
  have f2 := hr.frozen 2
  have f3 := hr.frozen 3
  have HR := Lib.hid hr
  have HE := Lib.hid (show enc8 r = [192 + r / 64, 128 + r % 64] by unfold enc8; rw [if_neg (by omega)]; rw [if_pos (by omega)])
  have w1 : IntKind.u32.wrap r = r := IntWalk.u32_in _ (by omega)
  have t0 : decide (r ≤ 2047) = true := by simp; omega
  have m1 : (r / 64) % 256 = r / 64 := by omega
  have o1 : bits .or .u8 192 (r / 64) = 192 + r / 64 := u8_or192 _ (by omega) (by omega)
  have a0 : bits .and .u8 (r % 256) 63 = r % 64 := by rw [u8_and63 _ (by omega) (by omega)]; omega
  have o2 : bits .or .u8 128 (r % 64) = 128 + r % 64 := u8_or128 _ (by omega) (by omega)
  clear hr h
  go_enter Tryf.func24, Tryf.ntmps24
  go_wp2
  go_ret
  refine ⟨by rw [HE.out]; rfl, ?_, grown_set (grown_set (grown_refl _ _) _ _) _ _, by simp⟩
  rw [HE.out]
  exact t4_mk (E := [192 + r / 64, 128 + r % 64, c, d]) (((HR.out).set 0 _).set 1 _) rfl rfl (by simp)

set_option maxRecDepth 100000 in
set_option maxHeartbeats 2000000 in
theorem enc24_3a (T : Nat) (r : Int) (D : List Int) (w : World) (h : T4 w T D) (h0 : 2048 ≤ r) (h1 : r ≤ 55295) : Calls Tryf.prog 24 #[.slice (some ⟨T, 0, none⟩) 4 4, .int .i32 r] w (Encd w T r) := by
  obtain ⟨a, b, c, d, hr⟩ := t4_open h
  have c0 := hr.at_ (i := 0) rfl
  have c1 := hr.at_ (i := 1) rfl
  have c2 := hr.at_ (i := 2) rfl
  have c3 := hr.at_ (i := 3) rfl
  have f0 := hr.frozen 0
  have f1 := hr.frozen 1
  have f2 := hr.frozen 2
  have f3 := hr.frozen 3
  have HR := Lib.hid hr
  have HE := Lib.hid (show enc8 r = [224 + r / 4096, 128 + r / 64 % 64, 128 + r % 64] by unfold enc8; rw [if_neg (by omega)]; rw [if_neg (by omega)]; rw [if_pos (by omega)])
  have w1 : IntKind.u32.wrap r = r := IntWalk.u32_in _ (by omega)
  have t0 : decide (r ≤ 2047) = false := by simp; omega
  have t1 : decide (r < 55296) = true := by simp; omega
  have m1 : (r / 4096) % 256 = r / 4096 := by omega
  have o1 : bits .or .u8 224 (r / 4096) = 224 + r / 4096 := u8_or224 _ (by omega) (by omega)
  have a6 : bits .and .u8 (r / 64 % 256) 63 = r / 64 % 64 := by rw [u8_and63 _ (by omega) (by omega)]; omega
  have a0 : bits .and .u8 (r % 256) 63 = r % 64 := by rw [u8_and63 _ (by omega) (by omega)]; omega
  have o2 : bits .or .u8 128 (r / 64 % 64) = 128 + r / 64 % 64 := u8_or128 _ (by omega) (by omega)
  have o3 : bits .or .u8 128 (r % 64) = 128 + r % 64 := u8_or128 _ (by omega) (by omega)
  clear hr h
  go_enter Tryf.func24, Tryf.ntmps24
  go_wp2
  go_ret
  refine ⟨by rw [HE.out]; rfl, ?_, grown_set (grown_set (grown_set (grown_refl _ _) _ _) _ _) _ _, by simp⟩
  rw [HE.out]
  exact t4_mk (E := [224 + r / 4096, 128 + r / 64 % 64, 128 + r % 64, d]) ((((HR.out).set 0 _).set 1 _).set 2 _) rfl rfl (by simp)

set_option maxRecDepth 100000 in
set_option maxHeartbeats 2000000 in
theorem enc24_3b (T : Nat) (r : Int) (D : List Int) (w : World) (h : T4 w T D) (h0 : 57344 ≤ r) (h1 : r ≤ 65535) : Calls Tryf.prog 24 #[.slice (some ⟨T, 0, none⟩) 4 4, .int .i32 r] w (Encd w T r) := by
  obtain ⟨a, b, c, d, hr⟩ := t4_open h
  have c0 := hr.at_ (i := 0) rfl
  have c1 := hr.at_ (i := 1) rfl
  have c2 := hr.at_ (i := 2) rfl
  have c3 := hr.at_ (i := 3) rfl
  have f0 := hr.frozen 0
  have f1 := hr.frozen 1
  have f2 := hr.frozen 2
  have f3 := hr.frozen 3
  have HR := Lib.hid hr
  have HE := Lib.hid (show enc8 r = [224 + r / 4096, 128 + r / 64 % 64, 128 + r % 64] by unfold enc8; rw [if_neg (by omega)]; rw [if_neg (by omega)]; rw [if_pos (by omega)])
  have w1 : IntKind.u32.wrap r = r := IntWalk.u32_in _ (by omega)
  have t0 : decide (r ≤ 2047) = false := by simp; omega
  have t1 : decide (r < 55296) = false := by simp; omega
  have t2 : decide ((57343 : Int) < r) = true := by simp; omega
  have t3 : decide (r ≤ 65535) = true := by simp; omega
  have m1 : (r / 4096) % 256 = r / 4096 := by omega
  have o1 : bits .or .u8 224 (r / 4096) = 224 + r / 4096 := u8_or224 _ (by omega) (by omega)
  have a6 : bits .and .u8 (r / 64 % 256) 63 = r / 64 % 64 := by rw [u8_and63 _ (by omega) (by omega)]; omega
  have a0 : bits .and .u8 (r % 256) 63 = r % 64 := by rw [u8_and63 _ (by omega) (by omega)]; omega
  have o2 : bits .or .u8 128 (r / 64 % 64) = 128 + r / 64 % 64 := u8_or128 _ (by omega) (by omega)
  have o3 : bits .or .u8 128 (r % 64) = 128 + r % 64 := u8_or128 _ (by omega) (by omega)
  clear hr h
  go_enter Tryf.func24, Tryf.ntmps24
  go_wp2
  go_ret
  refine ⟨by rw [HE.out]; rfl, ?_, grown_set (grown_set (grown_set (grown_refl _ _) _ _) _ _) _ _, by simp⟩
  rw [HE.out]
  exact t4_mk (E := [224 + r / 4096, 128 + r / 64 % 64, 128 + r % 64, d]) ((((HR.out).set 0 _).set 1 _).set 2 _) rfl rfl (by simp)

set_option maxRecDepth 100000 in
set_option maxHeartbeats 2000000 in
theorem enc24_4 (T : Nat) (r : Int) (D : List Int) (w : World) (h : T4 w T D) (h0 : 65536 ≤ r) (h1 : r ≤ 1114111) : Calls Tryf.prog 24 #[.slice (some ⟨T, 0, none⟩) 4 4, .int .i32 r] w (Encd w T r) := by
  obtain ⟨a, b, c, d, hr⟩ := t4_open h
  have c0 := hr.at_ (i := 0) rfl
  have c1 := hr.at_ (i := 1) rfl
  have c2 := hr.at_ (i := 2) rfl
  have c3 := hr.at_ (i := 3) rfl
  have f0 := hr.frozen 0
  have f1 := hr.frozen 1
  have f2 := hr.frozen 2
  have f3 := hr.frozen 3
  have HR := Lib.hid hr
  have HE := Lib.hid (show enc8 r = [240 + r / 262144, 128 + r / 4096 % 64, 128 + r / 64 % 64, 128 + r % 64] by unfold enc8; rw [if_neg (by omega)]; rw [if_neg (by omega)]; rw [if_neg (by omega)])
  have w1 : IntKind.u32.wrap r = r := IntWalk.u32_in _ (by omega)
  have t0 : decide (r ≤ 2047) = false := by simp; omega
  have t1 : decide (r < 55296) = false := by simp; omega
  have t2 : decide (r ≤ 65535) = false := by simp; omega
  have t3 : decide (65535 < r) = true := by simp; omega
  have t4 : decide (r ≤ 1114111) = true := by simp; omega
  have m1 : (r / 262144) % 256 = r / 262144 := by omega
  have o1 : bits .or .u8 240 (r / 262144) = 240 + r / 262144 := u8_or240 _ (by omega) (by omega)
  have a12 : bits .and .u8 (r / 4096 % 256) 63 = r / 4096 % 64 := by rw [u8_and63 _ (by omega) (by omega)]; omega
  have a6 : bits .and .u8 (r / 64 % 256) 63 = r / 64 % 64 := by rw [u8_and63 _ (by omega) (by omega)]; omega
  have a0 : bits .and .u8 (r % 256) 63 = r % 64 := by rw [u8_and63 _ (by omega) (by omega)]; omega
  have o2 : bits .or .u8 128 (r / 4096 % 64) = 128 + r / 4096 % 64 := u8_or128 _ (by omega) (by omega)
  have o3 : bits .or .u8 128 (r / 64 % 64) = 128 + r / 64 % 64 := u8_or128 _ (by omega) (by omega)
  have o4 : bits .or .u8 128 (r % 64) = 128 + r % 64 := u8_or128 _ (by omega) (by omega)
  clear hr h
  go_enter Tryf.func24, Tryf.ntmps24
  go_wp2
  go_ret
  refine ⟨by rw [HE.out]; rfl, ?_, grown_set (grown_set (grown_set (grown_set (grown_refl _ _) _ _) _ _) _ _) _ _, by simp⟩
  rw [HE.out]
  exact t4_mk (E := [240 + r / 262144, 128 + r / 4096 % 64, 128 + r / 64 % 64, 128 + r % 64]) (((((HR.out).set 0 _).set 1 _).set 2 _).set 3 _) rfl rfl (by simp)

theorem enc24 (T : Nat) (r : Int) (D : List Int) (w : World) (h : T4 w T D) (h0 : 128 ≤ r) (hs : Scalar r) : Calls Tryf.prog 24 #[.slice (some ⟨T, 0, none⟩) 4 4, .int .i32 r] w (Encd w T r) := by
  obtain ⟨g0, g1, g2⟩ := hs
  by_cases c1 : r ≤ 2047
  · exact enc24_2 T r D w h h0 c1
  by_cases c2 : r ≤ 65535
  · rcases g2 with g2 | g2
    · exact enc24_3a T r D w h (by omega) (by omega)
    · exact enc24_3b T r D w h (by omega) c2
  · exact enc24_4 T r D w h (by omega) g1
/-- EncodeRune of a scalar value. -/
theorem enc21 (T : Nat) (r : Int) (D : List Int) (w : World) (h : T4 w T D) (hs : Scalar r) : Calls Tryf.prog 21 #[.slice (some ⟨T, 0, none⟩) 4 4, .int .i32 r] w (Encd w T r) := by
  by_cases c1 : r ≤ 127
  · exact enc_1 T r D w h hs.1 c1
  have H := Lib.hid (enc24 T r D w h (by omega) hs)
  have w1 : IntKind.u32.wrap r = r := IntWalk.u32_in _ (by obtain ⟨_, _, _⟩ := hs; omega)
  have t0 : decide (r ≤ 127) = false := by simp; omega
  clear h hs
  go_enter Tryf.func21, Tryf.ntmps21
  go_wp2_with (go_at_call 24; (with_reducible refine H.out.mono ?_); rintro e w2 ⟨rfl, h2, h3, h4⟩; have H2 := Lib.hid h2; have H3 := Lib.hid h3; have H4 := Lib.hid h4; clear h2 h3 h4)
  go_ret
  exact ⟨rfl, H2.out, H3.out, H4.out⟩
end Go.Proofs.YtdplbdfaeighlabFmt.PiD
