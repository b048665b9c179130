/- FnPrintQuotedUTF8QuoteAndLength: EncodeRune. -/
import Derived.Test.YtmakaafjkeeooabFmtRows
import Derived.Test.YtmakaafjkeeooabFmtMem
import Derived.Test.YtmakaafjkeeooabFmtSl
import Derived.Test.YtmakaafjkeeooabFmtPrn
import Derived.Test.YtmakaafjkeeooabFmtOwg
import Derived.WalkKit
import Derived.ProofKit
import Derived.OpenShut
import Derived.Below
import Derived.WalkLawsBesides
import Derived.Lib.Hide
import Derived.Outline
import Derived.RegionTactic
import Derived.Deep.QuietTactic
import Derived.BigQuiet
import Derived.WalkSpells
import Derived.Deep.OwnRows
import Derived.IntWalk
import Derived.Deep.DeepMust
namespace Go.Proofs.YtmakaafjkeeooabFmt.QuC
open Go.RowKit Mem Sl
set_option linter.unusedVariables false
open Prn Own Owg

/-- Block T holds four bytes. -/
def T4 (w : World) (T : Nat) : Prop := ∃ a b c d : Int, Row w T 5 [.int .u8 a, .int .u8 b, .int .u8 c, .int .u8 d]
/-- What EncodeRune into block T leaves. -/
def Encd (w : World) (T n : Nat) (e : Ending) (w' : World) : Prop := e = .returned (.int .i64 (n : Int)) ∧ T4 w' T ∧ w.grownBy w' (some T) ∧ w'.heap.size = w.heap.size

set_option maxRecDepth 100000 in
set_option maxHeartbeats 2000000 in
theorem enc_1 (T : Nat) (r : Int) (w : World) (h : T4 w T) (h0 : 0 ≤ r) (h1 : r ≤ 127) : Calls Tryf.prog 19 #[.slice (some ⟨T, 0, none⟩) 4 4, .int .i32 r] w (Encd w T 1) := by
  obtain ⟨a, b, c, d, hr⟩ := h
  have c0 := hr.at_ (i := 0) rfl
  have c1 := hr.at_ (i := 1) rfl
  have c2 := hr.at_ (i := 2) rfl
  have c3 := hr.at_ (i := 3) rfl
  have f0 := hr.frozen 0
  have f1 := hr.frozen 1
  have f2 := hr.frozen 2
  have f3 := hr.frozen 3
  have HR := Lib.hid hr
  have w1 : IntKind.u32.wrap r = r := IntWalk.u32_in _ (by omega)
  have t0 : decide (r ≤ 127) = true := by simp; omega
  clear hr
  go_enter Tryf.func19, Tryf.ntmps19
  go_wp2
  go_ret
  exact ⟨rfl, ⟨_, _, _, _, (HR.out).set 0 _⟩, grown_set (grown_refl _ _) _ _, by simp⟩

set_option maxRecDepth 100000 in
set_option maxHeartbeats 2000000 in
theorem enc20_2 (T : Nat) (r : Int) (w : World) (h : T4 w T) (h0 : 128 ≤ r) (h1 : r ≤ 2047) : Calls Tryf.prog 20 #[.slice (some ⟨T, 0, none⟩) 4 4, .int .i32 r] w (Encd w T 2) := by
  obtain ⟨a, b, c, d, hr⟩ := h
  have c0 := hr.at_ (i := 0) rfl
  have c1 := hr.at_ (i := 1) rfl
  have c2 := hr.at_ (i := 2) rfl
  have c3 := hr.at_ (i := 3) rfl
  have f0 := hr.frozen 0
  have f1 := hr.frozen 1
  have f2 := hr.frozen 2
  have f3 := hr.frozen 3
  have HR := Lib.hid hr
  have w1 : IntKind.u32.wrap r = r := IntWalk.u32_in _ (by omega)
  have t0 : decide (r ≤ 2047) = true := by simp; omega
  clear hr
  go_enter Tryf.func20, Tryf.ntmps20
  go_wp2
  go_ret
  exact ⟨rfl, ⟨_, _, _, _, ((HR.out).set 0 _).set 1 _⟩, grown_set (grown_set (grown_refl _ _) _ _) _ _, by simp⟩

set_option maxRecDepth 100000 in
set_option maxHeartbeats 2000000 in
theorem enc20_3a (T : Nat) (r : Int) (w : World) (h : T4 w T) (h0 : 2048 ≤ r) (h1 : r ≤ 55295) : Calls Tryf.prog 20 #[.slice (some ⟨T, 0, none⟩) 4 4, .int .i32 r] w (Encd w T 3) := by
  obtain ⟨a, b, c, d, hr⟩ := h
  have c0 := hr.at_ (i := 0) rfl
  have c1 := hr.at_ (i := 1) rfl
  have c2 := hr.at_ (i := 2) rfl
  have c3 := hr.at_ (i := 3) rfl
  have f0 := hr.frozen 0
  have f1 := hr.frozen 1
  have f2 := hr.frozen 2
  have f3 := hr.frozen 3
  have HR := Lib.hid hr
  have w1 : IntKind.u32.wrap r = r := IntWalk.u32_in _ (by omega)
  have t0 : decide (r ≤ 2047) = false := by simp; omega
  have t1 : decide (r < 55296) = true := by simp; omega
  clear hr
  go_enter Tryf.func20, Tryf.ntmps20
  go_wp2
  go_ret
  exact ⟨rfl, ⟨_, _, _, _, (((HR.out).set 0 _).set 1 _).set 2 _⟩, grown_set (grown_set (grown_set (grown_refl _ _) _ _) _ _) _ _, by simp⟩

set_option maxRecDepth 100000 in
set_option maxHeartbeats 2000000 in
theorem enc20_3b (T : Nat) (r : Int) (w : World) (h : T4 w T) (h0 : 57344 ≤ r) (h1 : r ≤ 65535) : Calls Tryf.prog 20 #[.slice (some ⟨T, 0, none⟩) 4 4, .int .i32 r] w (Encd w T 3) := by
  obtain ⟨a, b, c, d, hr⟩ := h
  have c0 := hr.at_ (i := 0) rfl
  have c1 := hr.at_ (i := 1) rfl
  have c2 := hr.at_ (i := 2) rfl
  have c3 := hr.at_ (i := 3) rfl
  have f0 := hr.frozen 0
  have f1 := hr.frozen 1
  have f2 := hr.frozen 2
  have f3 := hr.frozen 3
  have HR := Lib.hid hr
  have w1 : IntKind.u32.wrap r = r := IntWalk.u32_in _ (by omega)
  have t0 : decide (r ≤ 2047) = false := by simp; omega
  have t1 : decide (r < 55296) = false := by simp; omega
  have t2 : decide ((57343 : Int) < r) = true := by simp; omega
  have t3 : decide (r ≤ 65535) = true := by simp; omega
  clear hr
  go_enter Tryf.func20, Tryf.ntmps20
  go_wp2
  go_ret
  exact ⟨rfl, ⟨_, _, _, _, (((HR.out).set 0 _).set 1 _).set 2 _⟩, grown_set (grown_set (grown_set (grown_refl _ _) _ _) _ _) _ _, by simp⟩

theorem enc20_3 (T : Nat) (r : Int) (w : World) (h : T4 w T) (h0 : 2048 ≤ r) (h1 : r ≤ 65535) (hs : r < 55296 ∨ 57343 < r) : Calls Tryf.prog 20 #[.slice (some ⟨T, 0, none⟩) 4 4, .int .i32 r] w (Encd w T 3) := by
  rcases hs with hs | hs
  · exact enc20_3a T r w h h0 (by omega)
  · exact enc20_3b T r w h (by omega) h1

set_option maxRecDepth 100000 in
set_option maxHeartbeats 2000000 in
theorem enc20_4 (T : Nat) (r : Int) (w : World) (h : T4 w T) (h0 : 65536 ≤ r) (h1 : r ≤ 1114111) : Calls Tryf.prog 20 #[.slice (some ⟨T, 0, none⟩) 4 4, .int .i32 r] w (Encd w T 4) := by
  obtain ⟨a, b, c, d, hr⟩ := h
  have c0 := hr.at_ (i := 0) rfl
  have c1 := hr.at_ (i := 1) rfl
  have c2 := hr.at_ (i := 2) rfl
  have c3 := hr.at_ (i := 3) rfl
  have f0 := hr.frozen 0
  have f1 := hr.frozen 1
  have f2 := hr.frozen 2
  have f3 := hr.frozen 3
  have HR := Lib.hid hr
  have w1 : IntKind.u32.wrap r = r := IntWalk.u32_in _ (by omega)
  have t0 : decide (r ≤ 2047) = false := by simp; omega
  have t1 : decide (r < 55296) = false := by simp; omega
  have t2 : decide (r ≤ 65535) = false := by simp; omega
  have t3 : decide (65535 < r) = true := by simp; omega
  have t4 : decide (r ≤ 1114111) = true := by simp; omega
  clear hr
  go_enter Tryf.func20, Tryf.ntmps20
  go_wp2
  go_ret
  exact ⟨rfl, ⟨_, _, _, _, ((((HR.out).set 0 _).set 1 _).set 2 _).set 3 _⟩, grown_set (grown_set (grown_set (grown_set (grown_refl _ _) _ _) _ _) _ _) _ _, by simp⟩

theorem enc_2 (T : Nat) (r : Int) (w : World) (h : T4 w T) (h0 : 128 ≤ r) (h1 : r ≤ 2047) : Calls Tryf.prog 19 #[.slice (some ⟨T, 0, none⟩) 4 4, .int .i32 r] w (Encd w T 2) := by
  have H := Lib.hid (enc20_2 T r w h h0 h1)
  have w1 : IntKind.u32.wrap r = r := IntWalk.u32_in _ (by omega)
  have t0 : decide (r ≤ 127) = false := by simp; omega
  clear h
  go_enter Tryf.func19, Tryf.ntmps19
  go_wp2_with (go_at_call 20; (with_reducible refine H.out.mono ?_); rintro e w2 ⟨rfl, h2, h3, h4⟩; have H2 := Lib.hid h2; have H3 := Lib.hid h3; have H4 := Lib.hid h4; clear h2 h3 h4)
  go_ret
  exact ⟨rfl, H2.out, H3.out, H4.out⟩

theorem enc_3 (T : Nat) (r : Int) (w : World) (h : T4 w T) (h0 : 2048 ≤ r) (h1 : r ≤ 65535) (hs : r < 55296 ∨ 57343 < r) : Calls Tryf.prog 19 #[.slice (some ⟨T, 0, none⟩) 4 4, .int .i32 r] w (Encd w T 3) := by
  have H := Lib.hid (enc20_3 T r w h h0 h1 hs)
  have w1 : IntKind.u32.wrap r = r := IntWalk.u32_in _ (by omega)
  have t0 : decide (r ≤ 127) = false := by simp; omega
  clear h
  go_enter Tryf.func19, Tryf.ntmps19
  go_wp2_with (go_at_call 20; (with_reducible refine H.out.mono ?_); rintro e w2 ⟨rfl, h2, h3, h4⟩; have H2 := Lib.hid h2; have H3 := Lib.hid h3; have H4 := Lib.hid h4; clear h2 h3 h4)
  go_ret
  exact ⟨rfl, H2.out, H3.out, H4.out⟩

theorem enc_4 (T : Nat) (r : Int) (w : World) (h : T4 w T) (h0 : 65536 ≤ r) (h1 : r ≤ 1114111) : Calls Tryf.prog 19 #[.slice (some ⟨T, 0, none⟩) 4 4, .int .i32 r] w (Encd w T 4) := by
  have H := Lib.hid (enc20_4 T r w h h0 h1)
  have w1 : IntKind.u32.wrap r = r := IntWalk.u32_in _ (by omega)
  have t0 : decide (r ≤ 127) = false := by simp; omega
  clear h
  go_enter Tryf.func19, Tryf.ntmps19
  go_wp2_with (go_at_call 20; (with_reducible refine H.out.mono ?_); rintro e w2 ⟨rfl, h2, h3, h4⟩; have H2 := Lib.hid h2; have H3 := Lib.hid h3; have H4 := Lib.hid h4; clear h2 h3 h4)
  go_ret
  exact ⟨rfl, H2.out, H3.out, H4.out⟩

def wid (r : Int) : Nat := if r ≤ 127 then 1 else if r ≤ 2047 then 2 else if r ≤ 65535 then 3 else 4
/-- EncodeRune of a scalar value. -/
theorem enc19 (T : Nat) (r : Int) (w : World) (h : T4 w T) (h0 : 0 ≤ r) (h1 : r ≤ 1114111) (hs : r < 55296 ∨ 57343 < r) : Calls Tryf.prog 19 #[.slice (some ⟨T, 0, none⟩) 4 4, .int .i32 r] w (Encd w T (wid r)) := by
  unfold wid
  split
  · exact enc_1 T r w h h0 (by omega)
  · split
    · exact enc_2 T r w h (by omega) (by omega)
    · split
      · exact enc_3 T r w h (by omega) (by omega) hs
      · exact enc_4 T r w h (by omega) (by omega)
end Go.Proofs.YtmakaafjkeeooabFmt.QuC
