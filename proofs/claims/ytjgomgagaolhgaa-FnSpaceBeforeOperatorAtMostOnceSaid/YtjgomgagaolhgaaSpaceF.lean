/- printSpaceBeforeOperator. -/
import Derived.Test.YtjgomgagaolhgaaRows
import Derived.Test.YtjgomgagaolhgaaMem
import Derived.Test.YtjgomgagaolhgaaSl
import Derived.Test.YtjgomgagaolhgaaSpaceA
import Derived.Test.YtjgomgagaolhgaaSpaceB
import Derived.Test.YtjgomgagaolhgaaSpaceC
import Derived.Test.YtjgomgagaolhgaaSpaceD
import Derived.Test.YtjgomgagaolhgaaSpaceE
import Derived.Test.YtjgomgagaolhgaaPrint
import Derived.WalkKit
import Derived.ProofKit
import Derived.OpenShut
import Derived.Below
import Derived.WalkLawsBesides
import Derived.Lib.Hide
import Derived.Outline
import Derived.RegionTactic
import Derived.Deep.QuietTactic
import Derived.BigQuiet
import Derived.WalkSpells
import Derived.Deep.OwnRows
import Derived.IntWalk
import Derived.Deep.DeepMust
namespace Go.Proofs.Ytjgomgagaolhgaa.Space
open Go.RowKit Mem Sl
set_option linter.unusedVariables false
open Prn

theorem any (p : Nat) (cs : List Value) (v : Value) (zs : List Int) (pend prev nx : Int) (w : World) (h : Pr w p 100 9 5 cs v zs) (hf : Fl cs pend prev) (hn : zs.length ≤ 1048577) :
    ∃ b : Bool, (pend ≠ zs.length → b = false) ∧ Calls Try.prog 42 #[.pointer (some ⟨p, 0, none⟩), .int .u8 nx] w (Out w p cs v zs b) ∧
      (b = false → ∀ (w' : World) (cs' : List Value) (v' : Value), Pr w' p 100 9 5 cs' v' zs → Fl cs' pend prev → Calls Try.prog 42 #[.pointer (some ⟨p, 0, none⟩), .int .u8 nx] w' (Out w' p cs' v' zs false)) := by
  by_cases hne : pend ≠ zs.length
  · exact ⟨false, fun _ => rfl, away p cs v zs pend prev nx w h hf hn hne, fun _ w' cs' v' h' hf' => away p cs' v' zs pend prev nx w' h' hf' hn hne⟩
  · have hp : pend = zs.length := by simpa using hne
    subst hp
    have no : ∀ (C : ∀ (p : Nat) (cs : List Value) (v : Value) (w : World), Pr w p 100 9 5 cs v zs → Fl cs zs.length prev → Calls Try.prog 42 #[.pointer (some ⟨p, 0, none⟩), .int .u8 nx] w (Out w p cs v zs false)),
        ∃ b : Bool, ((zs.length : Int) ≠ zs.length → b = false) ∧ Calls Try.prog 42 #[.pointer (some ⟨p, 0, none⟩), .int .u8 nx] w (Out w p cs v zs b) ∧
          (b = false → ∀ (w' : World) (cs' : List Value) (v' : Value), Pr w' p 100 9 5 cs' v' zs → Fl cs' zs.length prev → Calls Try.prog 42 #[.pointer (some ⟨p, 0, none⟩), .int .u8 nx] w' (Out w' p cs' v' zs false)) :=
      fun C => ⟨false, fun _ => rfl, C p cs v w h hf, fun _ w' cs' v' h' hf' => C p cs' v' w' h' hf'⟩
    have yes : Calls Try.prog 42 #[.pointer (some ⟨p, 0, none⟩), .int .u8 nx] w (Out w p cs v zs true) →
        ∃ b : Bool, ((zs.length : Int) ≠ zs.length → b = false) ∧ Calls Try.prog 42 #[.pointer (some ⟨p, 0, none⟩), .int .u8 nx] w (Out w p cs v zs b) ∧
          (b = false → ∀ (w' : World) (cs' : List Value) (v' : Value), Pr w' p 100 9 5 cs' v' zs → Fl cs' zs.length prev → Calls Try.prog 42 #[.pointer (some ⟨p, 0, none⟩), .int .u8 nx] w' (Out w' p cs' v' zs false)) :=
      fun C => ⟨true, fun h => absurd rfl h, C, fun h => by cases h⟩
    by_cases hp11 : prev = 11
    · by_cases x11 : nx = 11
      · exact yes (p11_11 p cs v zs prev nx w h hf hn hp11 x11)
      by_cases x0 : nx = 0
      · exact yes (p11_0 p cs v zs prev nx w h hf hn hp11 x0)
      by_cases x8 : nx = 8
      · exact yes (p11_8 p cs v zs prev nx w h hf hn hp11 x8)
      exact no (fun p cs v w h hf => p11_no p cs v zs prev nx w h hf hn hp11 ⟨x11, x0, x8⟩)
    by_cases hp0 : prev = 0
    · by_cases x11 : nx = 11
      · exact yes (p0_11 p cs v zs prev nx w h hf hn hp0 x11)
      by_cases x0 : nx = 0
      · exact yes (p0_0 p cs v zs prev nx w h hf hn hp0 x0)
      by_cases x8 : nx = 8
      · exact yes (p0_8 p cs v zs prev nx w h hf hn hp0 x8)
      exact no (fun p cs v w h hf => p0_no p cs v zs prev nx w h hf hn hp0 ⟨x11, x0, x8⟩)
    by_cases hp12 : prev = 12
    · by_cases x12 : nx = 12
      · exact yes (p12_12 p cs v zs prev nx w h hf hn hp12 x12)
      by_cases x1 : nx = 1
      · exact yes (p12_1 p cs v zs prev nx w h hf hn hp12 x1)
      by_cases x7 : nx = 7
      · exact yes (p12_7 p cs v zs prev nx w h hf hn hp12 x7)
      exact no (fun p cs v w h hf => p12_no p cs v zs prev nx w h hf hn hp12 ⟨x12, x1, x7⟩)
    by_cases hp1 : prev = 1
    · by_cases x12 : nx = 12
      · exact yes (p1_12 p cs v zs prev nx w h hf hn hp1 x12)
      by_cases x1 : nx = 1
      · exact yes (p1_1 p cs v zs prev nx w h hf hn hp1 x1)
      by_cases x7 : nx = 7
      · exact yes (p1_7 p cs v zs prev nx w h hf hn hp1 x7)
      exact no (fun p cs v w h hf => p1_no p cs v zs prev nx w h hf hn hp1 ⟨x12, x1, x7⟩)
    by_cases hp9 : prev = 9
    · by_cases x19 : nx = 19
      · exact yes (p9_19 p cs v zs prev nx w h hf hn hp9 x19)
      exact no (fun p cs v w h hf => p9_no p cs v zs prev nx w h hf hn hp9 x19)
    by_cases hp3 : prev = 3
    · by_cases x7 : nx = 7
      · by_cases hs : 1 < zs.length
        · cases hy : (zs.getD (zs.length - 2) 0 == 60)
          · exact no (fun p cs v w h hf => p3_n p cs v zs prev nx w h hf hn hp3 x7 hs hy)
          · exact yes (p3_yes p cs v zs prev nx w h hf hn hp3 x7 hs hy)
        · exact no (fun p cs v w h hf => p3_short p cs v zs prev nx w h hf hn hp3 x7 (by omega))
      exact no (fun p cs v w h hf => p3_no p cs v zs prev nx w h hf hn hp3 x7)
    exact no (fun p cs v w h hf => other p cs v zs prev nx w h hf hn ⟨hp11, hp0, hp12, hp1, hp9, hp3⟩)
end Go.Proofs.Ytjgomgagaolhgaa.Space
