/- FnPrintQuotedPicksShorterQuote: SimpleFold, EqualFold. -/
import Derived.Test.YtmgkjkfhhdkkmaaFmtRows
import Derived.Test.YtmgkjkfhhdkkmaaFmtMem
import Derived.Test.YtmgkjkfhhdkkmaaFmtSl
import Derived.Test.YtmgkjkfhhdkkmaaFmtPqA
import Derived.Test.YtmgkjkfhhdkkmaaFmtStep
import Derived.WalkMore
import Derived.ScopeJumps
import Derived.Laws.RangeAny
import Derived.WalkKit
import Derived.ProofKit
import Derived.OpenShut
import Derived.Below
import Derived.WalkLawsBesides
import Derived.Lib.Hide
import Derived.Outline
import Derived.RegionTactic
import Derived.Deep.QuietTactic
import Derived.BigQuiet
import Derived.WalkSpells
import Derived.Deep.OwnRows
import Derived.IntWalk
import Derived.Deep.DeepMust
namespace Go.Proofs.YtmgkjkfhhdkkmaaFmt.PqC
open Go.RowKit Mem Sl
set_option linter.unusedVariables false
open Prn Pru Str Line Qt Own PqA
/-- What the tables of unicode hold at the places that are read. -/
structure FT (w : World) (b off cc : Nat) : Prop where
  a115 : w.cell? ⟨2, 115, none⟩ = some (.int .u16 383)
  a116 : w.cell? ⟨2, 116, none⟩ = some (.int .u16 84)
  a121 : w.cell? ⟨2, 121, none⟩ = some (.int .u16 89)
  a108 : w.cell? ⟨2, 108, none⟩ = some (.int .u16 76)
  a101 : w.cell? ⟨2, 101, none⟩ = some (.int .u16 69)
  a83 : w.cell? ⟨2, 83, none⟩ = some (.int .u16 115)
  a84 : w.cell? ⟨2, 84, none⟩ = some (.int .u16 116)
  a89 : w.cell? ⟨2, 89, none⟩ = some (.int .u16 121)
  a76 : w.cell? ⟨2, 76, none⟩ = some (.int .u16 108)
  a69 : w.cell? ⟨2, 69, none⟩ = some (.int .u16 101)
  orb : w.cell? ⟨3, 0, none⟩ = some (.slice (some ⟨b, off, none⟩) 94 cc)
  o47 : w.cell? ⟨b, off + 94, none⟩ = some (.int .u16 966)
  o23 : w.cell? ⟨b, off + 46, none⟩ = some (.int .u16 837)
  o11 : w.cell? ⟨b, off + 22, none⟩ = some (.int .u16 452)
  o5 : w.cell? ⟨b, off + 10, none⟩ = some (.int .u16 197)
  o8 : w.cell? ⟨b, off + 16, none⟩ = some (.int .u16 304)
  o10 : w.cell? ⟨b, off + 20, none⟩ = some (.int .u16 383)
  o9 : w.cell? ⟨b, off + 18, none⟩ = some (.int .u16 305)
  t10 : w.cell? ⟨b, off + 21, none⟩ = some (.int .u16 83)
theorem FT.later {w w2 : World} {b off cc B0 : Nat} (h : FT w b off cc) (hb : Below B0 w w2) (h5 : 5 ≤ B0) (hB : b < B0) : FT w2 b off cc := by
  constructor
  · exact (hb.cell (p := ⟨2, 115, none⟩) (show 2 < B0 by omega)).trans h.a115
  · exact (hb.cell (p := ⟨2, 116, none⟩) (show 2 < B0 by omega)).trans h.a116
  · exact (hb.cell (p := ⟨2, 121, none⟩) (show 2 < B0 by omega)).trans h.a121
  · exact (hb.cell (p := ⟨2, 108, none⟩) (show 2 < B0 by omega)).trans h.a108
  · exact (hb.cell (p := ⟨2, 101, none⟩) (show 2 < B0 by omega)).trans h.a101
  · exact (hb.cell (p := ⟨2, 83, none⟩) (show 2 < B0 by omega)).trans h.a83
  · exact (hb.cell (p := ⟨2, 84, none⟩) (show 2 < B0 by omega)).trans h.a84
  · exact (hb.cell (p := ⟨2, 89, none⟩) (show 2 < B0 by omega)).trans h.a89
  · exact (hb.cell (p := ⟨2, 76, none⟩) (show 2 < B0 by omega)).trans h.a76
  · exact (hb.cell (p := ⟨2, 69, none⟩) (show 2 < B0 by omega)).trans h.a69
  · exact (hb.cell (p := ⟨3, 0, none⟩) (show 3 < B0 by omega)).trans h.orb
  · exact (hb.cell (p := ⟨b, off + 94, none⟩) hB).trans h.o47
  · exact (hb.cell (p := ⟨b, off + 46, none⟩) hB).trans h.o23
  · exact (hb.cell (p := ⟨b, off + 22, none⟩) hB).trans h.o11
  · exact (hb.cell (p := ⟨b, off + 10, none⟩) hB).trans h.o5
  · exact (hb.cell (p := ⟨b, off + 16, none⟩) hB).trans h.o8
  · exact (hb.cell (p := ⟨b, off + 20, none⟩) hB).trans h.o10
  · exact (hb.cell (p := ⟨b, off + 18, none⟩) hB).trans h.o9
  · exact (hb.cell (p := ⟨b, off + 21, none⟩) hB).trans h.t10
theorem sf115 (w : World) (h : w.cell? ⟨2, 115, none⟩ = some (.int .u16 383)) : Calls Tryf.prog 19 #[.int .i32 115] w fun e w' => e = .returned (.int .i32 383) ∧ w = w' := by
  go_enter Tryf.func19, Tryf.ntmps19
  go_wp2
  go_ret
  exact ⟨rfl, rfl⟩
theorem sf116 (w : World) (h : w.cell? ⟨2, 116, none⟩ = some (.int .u16 84)) : Calls Tryf.prog 19 #[.int .i32 116] w fun e w' => e = .returned (.int .i32 84) ∧ w = w' := by
  go_enter Tryf.func19, Tryf.ntmps19
  go_wp2
  go_ret
  exact ⟨rfl, rfl⟩
theorem sf121 (w : World) (h : w.cell? ⟨2, 121, none⟩ = some (.int .u16 89)) : Calls Tryf.prog 19 #[.int .i32 121] w fun e w' => e = .returned (.int .i32 89) ∧ w = w' := by
  go_enter Tryf.func19, Tryf.ntmps19
  go_wp2
  go_ret
  exact ⟨rfl, rfl⟩
theorem sf108 (w : World) (h : w.cell? ⟨2, 108, none⟩ = some (.int .u16 76)) : Calls Tryf.prog 19 #[.int .i32 108] w fun e w' => e = .returned (.int .i32 76) ∧ w = w' := by
  go_enter Tryf.func19, Tryf.ntmps19
  go_wp2
  go_ret
  exact ⟨rfl, rfl⟩
theorem sf101 (w : World) (h : w.cell? ⟨2, 101, none⟩ = some (.int .u16 69)) : Calls Tryf.prog 19 #[.int .i32 101] w fun e w' => e = .returned (.int .i32 69) ∧ w = w' := by
  go_enter Tryf.func19, Tryf.ntmps19
  go_wp2
  go_ret
  exact ⟨rfl, rfl⟩
theorem sf83 (w : World) (h : w.cell? ⟨2, 83, none⟩ = some (.int .u16 115)) : Calls Tryf.prog 19 #[.int .i32 83] w fun e w' => e = .returned (.int .i32 115) ∧ w = w' := by
  go_enter Tryf.func19, Tryf.ntmps19
  go_wp2
  go_ret
  exact ⟨rfl, rfl⟩
theorem sf84 (w : World) (h : w.cell? ⟨2, 84, none⟩ = some (.int .u16 116)) : Calls Tryf.prog 19 #[.int .i32 84] w fun e w' => e = .returned (.int .i32 116) ∧ w = w' := by
  go_enter Tryf.func19, Tryf.ntmps19
  go_wp2
  go_ret
  exact ⟨rfl, rfl⟩
theorem sf89 (w : World) (h : w.cell? ⟨2, 89, none⟩ = some (.int .u16 121)) : Calls Tryf.prog 19 #[.int .i32 89] w fun e w' => e = .returned (.int .i32 121) ∧ w = w' := by
  go_enter Tryf.func19, Tryf.ntmps19
  go_wp2
  go_ret
  exact ⟨rfl, rfl⟩
theorem sf76 (w : World) (h : w.cell? ⟨2, 76, none⟩ = some (.int .u16 108)) : Calls Tryf.prog 19 #[.int .i32 76] w fun e w' => e = .returned (.int .i32 108) ∧ w = w' := by
  go_enter Tryf.func19, Tryf.ntmps19
  go_wp2
  go_ret
  exact ⟨rfl, rfl⟩
theorem sf69 (w : World) (h : w.cell? ⟨2, 69, none⟩ = some (.int .u16 101)) : Calls Tryf.prog 19 #[.int .i32 69] w fun e w' => e = .returned (.int .i32 101) ∧ w = w' := by
  go_enter Tryf.func19, Tryf.ntmps19
  go_wp2
  go_ret
  exact ⟨rfl, rfl⟩

def Sch (x3 x4 : Value) : Prop := ∃ lo hi : Nat, x3 = .int .i64 (lo : Int) ∧ x4 = .int .i64 (hi : Int) ∧ ((lo = 0 ∧ hi = 94) ∨ (lo = 0 ∧ hi = 47) ∨ (lo = 0 ∧ hi = 23) ∨ (lo = 0 ∧ hi = 11) ∨ (lo = 6 ∧ hi = 11) ∨ (lo = 9 ∧ hi = 11) ∨ (lo = 9 ∧ hi = 10) ∨ (lo = 10 ∧ hi = 10))
set_option maxHeartbeats 2000000 in
theorem sf383 (w : World) (b off cc : Nat) (h : FT w b off cc) : Calls Tryf.prog 19 #[.int .i32 383] w fun e w' => e = .returned (.int .i32 83) ∧ w = w' := by
  obtain ⟨-, -, -, -, -, -, -, -, -, -, g0, g47, g23, g11, g5, g8, g10, g9, gt⟩ := h
  go_enter Tryf.func19, Tryf.ntmps19
  go_wp2
  go_loop [3, 4] (fun x3 x4 => Sch x3 x4) (fun x3 x4 => (intOf x4 - intOf x3).toNat)
  case atStart => exact ⟨0, 94, rfl, rfl, .inl ⟨rfl, rfl⟩⟩
  case round =>
    obtain ⟨lo, hi, rfl, rfl, hc⟩ := hrel
    rcases hc with ⟨rfl, rfl⟩ | ⟨rfl, rfl⟩ | ⟨rfl, rfl⟩ | ⟨rfl, rfl⟩ | ⟨rfl, rfl⟩ | ⟨rfl, rfl⟩ | ⟨rfl, rfl⟩ | ⟨rfl, rfl⟩
    case inr.inr.inr.inr.inr.inr.inr =>
      go_wp2
      go_ret
      exact ⟨rfl, rfl⟩
    all_goals
      go_wp2
      go_round
      case rel => first | exact ⟨0, 47, rfl, rfl, by simp⟩ | exact ⟨0, 23, rfl, rfl, by simp⟩ | exact ⟨0, 11, rfl, rfl, by simp⟩ | exact ⟨6, 11, rfl, rfl, by simp⟩ | exact ⟨9, 11, rfl, rfl, by simp⟩ | exact ⟨9, 10, rfl, rfl, by simp⟩ | exact ⟨10, 10, rfl, rfl, by simp⟩
      case measure => simp [intOf]
end Go.Proofs.YtmgkjkfhhdkkmaaFmt.PqC
