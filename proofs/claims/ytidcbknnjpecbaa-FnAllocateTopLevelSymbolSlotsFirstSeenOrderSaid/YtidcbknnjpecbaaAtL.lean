/- FnAllocateTopLevelSymbolSlotsFirstSeenOrder: the law. -/
import Derived.Test.YtidcbknnjpecbaaRows
import Derived.Test.YtidcbknnjpecbaaMem
import Derived.Test.YtidcbknnjpecbaaSl
import Derived.Test.YtidcbknnjpecbaaAtE
import Derived.Test.YtidcbknnjpecbaaAtG
import Derived.Carry
import Derived.Great.BuildSlice
import Derived.Deep.RegionLaw
import Derived.Deep.RegionHeld3
import Derived.WalkKit
import Derived.ProofKit
import Derived.OpenShut
import Derived.Below
import Derived.WalkLawsBesides
import Derived.Lib.Hide
import Derived.Outline
import Derived.RegionTactic
import Derived.Deep.QuietTactic
import Derived.BigQuiet
import Derived.WalkSpells
import Derived.Deep.OwnRows
import Derived.IntWalk
import Derived.Deep.DeepMust
namespace Go.Proofs.Ytidcbknnjpecbaa.AtL
open Go.RowKit Mem Sl
set_option linter.unusedVariables false
open Args AtA AtB AtP AtC AtD AtE AtF AtG MapK Go.Proofs.Ytidcbknnjpecbaa.Arr Go.Maps

theorem info3 : (Try.prog.info? 3).map (fun i => (i.zero, i.size, i.bytes)) = some (some (.int .i64 0), 1, 8) := by kernel_rfl
theorem info23 : (Try.prog.info? 23).map (fun i => (i.zero, i.size, i.bytes)) = some (some (.int .u32 0), 1, 4) := by kernel_rfl
def iniF (a b s : Nat) : Nat := if s = 0 then a else if s = 1 then b else 0
theorem sb_made {w : World} {B g n : Nat} (h : Zs w g n) (hB : B ≤ g) (hm : n ≤ 65536) (cp sm : Nat → Int) : Sb w B g n (slotsL n cp sm []) := by
  have e : slotsL n cp sm [] = List.replicate n (0, 0) := by simp [slotsL]
  rw [e]
  have hl : (List.replicate n ((0 : Int), (0 : Int))).length = n := by simp
  have hsl : sl (List.replicate n ((0 : Int), (0 : Int))) = (madeCells #[.string ByteArray.empty, .int .u32 0, .int .u32 0] (n * 3)).toList := by
    apply List.ext_getElem?
    intro j
    by_cases hj : j < n * 3
    · have h1 : (madeCells #[Value.string ByteArray.empty, .int .u32 0, .int .u32 0] (n * 3)).toList[j]? = #[Value.string ByteArray.empty, .int .u32 0, .int .u32 0][j % 3]? := by
        have : j % 3 < 3 := Nat.mod_lt _ (by decide)
        simp [madeCells, hj, getElem!_def, this]
      rw [h1]
      obtain ⟨a, b, hb, rfl⟩ : ∃ a b, b < 3 ∧ j = a * 3 + b := ⟨j / 3, j % 3, Nat.mod_lt _ (by decide), by omega⟩
      have ha : a < n := by omega
      have hm3 : (a * 3 + b) % 3 = b := by omega
      rw [hm3]
      have hk : (List.replicate n ((0 : Int), (0 : Int)))[a]? = some (0, 0) := by simp [ha]
      have := sl_at _ a 0 0 hk
      have e3 : b = 0 ∨ b = 1 ∨ b = 2 := by omega
      rcases e3 with rfl | rfl | rfl
      · rw [Nat.add_zero]
        have : ∀ (L : List (Int × Int)) (k : Nat), k < L.length → (sl L)[k * 3]? = some (.string ByteArray.empty) := by
          intro L
          induction L with
          | nil => intro k hk; simp at hk
          | cons a t ih =>
            intro k hk
            rw [sl_cons]
            cases k with
            | zero => rfl
            | succ k =>
              rw [show (k + 1) * 3 = k * 3 + 3 by omega, List.getElem?_append_right (by simp)]
              simpa using ih k (by simpa using hk)
        rw [this _ _ (by simpa using ha)]
        rfl
      · exact this.1
      · exact this.2
    · rw [List.getElem?_eq_none (by rw [sl_length, hl]; omega), List.getElem?_eq_none (by simp [madeCells]; omega)]
  unfold Sb
  rw [hl, hsl]
  exact ⟨by simp [madeCells], .inr ⟨g, n, _, rfl, hB, h, Nat.le_refl _, by unfold maxLen; omega, by simp [madeCells], by rw [List.take_of_length_le]; simp [madeCells]⟩⟩
/-- The renamer as it is made. -/
theorem rn_made {w : World} {B p : Nat} {rb sm s0 s1 s2 s3 mv : Value} {a b : Nat} {cp : Nat → Int} (hr : Row w p 58 [rb, s0, s1, s2, s3, mv, sm]) (hs : Slots B w a b 0 0 s0 s1 s2 s3) (hm : MpV B w mv) (hp : B ≤ p) (ha : a ≤ 4096) (hb : b ≤ 4096) :
    ∃ g0 g1 mb A2 A3, Rn w B p mb rb sm A2 A3 (iniF a b) cp Md.zero g0 a g1 b (fun _ => none) 0 := by
  obtain ⟨⟨g0, rfl, z0, l0⟩, ⟨g1, rfl, z1, l1⟩, ⟨g2, rfl, z2, l2⟩, ⟨g3, rfl, z3, l3⟩, hne⟩ := hs
  obtain ⟨mb, rfl, hmo, hml⟩ := hm
  refine ⟨g0, g1, mb, some ⟨g2, 0, none⟩, some ⟨g3, 0, none⟩, ?_, ?_, ?_, ?_, ⟨#[], 0, hmo, rfl, by simp, by simp, by simp⟩, fun _ _ => rfl, fun s q i h => by simp [Md.zero] at h, hp, hml⟩
  · simpa [iniF, Md.zero] using hr
  · exact sb_made z0 l0 (by omega) _ _
  · exact sb_made z1 l1 (by omega) _ _
  · intro e
    exact hne g0 rfl (by rw [e]; rfl)
end Go.Proofs.Ytidcbknnjpecbaa.AtL
