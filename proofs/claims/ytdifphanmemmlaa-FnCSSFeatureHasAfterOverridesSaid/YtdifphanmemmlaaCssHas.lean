/- FnCSSFeatureHasAfterOverrides: the law's walk. -/
import Derived.Test.YtdifphanmemmlaaRows
import Derived.Test.YtdifphanmemmlaaBitsP
import Derived.WalkKit
import Derived.ProofKit
import Derived.OpenShut
import Derived.Below
import Derived.WalkLawsBesides
import Derived.Lib.Hide
import Derived.Outline
namespace Go.Proofs.Ytdifphanmemmlaa.CssHas
open Go.RowKit BitsP
theorem fin (f o m i : Nat) (hf : f < 65536) (ho : o < 65536) (hm : m < 65536) (hi : i < 16) (x : Nat) (hx : x < 65536) (hb : x.testBit i = if m.testBit i then o.testBit i else f.testBit i) :
    ((bits .and .u16 (bits .or .u16 (bits .and .u16 (f : Int) (bits .xor .u16 IntKind.u16.max (m : Int))) (bits .and .u16 (o : Int) (m : Int))) (IntKind.u16.wrap (2 ^ i)) != 0) == (bits .and .u16 (x : Int) (IntKind.u16.wrap (2 ^ i)) != 0)) = true := by
  rw [ov16_eq f o m hf ho hm, has_u16 _ (ov16_lt f o m hf ho) i hi, has_u16 x hx i hi, ov16_bit f o m i hi, hb]
  simp
theorem law (a0 : Int) (a1 : Int) (a2 : Int) (a3 : Int) (w : World) (w0 : (Lit.int .u16 a0).wf = true) (w1 : (Lit.int .u16 a1).wf = true) (w2 : (Lit.int .u16 a2).wf = true) (w3 : (Lit.int .u8 a3).wf = true) :
    Calls Try.prog 8 #[.int .u16 a0, .int .u16 a1, .int .u16 a2, .int .u8 a3] w fun e w' => e = .returned (.bool true) ∧ Below w.heap.size w w' := by
  obtain ⟨h0, h1⟩ := bounds_u8 w3
  obtain ⟨p0, q0⟩ := bounds_u16 w0
  obtain ⟨p1, q1⟩ := bounds_u16 w1
  obtain ⟨p2, q2⟩ := bounds_u16 w2
  by_cases h : 16 ≤ a3
  · go_enter Try.func8, Try.ntmps8
    go_wp2
    go_ret
    exact ⟨rfl, Below.refl _ _⟩
  · obtain ⟨f, rfl⟩ := Int.eq_ofNat_of_zero_le p0
    obtain ⟨o, rfl⟩ := Int.eq_ofNat_of_zero_le p1
    obtain ⟨m, rfl⟩ := Int.eq_ofNat_of_zero_le p2
    obtain ⟨i, rfl⟩ := Int.eq_ofNat_of_zero_le h0
    have hm := has_u16 m (by omega) i (by omega)
    cases hb : m.testBit i
    · rw [hb] at hm
      have HF := Lib.hid (fin f o m i (by omega) (by omega) (by omega) (by omega) f (by omega) (by rw [hb]; rfl))
      clear hb w0 w1 w2 w3
      go_enter Try.func8, Try.ntmps8
      go_wp2
      go_ret
      exact ⟨ret_bool HF.out, Below.refl _ _⟩
    · rw [hb] at hm
      have HF := Lib.hid (fin f o m i (by omega) (by omega) (by omega) (by omega) o (by omega) (by rw [hb]; rfl))
      clear hb w0 w1 w2 w3
      go_enter Try.func8, Try.ntmps8
      go_wp2
      go_ret
      exact ⟨ret_bool HF.out, Below.refl _ _⟩
end Go.Proofs.Ytdifphanmemmlaa.CssHas
