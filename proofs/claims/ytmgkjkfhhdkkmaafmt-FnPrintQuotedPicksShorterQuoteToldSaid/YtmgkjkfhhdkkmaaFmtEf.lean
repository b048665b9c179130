/- FnPrintQuotedPicksShorterQuote: EqualFold at five bytes, one of them not ASCII. -/
import Derived.Test.YtmgkjkfhhdkkmaaFmtRows
import Derived.Test.YtmgkjkfhhdkkmaaFmtMem
import Derived.Test.YtmgkjkfhhdkkmaaFmtSl
import Derived.Test.YtmgkjkfhhdkkmaaFmtPqC
import Derived.Test.YtmgkjkfhhdkkmaaFmtStep
import Derived.WalkMore
import Derived.ScopeJumps
import Derived.Laws.RangeAny
import Derived.Laws.BitsLemmas
import Derived.WalkKit
import Derived.ProofKit
import Derived.OpenShut
import Derived.Below
import Derived.WalkLawsBesides
import Derived.Lib.Hide
import Derived.Outline
import Derived.RegionTactic
import Derived.Deep.QuietTactic
import Derived.BigQuiet
import Derived.WalkSpells
import Derived.Deep.OwnRows
import Derived.IntWalk
import Derived.Deep.DeepMust
namespace Go.Proofs.YtmgkjkfhhdkkmaaFmt.Ef
open Go.RowKit Mem Sl
set_option linter.unusedVariables false
open Prn Pru Str Line Qt Own PqA PqC Dec
theorem next_at {P : Program} {W : World} {b pos : Nat} {s : ByteArray} (h : W.heap[b]? = some (.stringIter s pos)) (hlt : pos < s.size) :
    ∃ W', (∀ ty, (Instr.next (.pointer (some ⟨b, 0, none⟩)) true ty).run P W = .ok (.tuple #[.bool true, .int .i64 pos, .int .i32 (Utf8.decode s pos).1]) W') ∧ W'.heap[b]? = some (.stringIter s (pos + (Utf8.decode s pos).2)) ∧ W.grownBy W' (some b) ∧ W'.heap.size = W.heap.size := by
  have hb : b < W.heap.size := (Array.getElem?_eq_some_iff.1 h).1
  refine ⟨{ W with heap := W.heap.setIfInBounds b (.stringIter s (pos + (Utf8.decode s pos).2)) }, fun ty => ?_, by simp [hb], ?_, by simp⟩
  · simp only [Instr.next, getObj, setObj, Sem.run_bind, Sem.run, h, Result.andThen, hlt, if_true]
    simp [goInt]
  · exact ⟨rfl, rfl, rfl, by simp, fun j hj hne => by
      have : b ≠ j := fun e => hne (by rw [e])
      simp [this]⟩
theorem next_end {P : Program} {W : World} {b pos : Nat} {s : ByteArray} (h : W.heap[b]? = some (.stringIter s pos)) (hlt : ¬ pos < s.size) (ty : TypeId) :
    (Instr.next (.pointer (some ⟨b, 0, none⟩)) true ty).run P W = .ok (.tuple #[.bool false]) W := by
  simp [Instr.next, getObj, Sem.run, h, hlt]

theorem wraps8 (n : Int) (h₀ : 0 ≤ n) (h₁ : n < 2 ^ 8) : IntKind.u8.wrap n = n := by rw [IntKind.wrap_u8]; omega
theorem or_lo (a b : Nat) (ha : a < 128) (hb : b < 128) : decide (128 ≤ bits .or .u8 (a : Int) (b : Int)) = false := by
  rw [(bits_nat .u8 8 (by decide) wraps8 a b (by omega) (by omega)).2]
  have : a ||| b < 2 ^ 7 := Nat.or_lt_two_pow (by omega) (by omega)
  simp; omega
theorem or_hi (a b : Nat) (ha : 128 ≤ a) (ha2 : a < 256) (hb : b < 128) : decide (128 ≤ bits .or .u8 (a : Int) (b : Int)) = true := by
  rw [(bits_nat .u8 8 (by decide) wraps8 a b (by omega) (by omega)).2]
  have : a ≤ a ||| b := Nat.left_le_or
  simp; omega
/-- style -/
def STY : ByteArray := ⟨#[115, 116, 121, 108, 101]⟩
def sb (k : Nat) : Nat := match k with | 0 => 115 | 1 => 116 | 2 => 121 | 3 => 108 | _ => 101
theorem sb_lt (k : Nat) : sb k < 128 := by unfold sb; split <;> omega
theorem idxS (k : Nat) (h : k < 5) (w : World) : (Instr.index 9 (.string ⟨#[115, 116, 121, 108, 101]⟩) (.int .i64 (k : Int))).run Tryf.prog w = .ok (.int .u8 ((sb k : Nat) : Int)) w := by
  rcases (by omega : k = 0 ∨ k = 1 ∨ k = 2 ∨ k = 3 ∨ k = 4) with rfl | rfl | rfl | rfl | rfl <;> kernel_rfl
theorem idxT (s : ByteArray) (i : Nat) (h : i < s.size) (w : World) : (Instr.index 9 (.string s) (.int .i64 (i : Int))).run Tryf.prog w = .ok (.int .u8 ((Dec.by_ s i : Nat) : Int)) w := by
  rw [Dec.by_at s i h]
  simp [go_sem, h]

/-- The rest of style from k on. -/
def sx (k : Nat) : ByteArray := (⟨#[115, 116, 121, 108, 101]⟩ : ByteArray).extract k 5
theorem sx_size (k : Nat) (h : k ≤ 5) : (sx k).size = 5 - k := by
  unfold sx
  rw [ByteArray.size_extract]
  show min 5 5 - k = 5 - k
  omega
theorem sx_next (k : Nat) (h : k < 5) : (sx k).extract 1 (sx k).size = sx (k + 1) := by
  rcases (by omega : k = 0 ∨ k = 1 ∨ k = 2 ∨ k = 3 ∨ k = 4) with rfl | rfl | rfl | rfl | rfl <;> kernel_rfl
theorem sx_next2 (k : Nat) (h : k < 5) : (sx k).extract 1 (5 - k) = sx (k + 1) := by rw [← sx_size k (by omega)]; exact sx_next k h
theorem dec14 (k : Nat) (h : k < 5) (w : World) : Calls Tryf.prog 14 #[.string (sx k)] w fun e w' => e = .returned (.tuple #[.int .i32 ((sb k : Nat) : Int), .int .i64 1]) ∧ w = w' := by
  rcases (by omega : k = 0 ∨ k = 1 ∨ k = 2 ∨ k = 3 ∨ k = 4) with rfl | rfl | rfl | rfl | rfl
  · exact (Tryf.utf8_DecodeRuneInString_ascii (sx 0) 115 w (by kernel_rfl) (by decide)).mono fun _ _ ⟨a, b⟩ => ⟨a, b.symm⟩
  · exact (Tryf.utf8_DecodeRuneInString_ascii (sx 1) 116 w (by kernel_rfl) (by decide)).mono fun _ _ ⟨a, b⟩ => ⟨a, b.symm⟩
  · exact (Tryf.utf8_DecodeRuneInString_ascii (sx 2) 121 w (by kernel_rfl) (by decide)).mono fun _ _ ⟨a, b⟩ => ⟨a, b.symm⟩
  · exact (Tryf.utf8_DecodeRuneInString_ascii (sx 3) 108 w (by kernel_rfl) (by decide)).mono fun _ _ ⟨a, b⟩ => ⟨a, b.symm⟩
  · exact (Tryf.utf8_DecodeRuneInString_ascii (sx 4) 101 w (by kernel_rfl) (by decide)).mono fun _ _ ⟨a, b⟩ => ⟨a, b.symm⟩
theorem by_ext (t : ByteArray) (j i : Nat) (h : j + i < t.size) : by_ (t.extract j t.size) i = by_ t (j + i) := by
  have hs : i < (t.extract j t.size).size := by rw [ByteArray.size_extract]; omega
  rw [by_at _ _ hs, by_at _ _ h]
  congr 1
  simp [ByteArray.getElem_extract]
/-- A rune that is not ASCII: from 128 on; 383 takes two bytes. -/
theorem dec_big (s : ByteArray) (i : Nat) (h : 128 ≤ by_ s i) : 128 ≤ (Utf8.decode s i).1 ∧ ((Utf8.decode s i).1 = 383 → (Utf8.decode s i).2 = 2) := by
  by_cases c2 : ok2 s i
  · rw [dec2 s i c2]; unfold ok2 at c2; refine ⟨by simp only; omega, fun _ => rfl⟩
  · by_cases c3 : ok3 s i
    · rw [dec3 s i c3]; unfold ok3 at c3; simp only; omega
    · by_cases c4 : ok4 s i
      · rw [dec4 s i c4]; unfold ok4 at c4; simp only; omega
      · rw [decBad s i h c2 c3 c4]; simp only; omega
/-- The loop over the runes: at pos of the text, k of style are taken. -/
structure Lp (w : World) (S : ByteArray) (j pos k : Nat) (wr : World) : Prop where
  le : pos ≤ S.size
  st : (pos = 0 ∧ k = j) ∨ (j = 0 ∧ 1 ≤ k ∧ k + 1 ≤ pos)
  it : wr.heap[w.heap.size]? = some (.stringIter S pos)
  bel : Below w.heap.size w wr
theorem Lp.step {w wr w2 : World} {S : ByteArray} {j pos k pos' k' : Nat} (h : Lp w S j pos k wr) (hg : wr.grownBy w2 (some w.heap.size)) (hle : pos' ≤ S.size) (hst : (pos' = 0 ∧ k' = j) ∨ (j = 0 ∧ 1 ≤ k' ∧ k' + 1 ≤ pos')) (hit : w2.heap[w.heap.size]? = some (.stringIter S pos')) : Lp w S j pos' k' w2 :=
  ⟨hle, hst, hit, h.bel.trans (grown_below hg (Nat.le_refl _) h.bel.size)⟩

def NoB (e : Ending) (w w' : World) : Prop := e = .returned (.bool false) ∧ Below w.heap.size w w'

set_option maxRecDepth 100000 in
set_option maxHeartbeats 16000000 in
theorem ef16n (t : ByteArray) (j : Nat) (w : World) (ht : t.size = 5) (hj : j < 5) (hlo : ∀ k, k < j → by_ t k < 128) (hhi : 128 ≤ by_ t j) (b0 off0 cc0 : Nat) (hF : FT w b0 off0 cc0) (h5 : 5 ≤ w.heap.size) (hbb : b0 < w.heap.size) :
    Calls Tryf.prog 16 #[.string t, .string ⟨#[115, 116, 121, 108, 101]⟩] w fun e w' => NoB e w w' := by
  have HT := Lib.hid ht
  have HLO := Lib.hid hlo
  have HHI := Lib.hid hhi
  have tm : min (t.size : Int) 5 = 5 := by omega
  have HF := Lib.hid hF
  clear hlo hhi ht hF
  go_enter Tryf.func16, Tryf.ntmps16
  go_wp2_with fail
  refine wp_scope_jumps 0 (fun a' w' => w' = w ∧ ∃ (u4 u6 u7 u8 u14 u15 u16 u17 u18 u19 u20 u21 u22 u23 u24 u25 u26 u27 u28 u29 u30 u31 u32 u33 u34 u35 u36 u37 u38 u39 u40 u41 u42 u43 u44 u45 u46 u47 u48 u49 u50 u51 u52 u53 u54 : Value), a' = { tmps := #[.string t, .string ⟨#[115, 116, 121, 108, 101]⟩, undef, undef, u4, .int .i64 (j : Int), u6, u7, u8, undef, undef, undef, undef, undef, u14, u15, u16, u17, u18, u19, u20, u21, u22, u23, u24, u25, u26, u27, u28, u29, u30, u31, u32, u33, u34, u35, u36, u37, u38, u39, u40, u41, u42, u43, u44, u45, u46, u47, u48, u49, u50, u51, u52, u53, u54, undef, undef, undef, undef, undef, undef, undef, undef, undef, undef, undef, undef, undef, undef, undef, undef, undef, undef, undef, undef, undef, undef, undef, undef, undef, undef, undef, undef, undef, undef, undef, undef, undef, undef, undef, undef, undef, undef, undef, undef, undef, undef, undef, undef, undef, undef, undef, undef, undef, undef, undef, undef, undef, undef, undef, undef, undef, undef, undef, undef, undef, undef, undef, undef, undef, undef, undef, undef], defers := [] }) (fun _ _ => 0) rfl ?_ ?_
  · go_wp2_with fail
    go_loop [5] (fun x5 => ∃ k : Nat, k ≤ j ∧ x5 = .int .i64 (k : Int)) (fun x5 => 5 - (intOf x5).toNat)
    case atStart => exact ⟨0, Nat.zero_le _, rfl⟩
    case round =>
      obtain ⟨k, hkj, rfl⟩ := hrel
      have x1 := fun W => idxT t k (by have := HT.out; omega) W
      have x2 := fun W => idxS k (by omega) W
      have hsb := sb_lt k
      have hby := Dec.by_lt t k
      by_cases hlt : k < j
      · have hlo := HLO.out k hlt
        have o1 := or_lo (by_ t k) (sb k) hlo hsb
        generalize by_ t k = a at x1 hlo o1 hby
        generalize sb k = b at x2 hsb o1
        go_wp2_with fail
        all_goals first
          | (go_round
             case rel => exact ⟨k + 1, by omega, by go_num⟩
             case measure => simp [intOf]; omega)
          | (simp only [Exit.jump]
             go_ret
             exact ⟨rfl, Below.refl _ _⟩)
      · obtain rfl : k = j := by omega
        have hhi := HHI.out
        have o1 := or_hi (by_ t k) (sb k) hhi hby hsb
        go_wp2_with fail
        go_step3
        exact ⟨rfl, rfl, _, _, _, _, _, _, _, _, _, _, _, _, _, _, _, _, _, _, _, _, _, _, _, _, _, _, _, _, _, _, _, _, _, _, _, _, _, _, _, _, _, _, _, _, _, rfl⟩
  · rintro a' w' ⟨hw, u4, u6, u7, u8, u14, u15, u16, u17, u18, u19, u20, u21, u22, u23, u24, u25, u26, u27, u28, u29, u30, u31, u32, u33, u34, u35, u36, u37, u38, u39, u40, u41, u42, u43, u44, u45, u46, u47, u48, u49, u50, u51, u52, u53, u54, rfl⟩
    rw [hw]
    clear hw
    go_wp2_with fail
    have hSs : (t.extract j t.size).size = 5 - j := by rw [ByteArray.size_extract]; have := HT.out; omega
    have hS0 := by_ext t j 0 (by have := HT.out; omega)
    rw [Nat.add_zero] at hS0
    have HS0 := Lib.hid (show 128 ≤ by_ (t.extract j t.size) 0 by rw [hS0]; exact HHI.out)
    have HIT0 := Lib.hid (World.iter_heap w (t.extract j t.size) 0)
    have hb0 : Below w.heap.size w (w.iter (t.extract j t.size) 0) := (Below.refl _ _).alloc (Nat.le_refl _) _
    have HB0 := Lib.hid hb0
    clear hS0 hb0
    generalize t.extract j t.size = S at *
    go_loopw [1] (fun x1 wr => ∃ pos k : Nat, x1 = .string (sx k) ∧ Lp w S j pos k wr) (fun _ wr => S.size - wr.iterPos w.heap.size)
    case atStart => exact ⟨0, j, rfl, Nat.zero_le _, .inl ⟨rfl, rfl⟩, HIT0.out, HB0.out⟩
    case round =>
      obtain ⟨pos, k, rfl, hlp⟩ := hrel
      have hle := hlp.le
      have hst := hlp.st
      have hk4 : k < 5 := by omega
      have hit := hlp.it
      have HLP := Lib.hid hlp
      have hsz := sx_size k (by omega)
      by_cases hlt : pos < S.size
      · obtain ⟨W', hnx, hit', hg', hsz'⟩ := next_at (P := Tryf.prog) hit hlt
        have HG := Lib.hid hg'
        have HIT := Lib.hid hit
        have HIT1 := Lib.hid hit'
        have HFT := Lib.hid (HF.out.later (hlp.bel.trans (grown_below hg' (Nat.le_refl _) hlp.bel.size)) h5 hbb)
        have H14 := Lib.hid (dec14 k hk4 W')
        have HNX := Lib.hid (sx_next2 k hk4)
        have HBL := Lib.hid (hlp.bel.trans (grown_below hg' (Nat.le_refl _) hlp.bel.size))
        have HBG := Lib.hid (fun h => dec_big S pos h)
        have HD1 := Lib.hid (fun h => dec1 S pos h)
        have HSP := Lib.hid (dec_span S pos hlt)
        have z0 : (((5 - k : Nat) : Int) == 0) = false := by simp; omega
        clear hit hit' hg' hsz' hlp
        generalize hR : (Utf8.decode S pos).1 = R at hnx
        have HR := Lib.hid hR
        clear hR
        by_cases hbg : 128 ≤ by_ S pos
        · have hR1 : 128 ≤ R := by rw [← HR.out]; exact (HBG.out hbg).1
          have HW2 := Lib.hid (show R = 383 → (Utf8.decode S pos).2 = 2 from fun h => (HBG.out hbg).2 (by rw [HR.out]; exact h))
          clear hbg
          rcases (by omega : k = 0 ∨ k = 1 ∨ k = 2 ∨ k = 3 ∨ k = 4) with rfl | rfl | rfl | rfl | rfl
          · skip
            have HD14 := Lib.hid (show Calls Tryf.prog 14 #[.string (sx 0)] W' fun e w' => e = .returned (.tuple #[.int .i32 115, .int .i64 1]) ∧ W' = w' from H14.out)
            have e0 : ((115 : Int) == (R : Int)) = false := by simp; omega
            have e3 : ((R : Int) == 115) = false := by simp; omega
            clear H14
            have HS115 := Lib.hid (sf115 W' HFT.out.a115)
            have HS383 := Lib.hid (sf383 W' b0 off0 cc0 HFT.out)
            have HS83 := Lib.hid (sf83 W' HFT.out.a83)
            go_wp2_with (first | (go_at_call 14; (with_reducible refine HD14.out.mono ?_); rintro e w4 ⟨rfl, rfl⟩) | (go_at_call 19; (with_reducible refine HS115.out.mono ?_); rintro e w5 ⟨rfl, rfl⟩) | (go_at_call 19; (with_reducible refine HS383.out.mono ?_); rintro e w5 ⟨rfl, rfl⟩) | (go_at_call 19; (with_reducible refine HS83.out.mono ?_); rintro e w5 ⟨rfl, rfl⟩))
            go_loop [13] (fun x13 => x13 = .int .i32 383 ∨ (383 < R ∧ x13 = .int .i32 83) ∨ (383 < R ∧ x13 = .int .i32 115)) (fun x13 => if intOf x13 = 383 then 2 else if intOf x13 = 83 then 1 else if intOf x13 = 115 then 0 else 0)
            case atStart => exact .inl rfl
            case round =>
              rcases hrel with rfl | ⟨hbig, rfl⟩ | ⟨hbig, rfl⟩
              all_goals go_wp2_with (first | (go_at_call 19; (with_reducible refine HS115.out.mono ?_); rintro e w5 ⟨rfl, rfl⟩) | (go_at_call 19; (with_reducible refine HS383.out.mono ?_); rintro e w5 ⟨rfl, rfl⟩) | (go_at_call 19; (with_reducible refine HS83.out.mono ?_); rintro e w5 ⟨rfl, rfl⟩))
              all_goals first
                | (simp only [Exit.jump]
                   go_ret
                   exact ⟨rfl, HBL.out⟩)
                | (go_round
                   case rel => first | exact .inr rfl | exact .inr (.inl ⟨by omega, rfl⟩) | exact .inr (.inr ⟨by omega, rfl⟩)
                   case measure => simp [intOf])
                | (have h383 : R = 383 := by (have hh : ((383 : Int) == (R : Int)) = true := by assumption); simp at hh; omega
                   have hw2 := HW2.out h383
                   go_roundw
                   case rel => exact ⟨pos + (Utf8.decode S pos).2, 0 + 1, congrArg Value.string HNX.out, HLP.out.step HG.out HSP.out.2.2 (.inr ⟨by omega, by omega, by omega⟩) HIT1.out⟩
                   case measure =>
                     have h1 := HIT.out
                     have h2 := HIT1.out
                     have h3 := HSP.out
                     simp only [World.iterPos, h2, h1]
                     omega)
          · skip
            have HD14 := Lib.hid (show Calls Tryf.prog 14 #[.string (sx 1)] W' fun e w' => e = .returned (.tuple #[.int .i32 116, .int .i64 1]) ∧ W' = w' from H14.out)
            have e0 : ((116 : Int) == (R : Int)) = false := by simp; omega
            have e3 : ((R : Int) == 116) = false := by simp; omega
            clear H14
            have HS116 := Lib.hid (sf116 W' HFT.out.a116)
            have HS84 := Lib.hid (sf84 W' HFT.out.a84)
            go_wp2_with (first | (go_at_call 14; (with_reducible refine HD14.out.mono ?_); rintro e w4 ⟨rfl, rfl⟩) | (go_at_call 19; (with_reducible refine HS116.out.mono ?_); rintro e w5 ⟨rfl, rfl⟩) | (go_at_call 19; (with_reducible refine HS84.out.mono ?_); rintro e w5 ⟨rfl, rfl⟩))
            go_loop [13] (fun x13 => x13 = .int .i32 84 ∨ x13 = .int .i32 116) (fun x13 => if intOf x13 = 84 then 1 else if intOf x13 = 116 then 0 else 0)
            case atStart => exact .inl rfl
            case round =>
              rcases hrel with rfl | rfl
              all_goals go_wp2_with (first | (go_at_call 19; (with_reducible refine HS116.out.mono ?_); rintro e w5 ⟨rfl, rfl⟩) | (go_at_call 19; (with_reducible refine HS84.out.mono ?_); rintro e w5 ⟨rfl, rfl⟩))
              all_goals first
                | (simp only [Exit.jump]
                   go_ret
                   exact ⟨rfl, HBL.out⟩)
                | (go_round
                   case rel => first | exact .inr rfl | exact .inr (.inl ⟨by omega, rfl⟩) | exact .inr (.inr ⟨by omega, rfl⟩)
                   case measure => simp [intOf])
                | (have h383 : R = 383 := by (have hh : ((383 : Int) == (R : Int)) = true := by assumption); simp at hh; omega
                   have hw2 := HW2.out h383
                   go_roundw
                   case rel => exact ⟨pos + (Utf8.decode S pos).2, 1 + 1, congrArg Value.string HNX.out, HLP.out.step HG.out HSP.out.2.2 (.inr ⟨by omega, by omega, by omega⟩) HIT1.out⟩
                   case measure =>
                     have h1 := HIT.out
                     have h2 := HIT1.out
                     have h3 := HSP.out
                     simp only [World.iterPos, h2, h1]
                     omega)
          · skip
            have HD14 := Lib.hid (show Calls Tryf.prog 14 #[.string (sx 2)] W' fun e w' => e = .returned (.tuple #[.int .i32 121, .int .i64 1]) ∧ W' = w' from H14.out)
            have e0 : ((121 : Int) == (R : Int)) = false := by simp; omega
            have e3 : ((R : Int) == 121) = false := by simp; omega
            clear H14
            have HS121 := Lib.hid (sf121 W' HFT.out.a121)
            have HS89 := Lib.hid (sf89 W' HFT.out.a89)
            go_wp2_with (first | (go_at_call 14; (with_reducible refine HD14.out.mono ?_); rintro e w4 ⟨rfl, rfl⟩) | (go_at_call 19; (with_reducible refine HS121.out.mono ?_); rintro e w5 ⟨rfl, rfl⟩) | (go_at_call 19; (with_reducible refine HS89.out.mono ?_); rintro e w5 ⟨rfl, rfl⟩))
            go_loop [13] (fun x13 => x13 = .int .i32 89 ∨ x13 = .int .i32 121) (fun x13 => if intOf x13 = 89 then 1 else if intOf x13 = 121 then 0 else 0)
            case atStart => exact .inl rfl
            case round =>
              rcases hrel with rfl | rfl
              all_goals go_wp2_with (first | (go_at_call 19; (with_reducible refine HS121.out.mono ?_); rintro e w5 ⟨rfl, rfl⟩) | (go_at_call 19; (with_reducible refine HS89.out.mono ?_); rintro e w5 ⟨rfl, rfl⟩))
              all_goals first
                | (simp only [Exit.jump]
                   go_ret
                   exact ⟨rfl, HBL.out⟩)
                | (go_round
                   case rel => first | exact .inr rfl | exact .inr (.inl ⟨by omega, rfl⟩) | exact .inr (.inr ⟨by omega, rfl⟩)
                   case measure => simp [intOf])
                | (have h383 : R = 383 := by (have hh : ((383 : Int) == (R : Int)) = true := by assumption); simp at hh; omega
                   have hw2 := HW2.out h383
                   go_roundw
                   case rel => exact ⟨pos + (Utf8.decode S pos).2, 2 + 1, congrArg Value.string HNX.out, HLP.out.step HG.out HSP.out.2.2 (.inr ⟨by omega, by omega, by omega⟩) HIT1.out⟩
                   case measure =>
                     have h1 := HIT.out
                     have h2 := HIT1.out
                     have h3 := HSP.out
                     simp only [World.iterPos, h2, h1]
                     omega)
          · skip
            have HD14 := Lib.hid (show Calls Tryf.prog 14 #[.string (sx 3)] W' fun e w' => e = .returned (.tuple #[.int .i32 108, .int .i64 1]) ∧ W' = w' from H14.out)
            have e0 : ((108 : Int) == (R : Int)) = false := by simp; omega
            have e3 : ((R : Int) == 108) = false := by simp; omega
            clear H14
            have HS108 := Lib.hid (sf108 W' HFT.out.a108)
            have HS76 := Lib.hid (sf76 W' HFT.out.a76)
            go_wp2_with (first | (go_at_call 14; (with_reducible refine HD14.out.mono ?_); rintro e w4 ⟨rfl, rfl⟩) | (go_at_call 19; (with_reducible refine HS108.out.mono ?_); rintro e w5 ⟨rfl, rfl⟩) | (go_at_call 19; (with_reducible refine HS76.out.mono ?_); rintro e w5 ⟨rfl, rfl⟩))
            go_loop [13] (fun x13 => x13 = .int .i32 76 ∨ x13 = .int .i32 108) (fun x13 => if intOf x13 = 76 then 1 else if intOf x13 = 108 then 0 else 0)
            case atStart => exact .inl rfl
            case round =>
              rcases hrel with rfl | rfl
              all_goals go_wp2_with (first | (go_at_call 19; (with_reducible refine HS108.out.mono ?_); rintro e w5 ⟨rfl, rfl⟩) | (go_at_call 19; (with_reducible refine HS76.out.mono ?_); rintro e w5 ⟨rfl, rfl⟩))
              all_goals first
                | (simp only [Exit.jump]
                   go_ret
                   exact ⟨rfl, HBL.out⟩)
                | (go_round
                   case rel => first | exact .inr rfl | exact .inr (.inl ⟨by omega, rfl⟩) | exact .inr (.inr ⟨by omega, rfl⟩)
                   case measure => simp [intOf])
                | (have h383 : R = 383 := by (have hh : ((383 : Int) == (R : Int)) = true := by assumption); simp at hh; omega
                   have hw2 := HW2.out h383
                   go_roundw
                   case rel => exact ⟨pos + (Utf8.decode S pos).2, 3 + 1, congrArg Value.string HNX.out, HLP.out.step HG.out HSP.out.2.2 (.inr ⟨by omega, by omega, by omega⟩) HIT1.out⟩
                   case measure =>
                     have h1 := HIT.out
                     have h2 := HIT1.out
                     have h3 := HSP.out
                     simp only [World.iterPos, h2, h1]
                     omega)
          · skip
            have HD14 := Lib.hid (show Calls Tryf.prog 14 #[.string (sx 4)] W' fun e w' => e = .returned (.tuple #[.int .i32 101, .int .i64 1]) ∧ W' = w' from H14.out)
            have e0 : ((101 : Int) == (R : Int)) = false := by simp; omega
            have e3 : ((R : Int) == 101) = false := by simp; omega
            clear H14
            have HS101 := Lib.hid (sf101 W' HFT.out.a101)
            have HS69 := Lib.hid (sf69 W' HFT.out.a69)
            go_wp2_with (first | (go_at_call 14; (with_reducible refine HD14.out.mono ?_); rintro e w4 ⟨rfl, rfl⟩) | (go_at_call 19; (with_reducible refine HS101.out.mono ?_); rintro e w5 ⟨rfl, rfl⟩) | (go_at_call 19; (with_reducible refine HS69.out.mono ?_); rintro e w5 ⟨rfl, rfl⟩))
            go_loop [13] (fun x13 => x13 = .int .i32 69 ∨ x13 = .int .i32 101) (fun x13 => if intOf x13 = 69 then 1 else if intOf x13 = 101 then 0 else 0)
            case atStart => exact .inl rfl
            case round =>
              rcases hrel with rfl | rfl
              all_goals go_wp2_with (first | (go_at_call 19; (with_reducible refine HS101.out.mono ?_); rintro e w5 ⟨rfl, rfl⟩) | (go_at_call 19; (with_reducible refine HS69.out.mono ?_); rintro e w5 ⟨rfl, rfl⟩))
              all_goals first
                | (simp only [Exit.jump]
                   go_ret
                   exact ⟨rfl, HBL.out⟩)
                | (go_round
                   case rel => first | exact .inr rfl | exact .inr (.inl ⟨by omega, rfl⟩) | exact .inr (.inr ⟨by omega, rfl⟩)
                   case measure => simp [intOf])
                | (have h383 : R = 383 := by (have hh : ((383 : Int) == (R : Int)) = true := by assumption); simp at hh; omega
                   have hw2 := HW2.out h383
                   go_roundw
                   case rel => exact ⟨pos + (Utf8.decode S pos).2, 4 + 1, congrArg Value.string HNX.out, HLP.out.step HG.out HSP.out.2.2 (.inr ⟨by omega, by omega, by omega⟩) HIT1.out⟩
                   case measure =>
                     have h1 := HIT.out
                     have h2 := HIT1.out
                     have h3 := HSP.out
                     simp only [World.iterPos, h2, h1]
                     omega)
        · have HDD := HD1.out (by omega)
          have hR7 : R < 128 := by rw [← HR.out, HDD]; simp only; omega
          have HW1 := Lib.hid (show (Utf8.decode S pos).2 = 1 by rw [HDD])
          have hsb := sb_lt k
          have hk1 : j = 0 ∧ 1 ≤ k ∧ k + 1 ≤ pos := by
            rcases hst with ⟨rfl, _⟩ | h
            · exact absurd HS0.out hbg
            · exact h
          have HK1 := Lib.hid hk1
          clear hst hk1 hbg HDD
          generalize sb k = c at H14 hsb
          go_wp2_with (go_at_call 14; (with_reducible refine H14.out.mono ?_); rintro e w4 ⟨rfl, rfl⟩)
          all_goals first
            | (simp only [Exit.jump]
               go_ret
               exact ⟨rfl, HBL.out⟩)
            | (go_roundw
               case rel => exact ⟨pos + (Utf8.decode S pos).2, k + 1, congrArg Value.string HNX.out, HLP.out.step HG.out HSP.out.2.2 (.inr ⟨HK1.out.1, by have := HK1.out; omega, by have := HK1.out; have := HW1.out; omega⟩) HIT1.out⟩
               case measure =>
                 have h1 := HIT.out
                 have h2 := HIT1.out
                 have h3 := HSP.out
                 simp only [World.iterPos, h2, h1]
                 omega)
      · have hnx : ∀ ty, (Instr.next (.pointer (some ⟨w.heap.size, 0, none⟩)) true ty).run Tryf.prog wr = .ok (.tuple #[.bool false]) wr := fun ty => next_end hit hlt ty
        have z0 : (((5 - k : Nat) : Int) == 0) = false := by simp; omega
        clear hit
        go_wp2_with fail
        simp only [Exit.jump]
        go_ret
        exact ⟨rfl, HLP.out.bel⟩
end Go.Proofs.YtmgkjkfhhdkkmaaFmt.Ef
