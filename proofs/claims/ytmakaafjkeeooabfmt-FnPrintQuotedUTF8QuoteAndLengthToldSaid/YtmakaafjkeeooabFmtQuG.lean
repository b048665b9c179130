/- FnPrintQuotedUTF8QuoteAndLength: printUnquotedUTF16, whole. -/
import Derived.Test.YtmakaafjkeeooabFmtRows
import Derived.Test.YtmakaafjkeeooabFmtMem
import Derived.Test.YtmakaafjkeeooabFmtSl
import Derived.Test.YtmakaafjkeeooabFmtQuF0
import Derived.Test.YtmakaafjkeeooabFmtQuF1
import Derived.Test.YtmakaafjkeeooabFmtQuF2
import Derived.Test.YtmakaafjkeeooabFmtQuF3
import Derived.Test.YtmakaafjkeeooabFmtQuH
import Derived.Deep.RegionLaw
import Derived.Deep.DeepCutAuto
import Derived.Deep.Cut
import Derived.Deep.CutBlock
import Derived.WalkKit
import Derived.ProofKit
import Derived.OpenShut
import Derived.Below
import Derived.WalkLawsBesides
import Derived.Lib.Hide
import Derived.Outline
import Derived.RegionTactic
import Derived.Deep.QuietTactic
import Derived.BigQuiet
import Derived.WalkSpells
import Derived.Deep.OwnRows
import Derived.IntWalk
import Derived.Deep.DeepMust
namespace Go.Proofs.YtmakaafjkeeooabFmt.QuG
open Go.RowKit Mem Sl
set_option linter.unusedVariables false
open Prn Pru Own Owg Dec Enc QuA QuC QuD QuE QuF0 QuF1 QuF2 QuF3 QuH

def FR3 (p : Nat) (A1 : Option Addr) (n1 c1 : Nat) (g : Nat → Value) : Array Value := #[.pointer (some ⟨p, 0, none⟩), g 1, g 2, g 3, g 4, g 5, g 6, g 7, g 8, .slice A1 n1 c1, g 10, g 11, g 12, g 13, g 14, g 15, g 16, g 17, g 18, g 19, g 20, g 21, g 22, g 23, g 24, g 25, g 26, g 27, g 28, g 29, g 30, g 31, g 32, g 33, g 34, g 35, g 36, g 37, g 38, g 39, g 40, g 41, g 42, g 43, g 44, g 45, g 46, g 47, g 48, g 49, g 50, g 51, g 52, g 53, g 54, g 55, g 56, g 57, g 58, g 59, g 60, g 61, g 62, g 63, g 64, g 65, g 66, g 67, g 68, g 69, g 70, g 71, g 72, g 73, g 74, g 75, g 76, g 77, g 78, g 79, g 80, g 81, g 82, g 83, g 84, g 85, g 86, g 87, g 88, g 89, g 90, g 91, g 92, g 93, g 94, g 95, g 96, g 97, g 98, g 99, g 100, g 101, g 102, g 103, g 104, g 105, g 106, g 107, g 108, g 109, g 110, g 111, g 112, g 113, g 114, g 115, g 116, g 117, g 118, g 119, g 120, g 121, g 122, g 123, g 124, g 125, g 126, g 127, g 128, g 129, g 130, g 131, g 132, g 133, g 134, g 135, g 136, g 137, g 138, g 139, g 140, g 141, g 142, g 143, g 144, g 145, g 146, g 147, g 148, g 149, g 150, g 151, g 152, g 153, g 154, g 155, g 156, g 157, g 158, g 159, g 160, g 161, g 162, g 163, g 164, g 165, g 166, g 167, g 168, g 169, g 170, g 171, g 172, g 173, g 174, g 175, g 176, g 177, g 178, g 179, g 180, g 181, g 182, g 183, g 184, g 185, g 186, g 187, g 188, g 189, g 190, g 191, g 192, g 193, g 194, g 195, g 196, g 197, g 198, g 199, g 200, g 201, g 202, g 203, g 204, g 205, g 206, g 207, g 208, g 209, g 210, g 211, g 212, g 213, g 214, g 215, g 216, g 217, g 218, g 219, g 220, g 221, g 222, g 223, g 224, g 225, g 226, g 227, g 228, g 229, g 230, g 231, g 232, g 233, g 234, g 235, g 236, g 237, g 238, g 239, g 240, g 241, g 242, g 243, g 244, g 245, g 246, g 247, g 248, g 249, g 250, g 251, g 252, g 253, g 254, g 255, g 256, g 257, g 258, g 259, g 260, g 261, g 262, g 263, g 264, g 265, g 266, g 267, g 268, g 269, g 270, g 271, g 272, g 273, g 274, g 275, g 276, g 277, g 278, g 279, g 280, g 281, g 282, g 283, g 284, g 285, g 286, g 287, g 288, g 289, g 290, g 291, g 292, g 293, g 294, g 295, g 296, g 297, g 298, g 299, g 300, g 301, g 302, g 303, g 304, g 305, g 306, g 307, g 308, g 309, g 310, g 311, g 312, g 313, g 314, g 315, g 316, g 317, g 318, g 319, g 320, g 321, g 322, g 323, g 324, g 325, g 326, g 327, g 328, g 329, g 330, g 331, g 332, g 333, g 334, g 335, g 336, g 337, g 338, g 339, g 340, g 341, g 342, g 343, g 344, g 345, g 346, g 347, g 348, g 349, g 350, g 351, g 352, g 353, g 354, g 355, g 356, g 357, g 358, g 359, g 360, g 361, g 362, g 363, g 364, g 365, g 366, g 367, g 368, g 369, g 370, g 371, g 372, g 373, g 374, g 375, g 376, g 377, g 378, g 379, g 380, g 381, g 382, g 383, g 384, g 385, g 386, g 387, g 388, g 389, g 390, g 391, g 392, g 393, g 394, g 395, g 396, g 397, g 398, g 399, g 400, g 401, g 402, g 403, g 404, g 405, g 406, g 407, g 408, g 409, g 410, g 411, g 412, g 413, g 414, g 415, g 416, g 417, g 418, g 419, g 420, g 421, g 422, g 423, g 424, g 425, g 426, g 427, g 428, g 429, g 430, g 431, g 432, g 433, g 434, g 435, g 436, g 437, g 438, g 439, g 440, g 441, g 442, g 443, g 444, g 445, g 446]
/-- Behind the loop. -/
def WX (W1 : World) (B0 ob T p n tot : Nat) (U Z0 : List Int) (a : Act) (wr : World) : Prop :=
  ∃ (A1 : Option Addr) (n1 c1 : Nat), a.defers = [] ∧ a.tmps.toList.length = 447 ∧ a.tmps.toList[0]? = some (.pointer (some ⟨p, 0, none⟩)) ∧ a.tmps.toList[9]? = some (.slice A1 n1 c1) ∧ Iv W1 B0 ob T U Z0 tot n wr (.slice A1 n1 c1)
set_option maxRecDepth 100000 in
theorem wx_frame {W1 : World} {B0 ob T p n tot : Nat} {U Z0 : List Int} {a : Act} {wr : World} (h : WX W1 B0 ob T p n tot U Z0 a wr) :
    ∃ (A1 : Option Addr) (n1 c1 : Nat) (g : Nat → Value), a = ⟨FR3 p A1 n1 c1 g, []⟩ ∧ Iv W1 B0 ob T U Z0 tot n wr (.slice A1 n1 c1) := by
  obtain ⟨A1, n1, c1, h0, h1, k0, k9, h2⟩ := h
  obtain ⟨⟨l⟩, ds⟩ := a
  simp only at h0 h1 k0 k9
  subst h0
  have e := list_letters l 447 h1
  obtain ⟨g, hg⟩ : ∃ g : Nat → Value, g = fun i => l.getD i undef := ⟨_, rfl⟩
  rw [← hg] at e
  have gd : ∀ i v, l[i]? = some v → g i = v := fun i v hv => by rw [hg]; simp [List.getD, hv]
  refine ⟨A1, n1, c1, g, ?_, h2⟩
  have e2 : (List.range 447).map g = [g 0, g 1, g 2, g 3, g 4, g 5, g 6, g 7, g 8, g 9, g 10, g 11, g 12, g 13, g 14, g 15, g 16, g 17, g 18, g 19, g 20, g 21, g 22, g 23, g 24, g 25, g 26, g 27, g 28, g 29, g 30, g 31, g 32, g 33, g 34, g 35, g 36, g 37, g 38, g 39, g 40, g 41, g 42, g 43, g 44, g 45, g 46, g 47, g 48, g 49, g 50, g 51, g 52, g 53, g 54, g 55, g 56, g 57, g 58, g 59, g 60, g 61, g 62, g 63, g 64, g 65, g 66, g 67, g 68, g 69, g 70, g 71, g 72, g 73, g 74, g 75, g 76, g 77, g 78, g 79, g 80, g 81, g 82, g 83, g 84, g 85, g 86, g 87, g 88, g 89, g 90, g 91, g 92, g 93, g 94, g 95, g 96, g 97, g 98, g 99, g 100, g 101, g 102, g 103, g 104, g 105, g 106, g 107, g 108, g 109, g 110, g 111, g 112, g 113, g 114, g 115, g 116, g 117, g 118, g 119, g 120, g 121, g 122, g 123, g 124, g 125, g 126, g 127, g 128, g 129, g 130, g 131, g 132, g 133, g 134, g 135, g 136, g 137, g 138, g 139, g 140, g 141, g 142, g 143, g 144, g 145, g 146, g 147, g 148, g 149, g 150, g 151, g 152, g 153, g 154, g 155, g 156, g 157, g 158, g 159, g 160, g 161, g 162, g 163, g 164, g 165, g 166, g 167, g 168, g 169, g 170, g 171, g 172, g 173, g 174, g 175, g 176, g 177, g 178, g 179, g 180, g 181, g 182, g 183, g 184, g 185, g 186, g 187, g 188, g 189, g 190, g 191, g 192, g 193, g 194, g 195, g 196, g 197, g 198, g 199, g 200, g 201, g 202, g 203, g 204, g 205, g 206, g 207, g 208, g 209, g 210, g 211, g 212, g 213, g 214, g 215, g 216, g 217, g 218, g 219, g 220, g 221, g 222, g 223, g 224, g 225, g 226, g 227, g 228, g 229, g 230, g 231, g 232, g 233, g 234, g 235, g 236, g 237, g 238, g 239, g 240, g 241, g 242, g 243, g 244, g 245, g 246, g 247, g 248, g 249, g 250, g 251, g 252, g 253, g 254, g 255, g 256, g 257, g 258, g 259, g 260, g 261, g 262, g 263, g 264, g 265, g 266, g 267, g 268, g 269, g 270, g 271, g 272, g 273, g 274, g 275, g 276, g 277, g 278, g 279, g 280, g 281, g 282, g 283, g 284, g 285, g 286, g 287, g 288, g 289, g 290, g 291, g 292, g 293, g 294, g 295, g 296, g 297, g 298, g 299, g 300, g 301, g 302, g 303, g 304, g 305, g 306, g 307, g 308, g 309, g 310, g 311, g 312, g 313, g 314, g 315, g 316, g 317, g 318, g 319, g 320, g 321, g 322, g 323, g 324, g 325, g 326, g 327, g 328, g 329, g 330, g 331, g 332, g 333, g 334, g 335, g 336, g 337, g 338, g 339, g 340, g 341, g 342, g 343, g 344, g 345, g 346, g 347, g 348, g 349, g 350, g 351, g 352, g 353, g 354, g 355, g 356, g 357, g 358, g 359, g 360, g 361, g 362, g 363, g 364, g 365, g 366, g 367, g 368, g 369, g 370, g 371, g 372, g 373, g 374, g 375, g 376, g 377, g 378, g 379, g 380, g 381, g 382, g 383, g 384, g 385, g 386, g 387, g 388, g 389, g 390, g 391, g 392, g 393, g 394, g 395, g 396, g 397, g 398, g 399, g 400, g 401, g 402, g 403, g 404, g 405, g 406, g 407, g 408, g 409, g 410, g 411, g 412, g 413, g 414, g 415, g 416, g 417, g 418, g 419, g 420, g 421, g 422, g 423, g 424, g 425, g 426, g 427, g 428, g 429, g 430, g 431, g 432, g 433, g 434, g 435, g 436, g 437, g 438, g 439, g 440, g 441, g 442, g 443, g 444, g 445, g 446] := rfl
  rw [e, e2]
  unfold FR3
  rw [gd 0 _ k0, gd 9 _ k9]

set_option maxRecDepth 100000 in
set_option maxHeartbeats 4000000 in
theorem lend (W1 wr : World) (B0 ob T p d n cap k tot : Nat) (q f : Int) (A1 : Option Addr) (n1 c1 : Nat) (U Z0 : List Int) (g : Nat → Value) (Q0 : Exit → Act → World → Prop) (R : Act → World → Prop)
    (hlt : ¬ k < n) (hiv : Hid (Iv W1 B0 ob T U Z0 tot n wr (.slice A1 n1 c1))) (hexit : ∀ a' w'', WX W1 B0 ob T p n tot U Z0 a' w'' → Q0 (.exit 0) a' w'') :
    Code.wp Tryf.prog body (Exit.then R Q0) ⟨FR p d n cap T k q f A1 n1 c1 g, []⟩ wr := by
  have tlt : decide ((k : Int) < (n : Int)) = false := by simp; omega
  conv => arg 2; whnf
  unfold FR
  go_wp2_with fail
  exact ⟨A1, n1, c1, rfl, rfl, rfl, rfl, hiv.out⟩

set_option maxHeartbeats 4000000 in
theorem round {W1 : World} {B0 ob T p d n cap tot : Nat} {q f : Int} {U Z0 : List Int} {cs : List Value} {cur : Array Value} {Q0 : Exit → Act → World → Prop}
    (hrow : Row W1 p 79 cs) (h24 : cs[24]? = some (.int .u64 0)) (h31 : cs[31]? = some (.bool false)) (hcur : W1.heap[d]? = some (.cells cur 87 (0, 0))) (hcc : ∀ i, i < n → cur[i]? = some (.int .u16 (U.getD i 0))) (hnU : U.length = n) (hcap2 : n ≤ cap) (hcap : cap ≤ 9223372036854775807) (hn : n ≤ 1048576) (htot : tot ≤ 1048576) (hZ : Z0.length ≤ 2000000)
    (hwf : ∀ i, i < n → 0 ≤ U.getD i 0 ∧ U.getD i 0 ≤ 65535) (hexit : ∀ a' w'', WX W1 B0 ob T p n tot U Z0 a' w'' → Q0 (.exit 0) a' w'') (a : Act) (wr : World) (hI : WI W1 B0 ob T p d n cap tot q f U Z0 a wr) :
    Code.wp Tryf.prog body (Exit.then (RP W1 B0 ob T p d n cap tot q f U Z0 a) Q0) a wr := by
  obtain ⟨k, A1, n1, c1, g, rfl, hk, hiv⟩ := wi_frame hI
  by_cases hlt : k < n
  case neg =>
    obtain rfl : k = n := by omega
    exact lend W1 wr B0 ob T p d k cap k tot q f A1 n1 c1 U Z0 g Q0 _ hlt (Lib.hid hiv) hexit
  obtain ⟨m, M, he, hl1, hl2, hp⟩ := hiv
  have HP := Lib.hid hp
  have HL1 := Lib.hid hl1
  have HL2 := Lib.hid hl2
  have HLN := Lib.hid (show (Z0 ++ M).length ≤ 8000000 by rw [List.length_append]; omega)
  have hcw : wr.heap[d]? = some (.cells cur 87 (0, 0)) := hp.keep d cur 87 (by decide) hcur
  have hcell : ∀ i, i < n → wr.cell? ⟨d, i, none⟩ = some (.int .u16 (U.getD i 0)) := fun i hi => by rw [cell_of_row wr d i cur 87 (0, 0) hcw]; exact hcc i hi
  have HCEL := Lib.hid hcell
  have HWF := Lib.hid hwf
  have hrr := hp.row hrow (by decide)
  have e24 := hrr.at_ h24
  have e31 := hrr.at_ h31
  have d0 := hcell k hlt
  rcases he.head (by omega) with ⟨kk, m', hm, hone, he'⟩ | ⟨m', hm, hk2, hc0, hc1, hc2, hc3, he'⟩
  · have HE := Lib.hid he'
    unfold Enc.One at hone
    obtain ⟨z0, z1, z2, z3, h128, h2048, z4, h3⟩ := hone
    generalize hcc' : U.getD k 0 = c at d0 z0 z1 z2 h128 h2048 h3
    by_cases x0 : c = 0
    · subst x0
      have hm1 : m = 1 + m' := by rw [hm, h128 (by omega)]
      by_cases h2 : k + 1 < n
      · by_cases e1 : 48 ≤ U.getD (k + 1) 0
        · by_cases e2 : U.getD (k + 1) 0 ≤ 57
          · exact l0a W1 wr B0 ob T p d n cap k tot m m' q f A1 n1 c1 U Z0 M g Q0 h2 e1 e2 HP HE (Lib.hid hm1) HL1 HL2 HLN hlt hcap2 hcap hn d0 HCEL e24 e31
          · exact l0b W1 wr B0 ob T p d n cap k tot m m' q f A1 n1 c1 U Z0 M g Q0 h2 e1 (by omega) HP HE (Lib.hid hm1) HL1 HL2 HLN hlt hcap2 hcap hn d0 HCEL e24 e31
        · exact l0c W1 wr B0 ob T p d n cap k tot m m' q f A1 n1 c1 U Z0 M g Q0 h2 (by omega) HP HE (Lib.hid hm1) HL1 HL2 HLN hlt hcap2 hcap hn d0 HCEL e24 e31
      · exact l0d W1 wr B0 ob T p d n cap k tot m m' q f A1 n1 c1 U Z0 M g Q0 h2 HP HE (Lib.hid hm1) HL1 HL2 HLN hlt hcap2 hcap hn d0 HCEL e24 e31
    by_cases x7 : c = 7
    · subst x7
      have hm1 : m = 1 + m' := by rw [hm, h128 (by omega)]
      exact l7 W1 wr B0 ob T p d n cap k tot m m' q f A1 n1 c1 U Z0 M g Q0 HP HE (Lib.hid hm1) HL1 HL2 HLN hlt hcap2 hcap hn d0 HCEL e24 e31
    by_cases x8 : c = 8
    · subst x8
      have hm1 : m = 1 + m' := by rw [hm, h128 (by omega)]
      exact l8 W1 wr B0 ob T p d n cap k tot m m' q f A1 n1 c1 U Z0 M g Q0 HP HE (Lib.hid hm1) HL1 HL2 HLN hlt hcap2 hcap hn d0 HCEL e24 e31
    by_cases x12 : c = 12
    · subst x12
      have hm1 : m = 1 + m' := by rw [hm, h128 (by omega)]
      exact l12 W1 wr B0 ob T p d n cap k tot m m' q f A1 n1 c1 U Z0 M g Q0 HP HE (Lib.hid hm1) HL1 HL2 HLN hlt hcap2 hcap hn d0 HCEL e24 e31
    by_cases x10 : c = 10
    · subst x10
      have hm1 : m = 1 + m' := by rw [hm, h128 (by omega)]
      by_cases hq : q = 96
      · exact l10a W1 wr B0 ob T p d n cap k tot m m' q f A1 n1 c1 U Z0 M g Q0 (by simp [hq]) HP HE (Lib.hid hm1) HL1 HL2 HLN hlt hcap2 hcap hn d0 HCEL e24 e31
      · exact l10b W1 wr B0 ob T p d n cap k tot m m' q f A1 n1 c1 U Z0 M g Q0 (by simp [hq]) HP HE (Lib.hid hm1) HL1 HL2 HLN hlt hcap2 hcap hn d0 HCEL e24 e31
    by_cases x13 : c = 13
    · subst x13
      have hm1 : m = 1 + m' := by rw [hm, h128 (by omega)]
      exact l13 W1 wr B0 ob T p d n cap k tot m m' q f A1 n1 c1 U Z0 M g Q0 HP HE (Lib.hid hm1) HL1 HL2 HLN hlt hcap2 hcap hn d0 HCEL e24 e31
    by_cases x11 : c = 11
    · subst x11
      have hm1 : m = 1 + m' := by rw [hm, h128 (by omega)]
      exact l11 W1 wr B0 ob T p d n cap k tot m m' q f A1 n1 c1 U Z0 M g Q0 HP HE (Lib.hid hm1) HL1 HL2 HLN hlt hcap2 hcap hn d0 HCEL e24 e31
    by_cases x27 : c = 27
    · subst x27
      have hm1 : m = 1 + m' := by rw [hm, h128 (by omega)]
      exact l27 W1 wr B0 ob T p d n cap k tot m m' q f A1 n1 c1 U Z0 M g Q0 HP HE (Lib.hid hm1) HL1 HL2 HLN hlt hcap2 hcap hn d0 HCEL e24 e31
    by_cases x92 : c = 92
    · subst x92
      have hm1 : m = 1 + m' := by rw [hm, h128 (by omega)]
      exact l92 W1 wr B0 ob T p d n cap k tot m m' q f A1 n1 c1 U Z0 M g Q0 HP HE (Lib.hid hm1) HL1 HL2 HLN hlt hcap2 hcap hn d0 HCEL e24 e31
    by_cases x47 : c = 47
    · subst x47
      have hm1 : m = 1 + m' := by rw [hm, h128 (by omega)]
      by_cases h1 : k < 1
      · exact l47a W1 wr B0 ob T p d n cap k tot m m' q f A1 n1 c1 U Z0 M g Q0 h1 HP HE (Lib.hid hm1) HL1 HL2 HLN hlt hcap2 hcap hn d0 HCEL e24 e31
      · by_cases h60 : U.getD (k - 1) 0 = 60
        · by_cases h7 : k + 7 ≤ n
          · exact l47d W1 wr B0 ob T p d n cap k tot m m' q f A1 n1 c1 U Z0 M g Q0 (by omega) (by simp only [h60]; rfl) h7 HWF HP HE (Lib.hid hm1) HL1 HL2 HLN hlt hcap2 hcap hn d0 HCEL e24 e31
          · exact l47c W1 wr B0 ob T p d n cap k tot m m' q f A1 n1 c1 U Z0 M g Q0 (by omega) (by simp only [h60]; rfl) (by omega) HP HE (Lib.hid hm1) HL1 HL2 HLN hlt hcap2 hcap hn d0 HCEL e24 e31
        · exact l47b W1 wr B0 ob T p d n cap k tot m m' q f A1 n1 c1 U Z0 M g Q0 (by omega) (by simp only [beq_eq_false_iff_ne]; exact h60) HP HE (Lib.hid hm1) HL1 HL2 HLN hlt hcap2 hcap hn d0 HCEL e24 e31
    by_cases x39 : c = 39
    · subst x39
      have hm1 : m = 1 + m' := by rw [hm, h128 (by omega)]
      by_cases hq : q = 39
      · exact l39a W1 wr B0 ob T p d n cap k tot m m' q f A1 n1 c1 U Z0 M g Q0 (by simp [hq]) HP HE (Lib.hid hm1) HL1 HL2 HLN hlt hcap2 hcap hn d0 HCEL e24 e31
      · exact l39b W1 wr B0 ob T p d n cap k tot m m' q f A1 n1 c1 U Z0 M g Q0 (by simp [hq]) HP HE (Lib.hid hm1) HL1 HL2 HLN hlt hcap2 hcap hn d0 HCEL e24 e31
    by_cases x34 : c = 34
    · subst x34
      have hm1 : m = 1 + m' := by rw [hm, h128 (by omega)]
      by_cases hq : q = 34
      · exact l34a W1 wr B0 ob T p d n cap k tot m m' q f A1 n1 c1 U Z0 M g Q0 (by simp [hq]) HP HE (Lib.hid hm1) HL1 HL2 HLN hlt hcap2 hcap hn d0 HCEL e24 e31
      · exact l34b W1 wr B0 ob T p d n cap k tot m m' q f A1 n1 c1 U Z0 M g Q0 (by simp [hq]) HP HE (Lib.hid hm1) HL1 HL2 HLN hlt hcap2 hcap hn d0 HCEL e24 e31
    by_cases x96 : c = 96
    · subst x96
      have hm1 : m = 1 + m' := by rw [hm, h128 (by omega)]
      by_cases hq : q = 96
      · exact l96a W1 wr B0 ob T p d n cap k tot m m' q f A1 n1 c1 U Z0 M g Q0 (by simp [hq]) HP HE (Lib.hid hm1) HL1 HL2 HLN hlt hcap2 hcap hn d0 HCEL e24 e31
      · exact l96b W1 wr B0 ob T p d n cap k tot m m' q f A1 n1 c1 U Z0 M g Q0 (by simp [hq]) HP HE (Lib.hid hm1) HL1 HL2 HLN hlt hcap2 hcap hn d0 HCEL e24 e31
    by_cases x36 : c = 36
    · subst x36
      have hm1 : m = 1 + m' := by rw [hm, h128 (by omega)]
      by_cases hq : q = 96
      · by_cases h2 : k + 1 < n
        · by_cases e1 : U.getD (k + 1) 0 = 123
          · exact l36a W1 wr B0 ob T p d n cap k tot m m' q f A1 n1 c1 U Z0 M g Q0 (by simp [hq]) h2 (by simp only [e1]; rfl) HP HE (Lib.hid hm1) HL1 HL2 HLN hlt hcap2 hcap hn d0 HCEL e24 e31
          · exact l36b W1 wr B0 ob T p d n cap k tot m m' q f A1 n1 c1 U Z0 M g Q0 (by simp [hq]) h2 (by simp only [beq_eq_false_iff_ne]; exact e1) HP HE (Lib.hid hm1) HL1 HL2 HLN hlt hcap2 hcap hn d0 HCEL e24 e31
        · exact l36c W1 wr B0 ob T p d n cap k tot m m' q f A1 n1 c1 U Z0 M g Q0 (by simp [hq]) h2 HP HE (Lib.hid hm1) HL1 HL2 HLN hlt hcap2 hcap hn d0 HCEL e24 e31
      · exact l36d W1 wr B0 ob T p d n cap k tot m m' q f A1 n1 c1 U Z0 M g Q0 (by simp [hq]) HP HE (Lib.hid hm1) HL1 HL2 HLN hlt hcap2 hcap hn d0 HCEL e24 e31
    by_cases x8232 : c = 8232
    · subst x8232
      have hm1 : m = 3 + m' := by rw [hm, h3 (by omega)]
      exact l8232 W1 wr B0 ob T p d n cap k tot m m' q f A1 n1 c1 U Z0 M g Q0 HP HE (Lib.hid hm1) HL1 HL2 HLN hlt hcap2 hcap hn d0 HCEL e24 e31
    by_cases x8233 : c = 8233
    · subst x8233
      have hm1 : m = 3 + m' := by rw [hm, h3 (by omega)]
      exact l8233 W1 wr B0 ob T p d n cap k tot m m' q f A1 n1 c1 U Z0 M g Q0 HP HE (Lib.hid hm1) HL1 HL2 HLN hlt hcap2 hcap hn d0 HCEL e24 e31
    by_cases x65279 : c = 65279
    · subst x65279
      have hm1 : m = 3 + m' := by rw [hm, h3 (by omega)]
      exact l65279 W1 wr B0 ob T p d n cap k tot m m' q f A1 n1 c1 U Z0 M g Q0 HP HE (Lib.hid hm1) HL1 HL2 HLN hlt hcap2 hcap hn d0 HCEL e24 e31
    by_cases y1 : c ≤ 126
    · have hm1 : m = 1 + m' := by rw [hm, h128 (by omega)]
      exact lasc W1 wr B0 ob T p d n cap k tot m m' q f A1 n1 c1 U Z0 M g Q0 c ⟨x0, x7, x8, x12, x10, x13, x11, x27, x92, x47, x39, x34, x96, x36, x8232, x8233, x65279⟩ z0 y1 HP HE (Lib.hid hm1) HL1 HL2 HLN hlt hcap2 hcap hn d0 HCEL e24 e31
    by_cases y2 : c ≤ 127
    · have hm1 : m = 1 + m' := by rw [hm, h128 (by omega)]
      exact le1 W1 wr B0 ob T p d n cap k tot m m' q f A1 n1 c1 U Z0 M g Q0 c ⟨x0, x7, x8, x12, x10, x13, x11, x27, x92, x47, x39, x34, x96, x36, x8232, x8233, x65279⟩ (by omega) y2 HP HE (Lib.hid hm1) HL1 HL2 HLN hlt hcap2 hcap hn d0 HCEL e24 e31
    by_cases y3 : c ≤ 2047
    · exact le2 W1 wr B0 ob T p d n cap k tot m m' q f A1 n1 c1 U Z0 M g Q0 c ⟨x0, x7, x8, x12, x10, x13, x11, x27, x92, x47, x39, x34, x96, x36, x8232, x8233, x65279⟩ (by omega) y3 kk z3 (h2048 (by omega)) HP HE (Lib.hid hm) HL1 HL2 HLN hlt hcap2 hcap hn d0 HCEL e24 e31
    by_cases y4 : c ≤ 55295
    · exact le3 W1 wr B0 ob T p d n cap k tot m m' q f A1 n1 c1 U Z0 M g Q0 c ⟨x0, x7, x8, x12, x10, x13, x11, x27, x92, x47, x39, x34, x96, x36, x8232, x8233, x65279⟩ (by omega) y4 kk z3 z4 HP HE (Lib.hid hm) HL1 HL2 HLN hlt hcap2 hcap hn d0 HCEL e24 e31
    · exact le4 W1 wr B0 ob T p d n cap k tot m m' q f A1 n1 c1 U Z0 M g Q0 c ⟨x0, x7, x8, x12, x10, x13, x11, x27, x92, x47, x39, x34, x96, x36, x8232, x8233, x65279⟩ (by omega) z1 kk z3 z4 HP HE (Lib.hid hm) HL1 HL2 HLN hlt hcap2 hcap hn d0 HCEL e24 e31
  · have HE := Lib.hid he'
    have hne : ∀ L : Int, L < 55296 ∨ 56319 < L → U.getD k 0 ≠ L := fun L hL => by omega
    exact lpair W1 wr B0 ob T p d n cap k tot m m' q f A1 n1 c1 U Z0 M g Q0 (U.getD k 0) (U.getD (k + 1) 0) ⟨hne _ (by omega), hne _ (by omega), hne _ (by omega), hne _ (by omega), hne _ (by omega), hne _ (by omega), hne _ (by omega), hne _ (by omega), hne _ (by omega), hne _ (by omega), hne _ (by omega), hne _ (by omega), hne _ (by omega), hne _ (by omega), hne _ (by omega), hne _ (by omega), hne _ (by omega)⟩ (by omega) hc0 hc1 hc2 hc3 (hcell (k + 1) (by omega)) HP HE (Lib.hid hm) HL1 HL2 HLN hlt hcap2 hcap hn d0 HCEL e24 e31

/-- The text's units in memory. -/
def Txt2 (w : World) (d n c : Nat) (U : List Int) : Prop := U.length = n ∧ n ≤ c ∧ c ≤ maxLen ∧ ∃ cur, w.heap[d]? = some (.cells cur 87 (0, 0)) ∧ ∀ i, i < n → cur[i]? = some (.int .u16 (U.getD i 0))
theorem txt2_of_own {w : World} {B d n c : Nat} {U : List Int} (h : Own w B 87 .u16 (.slice (some ⟨d, 0, none⟩) n c) U) (hn : U.length = n) : Txt2 w d n c U := by
  subst hn
  rcases h.2 with ⟨h0, h1⟩ | ⟨g, cap, cur, h0, hb, hh, hnc, hcm, hcs, htk⟩
  · cases h0
  · injection h0 with e1 e2 e3
    injection e1 with e1
    injection e1 with e1
    subst e1 e3
    refine ⟨rfl, hnc, hcm, cur, hh, fun i hi => ?_⟩
    have h1 : (cur.toList.take (U.length * 1))[i]? = (iv .u16 U)[i]? := by rw [htk]
    rw [iv_at .u16 U i hi, List.getElem?_take, if_pos (by omega)] at h1
    simpa using h1
set_option maxRecDepth 100000 in
set_option maxHeartbeats 16000000 in
theorem unq16 (q f : Int) (p d B0 n cap tot : Nat) (U Z0 : List Int) (cs : List Value) (v : Value) (w : World) (h : Pr w p 79 9 5 cs v Z0) (hlow : ∀ g, v.ownBlock = some g → B0 ≤ g) (hpB : B0 ≤ p) (hB : B0 ≤ w.heap.size)
    (h24 : cs[24]? = some (.int .u64 0)) (h26 : cs[26]? = some (.int .i64 0)) (h31 : cs[31]? = some (.bool false)) (hU : Txt2 w d n cap U) (hE : Enc.Enc U tot) (htot : tot ≤ 1048576) (hZ : Z0.length ≤ 2000000) :
    Calls Tryf.prog 16 #[.pointer (some ⟨p, 0, none⟩), .slice (some ⟨d, 0, none⟩) n cap, .int .i32 q, .int .u8 f] w (Unq w B0 p cs v Z0 tot) := by
  obtain ⟨A0, cc0, rfl⟩ := h.buf.form
  obtain ⟨ob, ha0⟩ : ∃ a, a = (Value.slice A0 Z0.length cc0).ownBlock.getD w.heap.size := ⟨_, rfl⟩
  have hmk := fun W => run_make_row' (P := Tryf.prog) 22 5 (.int .u8 0) 1 Tryf.underlying22 info5 rfl .i64 .i64 4 (by omega) (by omega) W
  obtain ⟨hnU, hcap2, hcapm, cur, hcur, hcc⟩ := hU
  have hnl : n ≤ tot := by rw [← hnU]; exact hE.len
  have hcap : cap ≤ 9223372036854775807 := by unfold maxLen at hcapm; omega
  have hwf : ∀ i, i < n → 0 ≤ U.getD i 0 ∧ U.getD i 0 ≤ 65535 := fun i hi => by
    have hl : i < U.length := by omega
    have h9 := hE.wf U[i] (List.getElem_mem hl)
    simpa [List.getD, hl] using h9
  obtain ⟨W1, hW1⟩ : ∃ W, W = w.alloc (.cells (madeCells #[.int .u8 0] 4) 5) := ⟨_, rfl⟩
  have HP0 := Lib.hid (pu0 h hlow hB hW1)
  rw [← ha0] at HP0
  have HA0 := Lib.hid ha0
  have HWS := Lib.hid (show w.heap.size ≤ W1.heap.size by rw [hW1]; simp)
  have HWK := Lib.hid (show ∀ g, g < w.heap.size → W1.heap[g]? = w.heap[g]? from fun g hg => by rw [hW1]; exact Below.heap_alloc _ _ g hg)
  have hb1 : Below w.heap.size w W1 := by rw [hW1]; exact (Below.refl _ _).alloc (Nat.le_refl _) _
  have HRP := Lib.hid (h.row.below hb1 h.row.lt)
  have H9 := Lib.hid h.at_
  have HCU := Lib.hid ((hb1.block d (Array.getElem?_eq_some_iff.1 hcur).1).trans hcur)
  have HCC := Lib.hid hcc
  have HWF := Lib.hid hwf
  have HEN := Lib.hid hE
  have H24 := Lib.hid h24
  have H31 := Lib.hid h31
  have HBB := Lib.hid (hb1.mono hB)
  have a9 := HRP.out.at_ H9.out
  have a26 := HRP.out.at_ h26
  have HNU := Lib.hid hnU
  generalize hz0n : Z0.length = z0n at a9 HP0 H9 HA0
  have HZN := Lib.hid (show Z0.length ≤ 2000000 from hZ)
  have hmk2 := hmk w
  rw [show ((4 : Nat) : Int) = 4 from rfl] at hmk2
  clear h ha0 hcur hcc hwf hE hb1 hB h24 h26 h31 hlow hz0n hnU hmk hZ
  go_enter Tryf.func16, Tryf.ntmps16
  go_upto_region 1 with fail
  rw [← hW1]
  clear hW1 hmk2
  go_wp2_with fail
  clear a9 a26
  refine wp_loop (WI W1 B0 ob w.heap.size p d n cap tot q f U Z0) (fun a _ => Wmu n a) ?_ (fun a wr hI => round HRP.out H24.out H31.out HCU.out HCC.out HNU.out hcap2 hcap (by omega) htot HZN.out HWF.out ?_ a wr hI)
  · exact ⟨0, A0, z0n, cc0, rfl, rfl, rfl, rfl, rfl, rfl, rfl, rfl, rfl, rfl, rfl, Nat.zero_le _, tot, [], by simpa using HEN.out, by simp, by simp, by rw [List.append_nil]; exact HP0.out⟩
  · intro a' w'' hX
    obtain ⟨A2, n2, c2, g2, rfl, hiv⟩ := wx_frame hX
    have HFIN := Lib.hid (unq_end (v0 := .slice A0 z0n cc0) (by rw [HNU.out]; exact hiv) HRP.out H9.out hpB HBB.out HA0.out HWK.out HWS.out)
    obtain ⟨_, _, _, _, _, hpu⟩ := hiv
    have hrr := hpu.row HRP.out (by decide)
    have e9 := hrr.at_ H9.out
    have g9 := hrr.frozen 9
    clear hpu hrr hX
    unfold FR3
    go_wp2_with fail
    go_end0
    exact HFIN.out
end Go.Proofs.YtmakaafjkeeooabFmt.QuG
