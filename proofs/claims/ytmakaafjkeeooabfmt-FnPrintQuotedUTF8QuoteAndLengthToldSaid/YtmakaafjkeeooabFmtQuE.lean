/- FnPrintQuotedUTF8QuoteAndLength: the loop of printUnquotedUTF16. -/
import Derived.Test.YtmakaafjkeeooabFmtRows
import Derived.Test.YtmakaafjkeeooabFmtMem
import Derived.Test.YtmakaafjkeeooabFmtSl
import Derived.Test.YtmakaafjkeeooabFmtQuD
import Derived.Deep.RegionLaw
import Derived.Deep.DeepCutAuto
import Derived.Deep.Cut
import Derived.Deep.CutBlock
import Derived.WalkKit
import Derived.ProofKit
import Derived.OpenShut
import Derived.Below
import Derived.WalkLawsBesides
import Derived.Lib.Hide
import Derived.Outline
import Derived.RegionTactic
import Derived.Deep.QuietTactic
import Derived.BigQuiet
import Derived.WalkSpells
import Derived.Deep.OwnRows
import Derived.IntWalk
import Derived.Deep.DeepMust
namespace Go.Proofs.YtmakaafjkeeooabFmt.QuE
open Go.RowKit Mem Sl
set_option linter.unusedVariables false
open Prn Pru Own Owg Dec Enc QuA QuC QuD

def firstLoop : Code → Option Code
  | .loop c => some c
  | .seq a b => match firstLoop a with
    | some c => some c
    | none => firstLoop b
  | .block _ c => firstLoop c
  | .scope c => firstLoop c
  | .cond _ a b => match firstLoop a with
    | some c => some c
    | none => firstLoop b
  | _ => none
/-- The loop's body, out of the program. -/
noncomputable def body : Code := (Tryf.f16.body.bind firstLoop).getD .skip
/-- The frame at the loop's head. -/
def FR (p d n cap T k : Nat) (q f : Int) (A1 : Option Addr) (n1 c1 : Nat) (g : Nat → Value) : Array Value := #[.pointer (some ⟨p, 0, none⟩), .slice (some ⟨d, 0, none⟩) n cap, .int .i32 q, .int .u8 f, g 4, g 5, g 6, g 7, .slice (some ⟨T, 0, none⟩) 4 4, .slice A1 n1 c1, .int .i64 (k : Int), .int .i64 (n : Int), g 12, .bool false, g 14, g 15, g 16, g 17, g 18, g 19, g 20, g 21, g 22, g 23, g 24, g 25, g 26, g 27, g 28, g 29, g 30, g 31, g 32, g 33, g 34, g 35, g 36, g 37, g 38, g 39, g 40, g 41, g 42, g 43, g 44, g 45, g 46, g 47, g 48, g 49, g 50, g 51, g 52, g 53, g 54, g 55, g 56, g 57, g 58, g 59, g 60, g 61, g 62, g 63, g 64, g 65, g 66, g 67, g 68, g 69, g 70, g 71, g 72, g 73, g 74, g 75, g 76, g 77, g 78, g 79, g 80, g 81, g 82, g 83, g 84, g 85, g 86, g 87, g 88, g 89, g 90, g 91, g 92, g 93, g 94, g 95, g 96, g 97, g 98, g 99, g 100, g 101, g 102, g 103, g 104, g 105, g 106, g 107, g 108, g 109, g 110, g 111, g 112, g 113, g 114, g 115, g 116, g 117, g 118, g 119, g 120, g 121, g 122, g 123, g 124, g 125, g 126, g 127, g 128, g 129, g 130, g 131, g 132, g 133, g 134, g 135, g 136, g 137, g 138, g 139, g 140, g 141, g 142, g 143, g 144, g 145, g 146, g 147, g 148, g 149, g 150, g 151, g 152, g 153, g 154, g 155, g 156, g 157, g 158, g 159, g 160, g 161, g 162, g 163, g 164, g 165, g 166, g 167, g 168, g 169, g 170, g 171, g 172, g 173, g 174, g 175, g 176, g 177, g 178, g 179, g 180, g 181, g 182, g 183, g 184, g 185, g 186, g 187, g 188, g 189, g 190, g 191, g 192, g 193, g 194, g 195, g 196, g 197, g 198, g 199, g 200, g 201, g 202, g 203, g 204, g 205, g 206, g 207, g 208, g 209, g 210, g 211, g 212, g 213, g 214, g 215, g 216, g 217, g 218, g 219, g 220, g 221, g 222, g 223, g 224, g 225, g 226, g 227, g 228, g 229, g 230, g 231, g 232, g 233, g 234, g 235, g 236, g 237, g 238, g 239, g 240, g 241, g 242, g 243, g 244, g 245, g 246, g 247, g 248, g 249, g 250, g 251, g 252, g 253, g 254, g 255, g 256, g 257, g 258, g 259, g 260, g 261, g 262, g 263, g 264, g 265, g 266, g 267, g 268, g 269, g 270, g 271, g 272, g 273, g 274, g 275, g 276, g 277, g 278, g 279, g 280, g 281, g 282, g 283, g 284, g 285, g 286, g 287, g 288, g 289, g 290, g 291, g 292, g 293, g 294, g 295, g 296, g 297, g 298, g 299, g 300, g 301, g 302, g 303, g 304, g 305, g 306, g 307, g 308, g 309, g 310, g 311, g 312, g 313, g 314, g 315, g 316, g 317, g 318, g 319, g 320, g 321, g 322, g 323, g 324, g 325, g 326, g 327, g 328, g 329, g 330, g 331, g 332, g 333, g 334, g 335, g 336, g 337, g 338, g 339, g 340, g 341, g 342, g 343, g 344, g 345, g 346, g 347, g 348, g 349, g 350, g 351, g 352, g 353, g 354, g 355, g 356, g 357, g 358, g 359, g 360, g 361, g 362, g 363, g 364, g 365, g 366, g 367, g 368, g 369, g 370, g 371, g 372, g 373, g 374, g 375, g 376, g 377, g 378, g 379, g 380, g 381, g 382, g 383, g 384, g 385, g 386, g 387, g 388, g 389, g 390, g 391, g 392, g 393, g 394, g 395, g 396, g 397, g 398, g 399, g 400, g 401, g 402, g 403, g 404, g 405, g 406, g 407, g 408, g 409, g 410, g 411, g 412, g 413, g 414, g 415, g 416, g 417, g 418, g 419, g 420, g 421, g 422, g 423, g 424, g 425, g 426, g 427, g 428, g 429, g 430, g 431, g 432, g 433, g 434, g 435, g 436, g 437, g 438, g 439, g 440, g 441, g 442, g 443, g 444, g 445, g 446]
/-- The invariant. -/
def WI (W1 : World) (B0 ob T p d n cap tot : Nat) (q f : Int) (U Z0 : List Int) (a : Act) (wr : World) : Prop :=
  ∃ (k : Nat) (A1 : Option Addr) (n1 c1 : Nat), a.defers = [] ∧ a.tmps.toList.length = 447 ∧ a.tmps.toList[0]? = some (.pointer (some ⟨p, 0, none⟩)) ∧ a.tmps.toList[1]? = some (.slice (some ⟨d, 0, none⟩) n cap) ∧ a.tmps.toList[2]? = some (.int .i32 q) ∧ a.tmps.toList[3]? = some (.int .u8 f) ∧ a.tmps.toList[8]? = some (.slice (some ⟨T, 0, none⟩) 4 4) ∧ a.tmps.toList[9]? = some (.slice A1 n1 c1) ∧ a.tmps.toList[10]? = some (.int .i64 (k : Int)) ∧ a.tmps.toList[11]? = some (.int .i64 (n : Int)) ∧ a.tmps.toList[13]? = some (.bool false) ∧ k ≤ n ∧ Iv W1 B0 ob T U Z0 tot k wr (.slice A1 n1 c1)
def Wmu (n : Nat) (a : Act) : Nat := n - (intOf (a.tmps.toList.getD 10 undef)).toNat
/-- What a round leaves. -/
def RP (W1 : World) (B0 ob T p d n cap tot : Nat) (q f : Int) (U Z0 : List Int) (a0 a : Act) (wr : World) : Prop := WI W1 B0 ob T p d n cap tot q f U Z0 a wr ∧ Wmu n a < Wmu n a0
theorem list_letters (l : List Value) (m : Nat) (h : l.length = m) : l = (List.range m).map (fun i => l.getD i undef) := by
  subst h
  apply List.ext_getElem
  · simp
  · intro i h1 h2
    simp [List.getD, h1]
set_option maxRecDepth 100000 in
theorem wi_frame {W1 : World} {B0 ob T p d n cap tot : Nat} {q f : Int} {U Z0 : List Int} {a : Act} {wr : World} (h : WI W1 B0 ob T p d n cap tot q f U Z0 a wr) :
    ∃ (k : Nat) (A1 : Option Addr) (n1 c1 : Nat) (g : Nat → Value), a = ⟨FR p d n cap T k q f A1 n1 c1 g, []⟩ ∧ k ≤ n ∧ Iv W1 B0 ob T U Z0 tot k wr (.slice A1 n1 c1) := by
  obtain ⟨k, A1, n1, c1, h0, h1, h2, h3, h4, h5, h6, h7, h8, h9, h10, h11, h12⟩ := h
  obtain ⟨⟨l⟩, ds⟩ := a
  simp only at h0 h1 h2 h3 h4 h5 h6 h7 h8 h9 h10
  subst h0
  have e := list_letters l 447 h1
  obtain ⟨g, hg⟩ : ∃ g : Nat → Value, g = fun i => l.getD i undef := ⟨_, rfl⟩
  rw [← hg] at e
  have gd : ∀ i v, l[i]? = some v → g i = v := fun i v hv => by rw [hg]; simp [List.getD, hv]
  refine ⟨k, A1, n1, c1, g, ?_, h11, h12⟩
  have e2 : (List.range 447).map g = [g 0, g 1, g 2, g 3, g 4, g 5, g 6, g 7, g 8, g 9, g 10, g 11, g 12, g 13, g 14, g 15, g 16, g 17, g 18, g 19, g 20, g 21, g 22, g 23, g 24, g 25, g 26, g 27, g 28, g 29, g 30, g 31, g 32, g 33, g 34, g 35, g 36, g 37, g 38, g 39, g 40, g 41, g 42, g 43, g 44, g 45, g 46, g 47, g 48, g 49, g 50, g 51, g 52, g 53, g 54, g 55, g 56, g 57, g 58, g 59, g 60, g 61, g 62, g 63, g 64, g 65, g 66, g 67, g 68, g 69, g 70, g 71, g 72, g 73, g 74, g 75, g 76, g 77, g 78, g 79, g 80, g 81, g 82, g 83, g 84, g 85, g 86, g 87, g 88, g 89, g 90, g 91, g 92, g 93, g 94, g 95, g 96, g 97, g 98, g 99, g 100, g 101, g 102, g 103, g 104, g 105, g 106, g 107, g 108, g 109, g 110, g 111, g 112, g 113, g 114, g 115, g 116, g 117, g 118, g 119, g 120, g 121, g 122, g 123, g 124, g 125, g 126, g 127, g 128, g 129, g 130, g 131, g 132, g 133, g 134, g 135, g 136, g 137, g 138, g 139, g 140, g 141, g 142, g 143, g 144, g 145, g 146, g 147, g 148, g 149, g 150, g 151, g 152, g 153, g 154, g 155, g 156, g 157, g 158, g 159, g 160, g 161, g 162, g 163, g 164, g 165, g 166, g 167, g 168, g 169, g 170, g 171, g 172, g 173, g 174, g 175, g 176, g 177, g 178, g 179, g 180, g 181, g 182, g 183, g 184, g 185, g 186, g 187, g 188, g 189, g 190, g 191, g 192, g 193, g 194, g 195, g 196, g 197, g 198, g 199, g 200, g 201, g 202, g 203, g 204, g 205, g 206, g 207, g 208, g 209, g 210, g 211, g 212, g 213, g 214, g 215, g 216, g 217, g 218, g 219, g 220, g 221, g 222, g 223, g 224, g 225, g 226, g 227, g 228, g 229, g 230, g 231, g 232, g 233, g 234, g 235, g 236, g 237, g 238, g 239, g 240, g 241, g 242, g 243, g 244, g 245, g 246, g 247, g 248, g 249, g 250, g 251, g 252, g 253, g 254, g 255, g 256, g 257, g 258, g 259, g 260, g 261, g 262, g 263, g 264, g 265, g 266, g 267, g 268, g 269, g 270, g 271, g 272, g 273, g 274, g 275, g 276, g 277, g 278, g 279, g 280, g 281, g 282, g 283, g 284, g 285, g 286, g 287, g 288, g 289, g 290, g 291, g 292, g 293, g 294, g 295, g 296, g 297, g 298, g 299, g 300, g 301, g 302, g 303, g 304, g 305, g 306, g 307, g 308, g 309, g 310, g 311, g 312, g 313, g 314, g 315, g 316, g 317, g 318, g 319, g 320, g 321, g 322, g 323, g 324, g 325, g 326, g 327, g 328, g 329, g 330, g 331, g 332, g 333, g 334, g 335, g 336, g 337, g 338, g 339, g 340, g 341, g 342, g 343, g 344, g 345, g 346, g 347, g 348, g 349, g 350, g 351, g 352, g 353, g 354, g 355, g 356, g 357, g 358, g 359, g 360, g 361, g 362, g 363, g 364, g 365, g 366, g 367, g 368, g 369, g 370, g 371, g 372, g 373, g 374, g 375, g 376, g 377, g 378, g 379, g 380, g 381, g 382, g 383, g 384, g 385, g 386, g 387, g 388, g 389, g 390, g 391, g 392, g 393, g 394, g 395, g 396, g 397, g 398, g 399, g 400, g 401, g 402, g 403, g 404, g 405, g 406, g 407, g 408, g 409, g 410, g 411, g 412, g 413, g 414, g 415, g 416, g 417, g 418, g 419, g 420, g 421, g 422, g 423, g 424, g 425, g 426, g 427, g 428, g 429, g 430, g 431, g 432, g 433, g 434, g 435, g 436, g 437, g 438, g 439, g 440, g 441, g 442, g 443, g 444, g 445, g 446]:= rfl
  rw [e, e2]
  unfold FR
  rw [gd 0 _ h2, gd 1 _ h3, gd 2 _ h4, gd 3 _ h5, gd 8 _ h6, gd 9 _ h7, gd 10 _ h8, gd 11 _ h9, gd 13 _ h10]
end Go.Proofs.YtmakaafjkeeooabFmt.QuE
