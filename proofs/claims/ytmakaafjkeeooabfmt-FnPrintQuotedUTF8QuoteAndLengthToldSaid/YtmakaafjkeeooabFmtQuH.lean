/- FnPrintQuotedUTF8QuoteAndLength: a slash behind a less-than sign. -/
import Derived.Test.YtmakaafjkeeooabFmtRows
import Derived.Test.YtmakaafjkeeooabFmtMem
import Derived.Test.YtmakaafjkeeooabFmtSl
import Derived.Test.YtmakaafjkeeooabFmtQuE
import Derived.Deep.RegionLaw
import Derived.Deep.DeepCutAuto
import Derived.Deep.Cut
import Derived.Deep.CutBlock
import Derived.WalkKit
import Derived.ProofKit
import Derived.OpenShut
import Derived.Below
import Derived.WalkLawsBesides
import Derived.Lib.Hide
import Derived.Outline
import Derived.RegionTactic
import Derived.Deep.QuietTactic
import Derived.BigQuiet
import Derived.WalkSpells
import Derived.Deep.OwnRows
import Derived.IntWalk
import Derived.Deep.DeepMust
namespace Go.Proofs.YtmakaafjkeeooabFmt.QuH
open Go.RowKit Mem Sl
set_option linter.unusedVariables false
open Prn Pru Own Owg Dec Enc QuA QuC QuD QuE

def FR2 (p d n cap T k : Nat) (q f : Int) (A1 : Option Addr) (n1 c1 : Nat) (b : Bool) (j : Nat) (g : Nat → Value) : Array Value := #[.pointer (some ⟨p, 0, none⟩), .slice (some ⟨d, 0, none⟩) n cap, .int .i32 q, .int .u8 f, g 4, g 5, g 6, g 7, .slice (some ⟨T, 0, none⟩) 4 4, .slice A1 n1 c1, .int .i64 ((k : Int) + 1), .int .i64 (n : Int), g 12, .bool false, g 14, .string ⟨#[115, 99, 114, 105, 112, 116]⟩, .bool b, .int .i64 (j : Int), g 18, g 19, g 20, g 21, g 22, g 23, g 24, g 25, g 26, g 27, g 28, g 29, g 30, g 31, g 32, g 33, g 34, g 35, g 36, g 37, g 38, g 39, g 40, g 41, g 42, g 43, g 44, g 45, g 46, g 47, g 48, g 49, g 50, g 51, g 52, g 53, g 54, g 55, g 56, g 57, g 58, g 59, g 60, g 61, g 62, g 63, g 64, g 65, g 66, g 67, g 68, g 69, g 70, g 71, g 72, g 73, g 74, g 75, g 76, g 77, g 78, g 79, g 80, g 81, g 82, g 83, g 84, g 85, g 86, g 87, g 88, g 89, g 90, g 91, g 92, g 93, g 94, g 95, g 96, g 97, g 98, g 99, g 100, g 101, g 102, g 103, g 104, g 105, g 106, g 107, g 108, g 109, g 110, g 111, g 112, g 113, g 114, g 115, g 116, g 117, g 118, g 119, g 120, g 121, g 122, g 123, g 124, g 125, g 126, g 127, g 128, g 129, g 130, g 131, g 132, g 133, g 134, g 135, g 136, g 137, g 138, g 139, g 140, g 141, g 142, g 143, g 144, g 145, g 146, g 147, g 148, g 149, g 150, g 151, g 152, g 153, g 154, g 155, g 156, g 157, g 158, g 159, g 160, g 161, g 162, g 163, g 164, g 165, g 166, g 167, g 168, g 169, g 170, g 171, g 172, g 173, g 174, g 175, g 176, g 177, g 178, g 179, g 180, g 181, g 182, g 183, g 184, g 185, g 186, g 187, g 188, g 189, g 190, g 191, g 192, g 193, g 194, g 195, g 196, g 197, g 198, g 199, g 200, g 201, g 202, g 203, g 204, g 205, g 206, g 207, g 208, g 209, g 210, g 211, g 212, g 213, g 214, g 215, g 216, g 217, g 218, g 219, g 220, g 221, g 222, g 223, g 224, g 225, g 226, g 227, g 228, g 229, g 230, g 231, g 232, g 233, g 234, g 235, g 236, g 237, g 238, g 239, g 240, g 241, g 242, g 243, g 244, g 245, g 246, g 247, g 248, g 249, g 250, g 251, g 252, g 253, g 254, g 255, g 256, g 257, g 258, g 259, g 260, g 261, g 262, g 263, g 264, g 265, g 266, g 267, g 268, g 269, g 270, g 271, g 272, g 273, g 274, g 275, g 276, g 277, g 278, g 279, g 280, g 281, g 282, g 283, g 284, g 285, g 286, g 287, g 288, g 289, g 290, g 291, g 292, g 293, g 294, g 295, g 296, g 297, g 298, g 299, g 300, g 301, g 302, g 303, g 304, g 305, g 306, g 307, g 308, g 309, g 310, g 311, g 312, g 313, g 314, g 315, g 316, g 317, g 318, g 319, g 320, g 321, g 322, g 323, g 324, g 325, g 326, g 327, g 328, g 329, g 330, g 331, g 332, g 333, g 334, g 335, g 336, g 337, g 338, g 339, g 340, g 341, g 342, g 343, g 344, g 345, g 346, g 347, g 348, g 349, g 350, g 351, g 352, g 353, g 354, g 355, g 356, g 357, g 358, g 359, g 360, g 361, g 362, g 363, g 364, g 365, g 366, g 367, g 368, g 369, g 370, g 371, g 372, g 373, g 374, g 375, g 376, g 377, g 378, g 379, g 380, g 381, g 382, g 383, g 384, g 385, g 386, g 387, g 388, g 389, g 390, g 391, g 392, g 393, g 394, g 395, g 396, g 397, g 398, g 399, g 400, g 401, g 402, g 403, g 404, g 405, g 406, g 407, g 408, g 409, g 410, g 411, g 412, g 413, g 414, g 415, g 416, g 417, g 418, g 419, g 420, g 421, g 422, g 423, g 424, g 425, g 426, g 427, g 428, g 429, g 430, g 431, g 432, g 433, g 434, g 435, g 436, g 437, g 438, g 439, g 440, g 441, g 442, g 443, g 444, g 445, g 446]
/-- The inner loop's invariant. -/
def WJ (p d n cap T k : Nat) (q f : Int) (A1 : Option Addr) (n1 c1 : Nat) (wr : World) (a : Act) (w2 : World) : Prop :=
  ∃ (j : Nat) (b : Bool), a.defers = [] ∧ a.tmps.toList.length = 447 ∧ a.tmps.toList[0]? = some (.pointer (some ⟨p, 0, none⟩)) ∧ a.tmps.toList[1]? = some (.slice (some ⟨d, 0, none⟩) n cap) ∧ a.tmps.toList[2]? = some (.int .i32 q) ∧ a.tmps.toList[3]? = some (.int .u8 f) ∧ a.tmps.toList[8]? = some (.slice (some ⟨T, 0, none⟩) 4 4) ∧ a.tmps.toList[9]? = some (.slice A1 n1 c1) ∧ a.tmps.toList[10]? = some (.int .i64 ((k : Int) + 1)) ∧ a.tmps.toList[11]? = some (.int .i64 (n : Int)) ∧ a.tmps.toList[13]? = some (.bool false) ∧ a.tmps.toList[15]? = some (.string ⟨#[115, 99, 114, 105, 112, 116]⟩) ∧ a.tmps.toList[16]? = some (.bool b) ∧ a.tmps.toList[17]? = some (.int .i64 (j : Int)) ∧ j ≤ 6 ∧ w2 = wr
set_option maxRecDepth 100000 in
theorem wj_frame {p d n cap T k : Nat} {q f : Int} {A1 : Option Addr} {n1 c1 : Nat} {wr w2 : World} {a : Act} (h : WJ p d n cap T k q f A1 n1 c1 wr a w2) :
    ∃ (j : Nat) (b : Bool) (g : Nat → Value), a = ⟨FR2 p d n cap T k q f A1 n1 c1 b j g, []⟩ ∧ j ≤ 6 ∧ w2 = wr := by
  obtain ⟨j, b, h0, h1, k0, k1, k2, k3, k8, k9, k10, k11, k13, k15, k16, k17, h2, h3⟩ := h
  obtain ⟨⟨l⟩, ds⟩ := a
  simp only at h0 h1 k0 k1 k2 k3 k8 k9 k10 k11 k13 k15 k16 k17
  subst h0
  have e := list_letters l 447 h1
  obtain ⟨g, hg⟩ : ∃ g : Nat → Value, g = fun i => l.getD i undef := ⟨_, rfl⟩
  rw [← hg] at e
  have gd : ∀ i v, l[i]? = some v → g i = v := fun i v hv => by rw [hg]; simp [List.getD, hv]
  refine ⟨j, b, g, ?_, h2, h3⟩
  have e2 : (List.range 447).map g = [g 0, g 1, g 2, g 3, g 4, g 5, g 6, g 7, g 8, g 9, g 10, g 11, g 12, g 13, g 14, g 15, g 16, g 17, g 18, g 19, g 20, g 21, g 22, g 23, g 24, g 25, g 26, g 27, g 28, g 29, g 30, g 31, g 32, g 33, g 34, g 35, g 36, g 37, g 38, g 39, g 40, g 41, g 42, g 43, g 44, g 45, g 46, g 47, g 48, g 49, g 50, g 51, g 52, g 53, g 54, g 55, g 56, g 57, g 58, g 59, g 60, g 61, g 62, g 63, g 64, g 65, g 66, g 67, g 68, g 69, g 70, g 71, g 72, g 73, g 74, g 75, g 76, g 77, g 78, g 79, g 80, g 81, g 82, g 83, g 84, g 85, g 86, g 87, g 88, g 89, g 90, g 91, g 92, g 93, g 94, g 95, g 96, g 97, g 98, g 99, g 100, g 101, g 102, g 103, g 104, g 105, g 106, g 107, g 108, g 109, g 110, g 111, g 112, g 113, g 114, g 115, g 116, g 117, g 118, g 119, g 120, g 121, g 122, g 123, g 124, g 125, g 126, g 127, g 128, g 129, g 130, g 131, g 132, g 133, g 134, g 135, g 136, g 137, g 138, g 139, g 140, g 141, g 142, g 143, g 144, g 145, g 146, g 147, g 148, g 149, g 150, g 151, g 152, g 153, g 154, g 155, g 156, g 157, g 158, g 159, g 160, g 161, g 162, g 163, g 164, g 165, g 166, g 167, g 168, g 169, g 170, g 171, g 172, g 173, g 174, g 175, g 176, g 177, g 178, g 179, g 180, g 181, g 182, g 183, g 184, g 185, g 186, g 187, g 188, g 189, g 190, g 191, g 192, g 193, g 194, g 195, g 196, g 197, g 198, g 199, g 200, g 201, g 202, g 203, g 204, g 205, g 206, g 207, g 208, g 209, g 210, g 211, g 212, g 213, g 214, g 215, g 216, g 217, g 218, g 219, g 220, g 221, g 222, g 223, g 224, g 225, g 226, g 227, g 228, g 229, g 230, g 231, g 232, g 233, g 234, g 235, g 236, g 237, g 238, g 239, g 240, g 241, g 242, g 243, g 244, g 245, g 246, g 247, g 248, g 249, g 250, g 251, g 252, g 253, g 254, g 255, g 256, g 257, g 258, g 259, g 260, g 261, g 262, g 263, g 264, g 265, g 266, g 267, g 268, g 269, g 270, g 271, g 272, g 273, g 274, g 275, g 276, g 277, g 278, g 279, g 280, g 281, g 282, g 283, g 284, g 285, g 286, g 287, g 288, g 289, g 290, g 291, g 292, g 293, g 294, g 295, g 296, g 297, g 298, g 299, g 300, g 301, g 302, g 303, g 304, g 305, g 306, g 307, g 308, g 309, g 310, g 311, g 312, g 313, g 314, g 315, g 316, g 317, g 318, g 319, g 320, g 321, g 322, g 323, g 324, g 325, g 326, g 327, g 328, g 329, g 330, g 331, g 332, g 333, g 334, g 335, g 336, g 337, g 338, g 339, g 340, g 341, g 342, g 343, g 344, g 345, g 346, g 347, g 348, g 349, g 350, g 351, g 352, g 353, g 354, g 355, g 356, g 357, g 358, g 359, g 360, g 361, g 362, g 363, g 364, g 365, g 366, g 367, g 368, g 369, g 370, g 371, g 372, g 373, g 374, g 375, g 376, g 377, g 378, g 379, g 380, g 381, g 382, g 383, g 384, g 385, g 386, g 387, g 388, g 389, g 390, g 391, g 392, g 393, g 394, g 395, g 396, g 397, g 398, g 399, g 400, g 401, g 402, g 403, g 404, g 405, g 406, g 407, g 408, g 409, g 410, g 411, g 412, g 413, g 414, g 415, g 416, g 417, g 418, g 419, g 420, g 421, g 422, g 423, g 424, g 425, g 426, g 427, g 428, g 429, g 430, g 431, g 432, g 433, g 434, g 435, g 436, g 437, g 438, g 439, g 440, g 441, g 442, g 443, g 444, g 445, g 446] := rfl
  rw [e, e2]
  unfold FR2
  rw [gd 0 _ k0, gd 1 _ k1, gd 2 _ k2, gd 3 _ k3, gd 8 _ k8, gd 9 _ k9, gd 10 _ k10, gd 11 _ k11, gd 13 _ k13, gd 15 _ k15, gd 16 _ k16, gd 17 _ k17]

set_option maxRecDepth 100000 in
set_option maxHeartbeats 8000000 in
theorem l47d (W1 wr : World) (B0 ob T p d n cap k tot m m' : Nat) (q f : Int) (A1 : Option Addr) (n1 c1 : Nat) (U Z0 M : List Int) (g : Nat → Value) (Q0 : Exit → Act → World → Prop) (h1 : 1 ≤ k) (h60 : (U.getD (k - 1) 0 == 60) = true) (h7 : k + 7 ≤ n) (HWF : Hid (∀ i, i < n → 0 ≤ U.getD i 0 ∧ U.getD i 0 ≤ 65535))
    (HP : Hid (PU W1 B0 ob T wr (.slice A1 n1 c1) (Z0 ++ M))) (HE : Hid (Enc.Enc (U.drop (k + 1)) m')) (HM : Hid (m = 1 + m')) (HL1 : Hid (tot ≤ M.length + m)) (HL2 : Hid (M.length + 4 * m ≤ 4 * tot)) (HLN : Hid ((Z0 ++ M).length ≤ 8000000))
    (hlt : k < n) (hcap2 : n ≤ cap) (hcap : cap ≤ 9223372036854775807) (hn : n ≤ 1048576) (d0 : wr.cell? ⟨d, k, none⟩ = some (.int .u16 47)) (HCEL : Hid (∀ i, i < n → wr.cell? ⟨d, i, none⟩ = some (.int .u16 (U.getD i 0)))) (e24 : wr.cell? ⟨p, 24, none⟩ = some (.int .u64 0)) (e31 : wr.cell? ⟨p, 31, none⟩ = some (.bool false)) :
    Code.wp Tryf.prog body (Exit.then (RP W1 B0 ob T p d n cap tot q f U Z0 ⟨FR p d n cap T k q f A1 n1 c1 g, []⟩) Q0) ⟨FR p d n cap T k q f A1 n1 c1 g, []⟩ wr := by
  obtain ⟨i0, hi, hz0, hz1, hz2⟩ := info_parts info5
  have tlt : decide ((k : Int) < (n : Int)) = true := by simp; omega
  have u1 : decide ((2 : Int) ≤ (k : Int) + 1) = true := by simp; omega
  have d1 := HCEL.out (k - 1) (by omega)
  generalize U.getD (k - 1) 0 = cm at d1 h60
  have e1 : (0 : Int) ≤ (k : Int) + 1 - 2 := by omega
  have e2 : (k : Int) + 1 - 2 < (n : Int) := by omega
  have u7 : decide ((k : Int) + 1 + 6 ≤ (n : Int)) = true := by simp; omega
  conv => arg 2; whnf
  unfold FR
  go_wp2_with (go_at_call 14; (with_reducible refine (has14 68719476736 wr (.inr rfl)).mono ?_); rintro e w9 ⟨rfl, rfl⟩)
  refine wp_loop (WJ p d n cap T k q f A1 n1 c1 wr) (fun a _ => 6 - (intOf (a.tmps.toList.getD 17 undef)).toNat) ?_ ?_
  · exact ⟨0, true, rfl, rfl, rfl, rfl, rfl, rfl, rfl, rfl, rfl, rfl, rfl, rfl, rfl, rfl, by omega, rfl⟩
  · intro a2 w2 hJ
    obtain ⟨j, b, g2, rfl, hj, hw⟩ := wj_frame hJ
    obtain rfl : wr = w2 := hw.symm
    clear hJ d1 hw
    unfold FR2
    by_cases hlj : j < 6
    · have t6 : decide ((j : Int) < 6) = true := by simp; omega
      obtain ⟨z, hz0', hz1', hzz⟩ := idx_any ⟨#[115, 99, 114, 105, 112, 116]⟩ j hlj
      have wz : IntKind.u16.wrap z = z := IntWalk.u16_in _ (by omega)
      have d2 := HCEL.out (k + 1 + j) (by omega)
      have hwf : 0 ≤ U.getD (k + 1 + j) 0 ∧ U.getD (k + 1 + j) 0 ≤ 65535 := HWF.out (k + 1 + j) (by omega)
      generalize U.getD (k + 1 + j) 0 = ca at d2 hwf
      obtain ⟨hwf0, hwf1⟩ := hwf
      go_wp2_with (at_builtin; refine wpList_append_buf _ rfl (.tmp 376) (.tmp 377) 22 rfl 5 i0 Tryf.underlying22 hi hz0 hz1 hz2 (.slice A1 n1 c1) (Z0 ++ M) rfl (HP.out.alloc (.cells #[.int .u8 47] 5)).buf ⟨wr.heap.size, 0, none⟩ 1 1 [47] rfl rfl (fun j hj => (by obtain rfl : j = 0 := (by omega); exact (Row.newArr wr 5 #[.int .u8 47]).at_ rfl)) (by have := HLN.out; omega) ?_; intro A2 n2 c2 w2 hbuf hgr hat; have HQ2 := Lib.hid ((HP.out.alloc (.cells #[.int .u8 47] 5)).append hbuf hgr hat); clear hbuf hgr hat)
      all_goals first | (unfold RP WI Wmu; exact ⟨⟨k + 1, A2, n2, c2, rfl, rfl, rfl, rfl, rfl, rfl, rfl, rfl, congrArg (fun z => some (Value.int IntKind.i64 z)) (by omega), rfl, rfl, by omega, iv_step HE.out HM.out HL1.out HL2.out HQ2.out (by first | (simp only [List.length_cons, List.length_nil]; omega) | (rw [nums_length]; decide)) (by first | (simp only [List.length_cons, List.length_nil]; omega) | (rw [nums_length]; decide))⟩, by simp only [List.getD_cons_succ, List.getD_cons_zero, intOf]; omega⟩) | (exact ⟨⟨j + 1, b, rfl, rfl, rfl, rfl, rfl, rfl, rfl, rfl, rfl, rfl, rfl, rfl, rfl, congrArg (fun z => some (Value.int IntKind.i64 z)) (by omega), by omega, rfl⟩, by simp only [List.getD_cons_succ, List.getD_cons_zero, intOf]; omega⟩)
    · have t6 : decide ((j : Int) < 6) = false := by simp; omega
      cases b
      · go_wp2_with (at_builtin; refine wpList_append_buf _ rfl (.tmp 376) (.tmp 377) 22 rfl 5 i0 Tryf.underlying22 hi hz0 hz1 hz2 (.slice A1 n1 c1) (Z0 ++ M) rfl (HP.out.alloc (.cells #[.int .u8 47] 5)).buf ⟨wr.heap.size, 0, none⟩ 1 1 [47] rfl rfl (fun j hj => (by obtain rfl : j = 0 := (by omega); exact (Row.newArr wr 5 #[.int .u8 47]).at_ rfl)) (by have := HLN.out; omega) ?_; intro A2 n2 c2 w2 hbuf hgr hat; have HQ2 := Lib.hid ((HP.out.alloc (.cells #[.int .u8 47] 5)).append hbuf hgr hat); clear hbuf hgr hat)
        (unfold RP WI Wmu; exact ⟨⟨k + 1, A2, n2, c2, rfl, rfl, rfl, rfl, rfl, rfl, rfl, rfl, congrArg (fun z => some (Value.int IntKind.i64 z)) (by omega), rfl, rfl, by omega, iv_step HE.out HM.out HL1.out HL2.out HQ2.out (by first | (simp only [List.length_cons, List.length_nil]; omega) | (rw [nums_length]; decide)) (by first | (simp only [List.length_cons, List.length_nil]; omega) | (rw [nums_length]; decide))⟩, by simp only [List.getD_cons_succ, List.getD_cons_zero, intOf]; omega⟩)
      · go_wp2_with (first | (at_builtin; refine wpList_append_buf _ rfl (.tmp 373) (.tmp 374) 22 rfl 5 i0 Tryf.underlying22 hi hz0 hz1 hz2 (.slice A1 n1 c1) (Z0 ++ M) rfl (HP.out.alloc (.cells #[.int .u8 92] 5)).buf ⟨wr.heap.size, 0, none⟩ 1 1 [92] rfl rfl (fun j hj => (by obtain rfl : j = 0 := (by omega); exact (Row.newArr wr 5 #[.int .u8 92]).at_ rfl)) (by have := HLN.out; omega) ?_; intro A3 n3 c3 w3 hbuf hgr hat; have HQ1 := Lib.hid ((HP.out.alloc (.cells #[.int .u8 92] 5)).append hbuf hgr hat); clear hbuf hgr hat) | (at_builtin; refine wpList_append_buf _ rfl (.tmp 376) (.tmp 377) 22 rfl 5 i0 Tryf.underlying22 hi hz0 hz1 hz2 (.slice A3 n3 c3) (Z0 ++ M ++ [92]) rfl (HQ1.out.alloc (.cells #[.int .u8 47] 5)).buf ⟨w3.heap.size, 0, none⟩ 1 1 [47] rfl rfl (fun j hj => (by obtain rfl : j = 0 := (by omega); exact (Row.newArr w3 5 #[.int .u8 47]).at_ rfl)) (by have := HLN.out; simp only [List.length_append, List.length_singleton] at this ⊢; omega) ?_; intro A2 n2 c2 w2 hbuf hgr hat; have HQ2 := Lib.hid ((HQ1.out.alloc (.cells #[.int .u8 47] 5)).append hbuf hgr hat); clear hbuf hgr hat))
        (unfold RP WI Wmu; exact ⟨⟨k + 1, A2, n2, c2, rfl, rfl, rfl, rfl, rfl, rfl, rfl, rfl, congrArg (fun z => some (Value.int IntKind.i64 z)) (by omega), rfl, rfl, by omega, iv_step2 HE.out HM.out HL1.out HL2.out HQ2.out (by first | (simp only [List.length_cons, List.length_nil]; omega) | (rw [nums_length]; decide)) (by first | (simp only [List.length_cons, List.length_nil]; omega) | (rw [nums_length]; decide))⟩, by simp only [List.getD_cons_succ, List.getD_cons_zero, intOf]; omega⟩)
end Go.Proofs.YtmakaafjkeeooabFmt.QuH
