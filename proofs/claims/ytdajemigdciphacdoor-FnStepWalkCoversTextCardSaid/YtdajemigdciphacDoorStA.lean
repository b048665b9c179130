/- The lexer's step. -/
import Derived.Test.YtdajemigdciphacDoorRows
import Derived.Test.YtdajemigdciphacDoorMem
import Derived.Test.YtdajemigdciphacDoorSl
import Derived.Test.YtdajemigdciphacDoorStep
import Derived.Test.YtdajemigdciphacDoorShelf
import Derived.Deep.RegionHeld3
import Derived.Great.BuildSlice
import Derived.WalkKit
import Derived.ProofKit
import Derived.OpenShut
import Derived.Below
import Derived.WalkLawsBesides
import Derived.Lib.Hide
import Derived.Outline
import Derived.RegionTactic
import Derived.Deep.QuietTactic
import Derived.BigQuiet
import Derived.WalkSpells
import Derived.Deep.OwnRows
import Derived.IntWalk
import Derived.Deep.DeepMust
namespace Go.Proofs.YtdajemigdciphacDoor.StA
open Go.RowKit Mem Sl
set_option linter.unusedVariables false
open Step Dec

/-- The lexer at p: its text s, at cur, nl newlines counted. -/
structure Lex (w : World) (p : Nat) (s : ByteArray) (cur nl : Nat) (cs : List Value) : Prop where
  row : Row w p 72 cs
  len : cs.length = 85
  txt : cs[14]? = some (.string s)
  cur : cs[52]? = some (.int .i64 (cur : Int))
  nl : cs[55]? = some (.int .i64 (nl : Int))
/-- Behind a step: the code point cp, the token's begin, the place behind it. -/
def Stepped (w : World) (p : Nat) (s : ByteArray) (cp : Int) (cur nxt nl : Nat) (e : Ending) (w' : World) : Prop :=
  e = .returned (.tuple #[]) ∧ w.heap.size ≤ w'.heap.size ∧ (∃ cs, Lex w' p s nxt nl cs ∧ cs[66]? = some (.int .i32 cp) ∧ cs[54]? = some (.int .i64 (cur : Int))) ∧ ∀ B, B ≤ p → B ≤ w.heap.size → Below B w w'
/-- One step on the cells. -/
def stp (cs : List Value) (cp : Int) (cur nxt : Nat) : List Value := ((cs.set 66 (.int .i32 cp)).set 54 (.int .i64 (cur : Int))).set 52 (.int .i64 (nxt : Int))
theorem stp_lex {w : World} {p : Nat} {s : ByteArray} {cs : List Value} {cp : Int} {cur nxt nl : Nat} (hl : cs.length = 85) (ht : cs[14]? = some (.string s)) (hn : cs[55]? = some (.int .i64 (nl : Int))) (hr : Row w p 72 (stp cs cp cur nxt)) :
    Lex w p s nxt nl (stp cs cp cur nxt) ∧ (stp cs cp cur nxt)[66]? = some (.int .i32 cp) ∧ (stp cs cp cur nxt)[54]? = some (.int .i64 (cur : Int)) := by
  refine ⟨⟨hr, by simp [stp, hl], by simp [stp]; exact ht, by simp [stp, hl], by simp [stp]; exact hn⟩, by simp [stp, hl], by simp [stp, hl]⟩
theorem size_le {w w' : World} {B : Nat} (h : Below B w w') : w.heap.size ≤ w'.heap.size := h.size
set_option maxHeartbeats 4000000 in
set_option maxRecDepth 100000 in
/-- A step inside the text. -/
theorem step_in (w : World) (p : Nat) (s : ByteArray) (cur nl R W : Nat) (cs : List Value) (hs : s.size ≤ 1048576) (hL : Lex w p s cur nl cs) (hT : Lib.Utf8Tabs 0 1 w) (hc : cur < s.size) (hd : Utf8.decode s cur = (R, W)) (hnl : nl ≤ cur) (nl2 : Nat) (hn2 : nl2 = nl + if R = 10 then 1 else 0) :
    Calls Tryd.prog 11 #[.pointer (some ⟨p, 0, none⟩)] w (Stepped w p s (R : Int) cur (cur + W) nl2) := by
  have hsp := dec_span s cur hc
  have hsc := dec_scalar s cur
  have hdt := dec_tail s cur hc
  rw [hd] at hsp hsc hdt
  simp only at hsp hsc
  obtain ⟨hW1, hW4, hWs⟩ := hsp
  obtain ⟨hR1, hR2⟩ := hsc
  clear hR2
  have c14 := hL.row.at_ hL.txt
  have c52 := hL.row.at_ hL.cur
  have hp := hL.row.lt
  have hK := Lib.hid (Tryd.utf8_DecodeRuneInString (s.extract cur s.size))
  rw [hdt] at hK
  have HTT := Lib.hid hT
  have HLX := Lib.hid hL
  have HC := Lib.hid (show ∀ W : World, Below w.heap.size w W → W.cell? ⟨p, 14, none⟩ = some (.string s) ∧ W.cell? ⟨p, 52, none⟩ = some (.int .i64 (cur : Int)) from fun W hW => ⟨(hL.row.below hW hp).at_ hL.txt, (hL.row.below hW hp).at_ hL.cur⟩)
  have tW : ((W : Int) == 0) = false := by simp; omega
  have hcN : cur ≤ s.size := by omega
  have hcI : (cur : Int) ≤ (s.size : Int) := by omega
  have h0I : (0 : Int) ≤ (cur : Int) := by omega
  have HN2 := Lib.hid hn2
  clear hdt hd hT hL hn2
  go_enter Tryd.func11, Tryd.ntmps11
  go_wp2_with fail
  go_region_held3 (fun w' => w'.cell? ⟨p, 14, none⟩ = some (.string s) ∧ w'.cell? ⟨p, 52, none⟩ = some (.int .i64 (cur : Int))) (first | exact ⟨c14, c52⟩ | exact HC.out _ HB'.out | exact HC.out _ ((Below.refl _ _).drew))
    (first | (go_at_call 12; refine (hK.out _ (tabs_later HTT.out ((Below.refl _ _).drew))).mono ?_; rintro e w' ⟨rfl, hb⟩; have HB' := Lib.hid ((Below.refl w.heap.size w).drew.trans hb); clear hb))
  clear c14 c52
  have hr0 := HLX.out.row.below HB'.out hp
  have c52 := hr0.at_ HLX.out.cur
  have c55 := hr0.at_ HLX.out.nl
  have f52 := hr0.frozen 52
  have f54 := hr0.frozen 54
  have f55 := hr0.frozen 55
  have f66 := hr0.frozen 66
  obtain ⟨u54, h54⟩ : ∃ u, cs[54]? = some u := ⟨cs[54]'(by have := HLX.out.len; omega), by simp⟩
  obtain ⟨u66, h66⟩ : ∃ u, cs[66]? = some u := ⟨cs[66]'(by have := HLX.out.len; omega), by simp⟩
  have c54 := hr0.at_ h54
  have c66 := hr0.at_ h66
  have HR0 := Lib.hid hr0
  have HLEN := Lib.hid HLX.out.len
  clear hr0 h54 h66
  by_cases h10 : R = 10
  · subst h10
    have HN := Lib.hid (show nl2 = nl + 1 from HN2.out)
    clear HN2
    go_wp2_with fail
    go_end0
    have hr1 := (((HR0.out.set 55 (.int .i64 ((nl : Int) + 1))).set 66 (.int .i32 10)).set 54 (.int .i64 (cur : Int))).set 52 (.int .i64 ((cur : Int) + (W : Int)))
    have hlen := HLEN.out
    refine ⟨rfl, by simpa using HB'.out.size, ⟨_, (stp_lex (cs := cs.set 55 (.int .i64 ((nl : Int) + 1))) (cp := 10) (nl := nl2) (cur := cur) (nxt := cur + W) (by simp [hlen]) (by simpa using HLX.out.txt) (by rw [HN.out]; simp [hlen]) (by simpa [stp] using hr1))⟩, fun B hB hBs => ?_⟩
    exact ((((HB'.out.mono hBs).setCell hB _).setCell hB _).setCell hB _).setCell hB _
  · have t10 : ((R : Int) == 10) = false := by simp; omega
    have HN := Lib.hid (show nl2 = nl by have := HN2.out; rwa [if_neg h10] at this)
    clear HN2
    go_wp2_with fail
    go_end0
    have hr1 := (((HR0.out.set 66 (.int .i32 (R : Int))).set 54 (.int .i64 (cur : Int))).set 52 (.int .i64 ((cur : Int) + (W : Int))))
    have hlen := HLEN.out
    refine ⟨rfl, by simpa using HB'.out.size, ⟨_, (stp_lex (cp := R) (nl := nl2) (cur := cur) (nxt := cur + W) hlen HLX.out.txt (by rw [HN.out]; exact HLX.out.nl) (by simpa [stp] using hr1))⟩, fun B hB hBs => ?_⟩
    exact (((HB'.out.mono hBs).setCell hB _).setCell hB _).setCell hB _
theorem dec_none (t : ByteArray) (w : World) (h : t.size = 0) (hT : Lib.Utf8Tabs 0 1 w) : Calls Tryd.prog 12 #[.string t] w fun e w' => e = .returned (.tuple #[.int .i32 65533, .int .i64 0]) ∧ Below w.heap.size w w' := by
  have hdt : Lib.decodeGo t = (65533, 0) := by
    unfold Lib.decodeGo
    rw [if_pos h]
  have := Tryd.utf8_DecodeRuneInString t w hT
  rw [hdt] at this
  exact this
set_option maxHeartbeats 4000000 in
set_option maxRecDepth 100000 in
/-- A step at the text's end. -/
theorem step_end (w : World) (p : Nat) (s : ByteArray) (nl : Nat) (cs : List Value) (hs : s.size ≤ 1048576) (hL : Lex w p s s.size nl cs) (hT : Lib.Utf8Tabs 0 1 w) :
    Calls Tryd.prog 11 #[.pointer (some ⟨p, 0, none⟩)] w (Stepped w p s (-1) s.size s.size nl) := by
  have c14 := hL.row.at_ hL.txt
  have c52 := hL.row.at_ hL.cur
  have hp := hL.row.lt
  have HTT := Lib.hid hT
  have HLX := Lib.hid hL
  obtain ⟨cur, hcur⟩ : ∃ cur, s.size = cur := ⟨_, rfl⟩
  have HC := Lib.hid (show ∀ W : World, Below w.heap.size w W → W.cell? ⟨p, 14, none⟩ = some (.string s) ∧ W.cell? ⟨p, 52, none⟩ = some (.int .i64 (s.size : Int)) from fun W hW => ⟨(hL.row.below hW hp).at_ hL.txt, (hL.row.below hW hp).at_ hL.cur⟩)
  clear hT hL hcur
  go_enter Tryd.func11, Tryd.ntmps11
  go_wp2_with fail
  go_region_held3 (fun w' => w'.cell? ⟨p, 14, none⟩ = some (.string s) ∧ w'.cell? ⟨p, 52, none⟩ = some (.int .i64 (s.size : Int))) (first | exact ⟨c14, c52⟩ | exact HC.out _ HB'.out | exact HC.out _ ((Below.refl _ _).drew))
    (first | (go_at_call 12; refine (dec_none _ _ (by simp) (tabs_later HTT.out ((Below.refl _ _).drew))).mono ?_; rintro e w' ⟨rfl, hb⟩; have HB' := Lib.hid ((Below.refl w.heap.size w).drew.trans hb); clear hb))
  clear c14 c52
  have hr0 := HLX.out.row.below HB'.out hp
  have c52 := hr0.at_ HLX.out.cur
  have f52 := hr0.frozen 52
  have f54 := hr0.frozen 54
  have f66 := hr0.frozen 66
  obtain ⟨u54, h54⟩ : ∃ u, cs[54]? = some u := ⟨cs[54]'(by have := HLX.out.len; omega), by simp⟩
  obtain ⟨u66, h66⟩ : ∃ u, cs[66]? = some u := ⟨cs[66]'(by have := HLX.out.len; omega), by simp⟩
  have c54 := hr0.at_ h54
  have c66 := hr0.at_ h66
  have HR0 := Lib.hid hr0
  have HLEN := Lib.hid HLX.out.len
  clear hr0 h54 h66
  go_wp2_with fail
  go_end0
  have hr1 := (((HR0.out.set 66 (.int .i32 (-1))).set 54 (.int .i64 (s.size : Int))).set 52 (.int .i64 (s.size : Int)))
  have hlen := HLEN.out
  refine ⟨rfl, by simpa using HB'.out.size, ⟨_, (stp_lex (cp := -1) (nl := nl) (cur := s.size) (nxt := s.size) hlen HLX.out.txt HLX.out.nl (by simpa [stp] using hr1))⟩, fun B hB hBs => ?_⟩
  exact (((HB'.out.mono hBs).setCell hB _).setCell hB _).setCell hB _
theorem step6 (w : World) (p : Nat) (s : ByteArray) (cp : Int) (cur nxt nl : Nat) (h : Calls Tryd.prog 11 #[.pointer (some ⟨p, 0, none⟩)] w (Stepped w p s cp cur nxt nl)) :
    Calls Tryd.prog 6 #[.pointer (some ⟨p, 0, none⟩)] w (Stepped w p s cp cur nxt nl) := by
  have H := Lib.hid h
  clear h
  go_enter Tryd.func6, Tryd.ntmps6
  go_wp2_with fail
  refine H.out.mono ?_
  intro e w' h
  have HS := Lib.hid h
  obtain ⟨rfl, -⟩ := h
  go_wp2_with fail
  go_end0
  exact HS.out
theorem end7 (w : World) (p : Nat) (x : Int) (h : w.cell? ⟨p, 54, none⟩ = some (.int .i64 x)) : Calls Tryd.prog 7 #[.pointer (some ⟨p, 0, none⟩)] w fun e w' => e = .returned (.int .i64 x) ∧ w = w' := by
  go_enter Tryd.func7, Tryd.ntmps7
  go_wp2
  go_ret
  exact ⟨rfl, rfl⟩
theorem cp8 (w : World) (p : Nat) (x : Int) (h : w.cell? ⟨p, 66, none⟩ = some (.int .i32 x)) : Calls Tryd.prog 8 #[.pointer (some ⟨p, 0, none⟩)] w fun e w' => e = .returned (.int .i32 x) ∧ w = w' := by
  go_enter Tryd.func8, Tryd.ntmps8
  go_wp2
  go_ret
  exact ⟨rfl, rfl⟩
theorem cur9 (w : World) (p : Nat) (x : Int) (h : w.cell? ⟨p, 52, none⟩ = some (.int .i64 x)) : Calls Tryd.prog 9 #[.pointer (some ⟨p, 0, none⟩)] w fun e w' => e = .returned (.int .i64 x) ∧ w = w' := by
  go_enter Tryd.func9, Tryd.ntmps9
  go_wp2
  go_ret
  exact ⟨rfl, rfl⟩
set_option maxHeartbeats 1000000 in
theorem count10 (w : World) (s : ByteArray) (hs : s.size ≤ 1048576) : Calls Tryd.prog 10 #[.string s] w fun e w' => e = .returned (.int .i64 (nls s s.size : Int)) ∧ w = w' := by
  go_enter Tryd.func10, Tryd.ntmps10
  go_wp2_with fail
  go_loop [3, 4] (fun c i => ∃ k : Nat, k ≤ s.size ∧ i = .int .i64 k ∧ c = .int .i64 (nls s k : Int)) (fun _ i => s.size - (intOf i).toNat)
  case atStart => exact ⟨0, Nat.zero_le _, rfl, rfl⟩
  case round =>
    obtain ⟨k, hk, rfl, rfl⟩ := hrel
    have hle := nls_le s k
    by_cases hlt : k < s.size
    · have HE := Lib.hid (show nls s (k + 1) = nls s k + if by_ s k = 10 then 1 else 0 from rfl)
      have hb := by_at s k hlt
      rw [hb] at HE
      generalize nls s k = m at *
      obtain ⟨b, hbb⟩ : ∃ b, s[k] = b := ⟨_, rfl⟩
      rw [hbb] at HE
      have hblt := b.toNat_lt
      clear hb
      by_cases h10 : b.toNat = 10
      · have t : ((b.toNat : Int) == 10) = true := by simp [h10]
        have HE2 := Lib.hid (show nls s (k + 1) = m + 1 by rw [HE.out, if_pos h10])
        clear HE h10
        go_wp2_with fail
        go_round
        case rel => exact ⟨k + 1, by omega, by go_num, by rw [HE2.out]; go_num⟩
        case measure => simp [intOf]; omega
      · have t : ((b.toNat : Int) == 10) = false := by simp; omega
        have HE2 := Lib.hid (show nls s (k + 1) = m by rw [HE.out, if_neg h10]; rfl)
        clear HE h10
        go_wp2_with fail
        go_round
        case rel => exact ⟨k + 1, by omega, by go_num, by rw [HE2.out]⟩
        case measure => simp [intOf]; omega
    · obtain rfl : k = s.size := by omega
      go_wp2_with fail
      go_ret
      exact ⟨rfl, rfl⟩
end Go.Proofs.YtdajemigdciphacDoor.StA
