/- FnPrintQuotedUTF8QuoteAndLength: printQuotedUTF16. -/
import Derived.Test.YtmakaafjkeeooabFmtRows
import Derived.Test.YtmakaafjkeeooabFmtMem
import Derived.Test.YtmakaafjkeeooabFmtSl
import Derived.Test.YtmakaafjkeeooabFmtQuG
import Derived.Test.YtmakaafjkeeooabFmtQuB
import Derived.Deep.DeepCutAuto
import Derived.Deep.Cut
import Derived.WalkKit
import Derived.ProofKit
import Derived.OpenShut
import Derived.Below
import Derived.WalkLawsBesides
import Derived.Lib.Hide
import Derived.Outline
import Derived.RegionTactic
import Derived.Deep.QuietTactic
import Derived.BigQuiet
import Derived.WalkSpells
import Derived.Deep.OwnRows
import Derived.IntWalk
import Derived.Deep.DeepMust
namespace Go.Proofs.YtmakaafjkeeooabFmt.QuI
open Go.RowKit Mem Sl
set_option linter.unusedVariables false
open Prn Pru Own Owg Dec Enc QuA QuB QuC QuD QuG

/-- What a printer keeps while a quoted text is printed. -/
structure Kp (cs : List Value) (mb : Bool) : Prop where
  uf : cs[24]? = some (.int .u64 0)
  ll : cs[26]? = some (.int .i64 0)
  ms : cs[30]? = some (.bool mb)
  ao : cs[31]? = some (.bool false)
theorem Kp.set {cs : List Value} {mb : Bool} (h : Kp cs mb) (v : Value) : Kp (cs.set 9 v) mb :=
  ⟨by rw [List.getElem?_set_ne (by decide)]; exact h.uf, by rw [List.getElem?_set_ne (by decide)]; exact h.ll, by rw [List.getElem?_set_ne (by decide)]; exact h.ms, by rw [List.getElem?_set_ne (by decide)]; exact h.ao⟩
/-- What printQuotedUTF16 leaves. -/
def Qtd (w : World) (B0 p : Nat) (v0 : Value) (Z0 : List Int) (tot : Nat) (fb : Bool) (e : Ending) (w' : World) : Prop :=
  e = .returned (.tuple #[]) ∧ ∃ (q : Int) (v : Value) (cs' : List Value) (M : List Int), Pr w' p 79 9 5 cs' v (Z0 ++ [q] ++ M ++ [q]) ∧ (q = 34 ∨ q = 39 ∨ (q = 96 ∧ fb = true)) ∧ tot ≤ M.length ∧ M.length ≤ 4 * tot ∧ Below B0 w w' ∧ ∀ g, g < w.heap.size → g ≠ p → v0.ownBlock ≠ some g → w'.heap[g]? = w.heap[g]?
theorem txt2_step {w w' : World} {p d n c : Nat} {U : List Int} {v v' : Value} {cs : List Value} {Z : List Int} (h : Txt2 w d n c U) (hs : Step p w v w' v') (hp : Pr w p 79 9 5 cs v Z) : Txt2 w' d n c U := by
  obtain ⟨h1, h2, h3, cur, h4, h5⟩ := h
  refine ⟨h1, h2, h3, cur, (hs.block d (Array.getElem?_eq_some_iff.1 h4).1 ?_ ?_).trans h4, h5⟩
  · rintro rfl
    have := hp.row
    unfold Row at this
    rw [h4] at this
    cases this
  · intro e
    obtain ⟨cur', h6⟩ := buf_cur hp.buf d e.symm
    rw [h4] at h6
    cases h6
theorem txt2_below {w w' : World} {d n c : Nat} {U : List Int} (h : Txt2 w d n c U) (hb : Below w.heap.size w w') : Txt2 w' d n c U := by
  obtain ⟨h1, h2, h3, cur, h4, h5⟩ := h
  exact ⟨h1, h2, h3, cur, (hb.block d (Array.getElem?_eq_some_iff.1 h4).1).trans h4, h5⟩
theorem ix_34 : ∀ W : World, (Instr.index 9 (.string ⟨#[34]⟩) (.int .i64 0)).run Tryf.prog W = .ok (.int .u8 34) W := fun _ => by kernel_rfl
theorem ix_39 : ∀ W : World, (Instr.index 9 (.string ⟨#[39]⟩) (.int .i64 0)).run Tryf.prog W = .ok (.int .u8 39) W := fun _ => by kernel_rfl
theorem ix_96 : ∀ W : World, (Instr.index 9 (.string ⟨#[96]⟩) (.int .i64 0)).run Tryf.prog W = .ok (.int .u8 96) W := fun _ => by kernel_rfl
theorem nums_one (b : UInt8) : nums ⟨#[b]⟩ = [(b.toNat : Int)] := by simp [nums]
theorem qtd_end {w w1 w2 w3 : World} {B0 p : Nat} {Z0 M : List Int} {tot : Nat} {fb : Bool} {q : Int} {v v1 v2 v3 : Value} {cs3 : List Value} (hs1 : Step p w v w1 v1) (hp : B0 ≤ p) (hlow : ∀ g, v.ownBlock = some g → B0 ≤ g) (hB : B0 ≤ w.heap.size) (hb2 : Below B0 w1 w2) (hl2 : ∀ g, v2.ownBlock = some g → B0 ≤ g) (ho2 : ∀ g, v2.ownBlock = some g → v1.ownBlock = some g ∨ w1.heap.size ≤ g) (hk2 : ∀ g, g < w1.heap.size → g ≠ p → v1.ownBlock ≠ some g → w2.heap[g]? = w1.heap[g]?) (hs3 : Step p w2 v2 w3 v3)
    (hp3 : Pr w3 p 79 9 5 cs3 v3 (Z0 ++ [q] ++ M ++ [q])) (hq : q = 34 ∨ q = 39 ∨ (q = 96 ∧ fb = true)) (h1 : tot ≤ M.length) (h2 : M.length ≤ 4 * tot) : Qtd w B0 p v Z0 tot fb (.returned (.tuple #[])) w3 := by
  have k1 := hs1.below hp hlow hB
  have k2 := k1.trans hb2
  refine ⟨rfl, q, v3, cs3, M, hp3, hq, h1, h2, k2.trans (hs3.below hp hl2 (Nat.le_trans hB k2.size)), fun g hg hgp hgv => ?_⟩
  have n1 : v1.ownBlock ≠ some g := fun e => by
    rcases hs1.at_ with h | ⟨x, h, hx⟩
    · exact hgv (h.symm.trans e)
    · rw [e] at h; injection h with h; omega
  have l1 := hs1.size
  have l2 := hb2.size
  have n2 : v2.ownBlock ≠ some g := fun e => by
    rcases ho2 g e with h | h
    · exact n1 h
    · omega
  rw [hs3.block g (by omega) hgp (fun e => n2 e.symm), hk2 g (by omega) hgp n1, hs1.block g hg hgp (fun e => hgv e.symm)]

set_option maxRecDepth 100000 in
set_option maxHeartbeats 16000000 in
theorem quo12 (f : Int) (p d B0 n cap tot : Nat) (mb : Bool) (U Z0 : List Int) (cs : List Value) (v : Value) (w : World) (h : Pr w p 79 9 5 cs v Z0) (hlow : ∀ g, v.ownBlock = some g → B0 ≤ g) (hpB : B0 ≤ p) (hB : B0 ≤ w.heap.size)
    (hk : Kp cs mb) (hU : Txt2 w d n cap U) (hE : Enc.Enc U tot) (htot : tot ≤ 1048576) (hZ : Z0.length ≤ 1048576) :
    Calls Tryf.prog 12 #[.pointer (some ⟨p, 0, none⟩), .slice (some ⟨d, 0, none⟩) n cap, .int .u8 f] w (Qtd w B0 p v Z0 tot (bits BinOp.and IntKind.u8 f 1 != 0)) := by
  have HX := Lib.hid h
  have HU := Lib.hid hU
  have HE := Lib.hid hE
  have HK := Lib.hid hk
  have HLO := Lib.hid hlow
  have HPB := Lib.hid hpB
  have HBB := Lib.hid hB
  have HZ := Lib.hid hZ
  obtain ⟨hnU, hcap2, hcapm, cur, hcur, hcc⟩ := hU
  have hnl : n ≤ tot := by rw [← hnU]; exact hE.len
  have hcap : cap ≤ 9223372036854775807 := by unfold maxLen at hcapm; omega
  have hcell : ∀ i, i < n → w.cell? ⟨d, i, none⟩ = some (.int .u16 (U.getD i 0)) := fun i hi => by rw [cell_of_row w d i cur 87 (0, 0) hcur]; exact hcc i hi
  have HCEL := Lib.hid hcell
  have c24 := h.row.at_ hk.uf
  have c30 := h.row.at_ hk.ms
  have H14 := Lib.hid (has14 72057594037927936 w (.inl rfl))
  clear h hE hk hlow hpB hB hZ hnU hcur hcc hcell hcapm
  go_enter Tryf.func12, Tryf.ntmps12
  go_wp2_with (go_at_call 14; (with_reducible refine H14.out.mono ?_); rintro e w9 ⟨rfl, rfl⟩)
  clear H14 c24
  go_loop [6, 7, 8, 9, 10, 22] (fun x6 x7 x8 x9 x10 x22 => ∃ (k : Nat) (a b c : Int), k ≤ n ∧ x6 = .int .i64 a ∧ x7 = .int .i64 b ∧ x8 = .int .i64 c ∧ x22 = .int .i64 (k : Int) ∧ -(k : Int) ≤ a ∧ a ≤ k ∧ -(k : Int) ≤ b ∧ b ≤ k ∧ -(k : Int) ≤ c ∧ c ≤ k) (fun _ _ _ _ _ x22 => n - (intOf x22).toNat)
  case atStart => exact ⟨0, 0, 0, 0, Nat.zero_le _, rfl, rfl, rfl, rfl, by omega, by omega, by omega, by omega, by omega, by omega⟩
  case round =>
    obtain ⟨k, a, b, e, hk, rfl, rfl, rfl, rfl, ha0, ha1, hb0, hb1, he0, he1⟩ := hrel
    by_cases hlt : k < n
    · have tlt : decide ((k : Int) < (n : Int)) = true := by simp; omega
      have d0 := HCEL.out k hlt
      generalize U.getD k 0 = c at d0
      by_cases x10 : c = 10
      · subst x10
        cases mb
        · skip
          go_wp2_with fail
          all_goals
            go_round
            case rel => exact ⟨k + 1, _, _, _, by omega, rfl, rfl, rfl, by go_num, by omega, by omega, by omega, by omega, by omega, by omega⟩
            case measure => simp [intOf]; omega
        · skip
          go_wp2_with fail
          all_goals
            go_round
            case rel => exact ⟨k + 1, _, _, _, by omega, rfl, rfl, rfl, by go_num, by omega, by omega, by omega, by omega, by omega, by omega⟩
            case measure => simp [intOf]; omega
      by_cases x39 : c = 39
      · subst x39
        go_wp2_with fail
        all_goals
          go_round
          case rel => exact ⟨k + 1, _, _, _, by omega, rfl, rfl, rfl, by go_num, by omega, by omega, by omega, by omega, by omega, by omega⟩
          case measure => simp [intOf]; omega
      by_cases x34 : c = 34
      · subst x34
        go_wp2_with fail
        all_goals
          go_round
          case rel => exact ⟨k + 1, _, _, _, by omega, rfl, rfl, rfl, by go_num, by omega, by omega, by omega, by omega, by omega, by omega⟩
          case measure => simp [intOf]; omega
      by_cases x96 : c = 96
      · subst x96
        go_wp2_with fail
        all_goals
          go_round
          case rel => exact ⟨k + 1, _, _, _, by omega, rfl, rfl, rfl, by go_num, by omega, by omega, by omega, by omega, by omega, by omega⟩
          case measure => simp [intOf]; omega
      by_cases x36 : c = 36
      · subst x36
        by_cases h2 : k + 1 < n
        · have d1 := HCEL.out (k + 1) h2
          have t2 : decide ((k : Int) + 1 < (n : Int)) = true := by simp; omega
          generalize U.getD (k + 1) 0 = c2 at d1
          by_cases e1 : c2 = 123
          · subst e1
            go_wp2_with fail
            all_goals
              go_round
              case rel => exact ⟨k + 1, _, _, _, by omega, rfl, rfl, rfl, by go_num, by omega, by omega, by omega, by omega, by omega, by omega⟩
              case measure => simp [intOf]; omega
          · have u1 : (c2 == 123) = false := by simp [e1]
            clear e1
            go_wp2_with fail
            all_goals
              go_round
              case rel => exact ⟨k + 1, _, _, _, by omega, rfl, rfl, rfl, by go_num, by omega, by omega, by omega, by omega, by omega, by omega⟩
              case measure => simp [intOf]; omega
        · have t2 : decide ((k : Int) + 1 < (n : Int)) = false := by simp; omega
          go_wp2_with fail
          all_goals
            go_round
            case rel => exact ⟨k + 1, _, _, _, by omega, rfl, rfl, rfl, by go_num, by omega, by omega, by omega, by omega, by omega, by omega⟩
            case measure => simp [intOf]; omega
      have y10 : (c == 10) = false := by simp [x10]
      have y39 : (c == 39) = false := by simp [x39]
      have y34 : (c == 34) = false := by simp [x34]
      have y96 : (c == 96) = false := by simp [x96]
      have y36 : (c == 36) = false := by simp [x36]
      clear x10 x39 x34 x96 x36
      go_wp2_with fail
      all_goals
        go_round
        case rel => exact ⟨k + 1, _, _, _, by omega, rfl, rfl, rfl, by go_num, by omega, by omega, by omega, by omega, by omega, by omega⟩
        case measure => simp [intOf]; omega
    · have tlt : decide ((k : Int) < (n : Int)) = false := by simp; omega
      clear c30
      obtain ⟨fb, hfb⟩ : ∃ x, x = (bits BinOp.and IntKind.u8 f 1 != 0) := ⟨_, rfl⟩
      have HFB := Lib.hid hfb
      have hfb2 : (bits BinOp.and IntKind.u8 f 1 != 0) = fb := hfb.symm
      clear hfb
      go_wp2_with fail
      all_goals first
        | ((with_reducible refine (print15 p cs v Z0 ⟨#[34]⟩ w HX.out (by have := HZ.out; have e : (⟨#[34]⟩ : ByteArray).size = 1 := rfl; omega)).mono ?_); rintro e1 w1 ⟨rfl, v1, hp1, hs1⟩; have HP1 : Hid (Pr w1 p 79 9 5 (cs.set 9 v1) v1 (Z0 ++ [34])) := Lib.hid hp1; have HS1 := Lib.hid hs1; have HU1 := Lib.hid (txt2_step HU.out hs1 HX.out); have HB1 := Lib.hid (hs1.below HPB.out HLO.out HBB.out); clear hp1 hs1; have ix : ∀ W : World, (Instr.index 9 (.string ⟨#[34]⟩) (.int .i64 0)).run Tryf.prog W = .ok (.int .u8 34) W := ix_34; go_wp2_with fail; (with_reducible refine (unq16 34 f p d B0 n cap tot U (Z0 ++ [34]) (cs.set 9 v1) v1 w1 HP1.out (HS1.out.low HBB.out HLO.out) HPB.out (Nat.le_trans HBB.out HB1.out.size) (HK.out.set v1).uf (HK.out.set v1).ll (HK.out.set v1).ao HU1.out HE.out htot (by have := HZ.out; simp; omega)).mono ?_); rintro e2 w2 ⟨rfl, v2, M, hp2, hm1, hm2, hb2, hl2, ho2, hk2⟩; have HP2 := Lib.hid hp2; have HB2 := Lib.hid hb2; have HL2 := Lib.hid hl2; have HO2 := Lib.hid ho2; have HK2 := Lib.hid hk2; have HM1 := Lib.hid hm1; have HM2 := Lib.hid hm2; have HZ2 := Lib.hid (show (Z0 ++ [34] ++ M).length ≤ 100000000 by have := HZ.out; simp; omega); clear hp2 hb2 hl2 ho2 hk2 hm1 hm2; go_wp2_with fail; (with_reducible refine (print15 p _ v2 (Z0 ++ [34] ++ M) ⟨#[34]⟩ w2 HP2.out (by have := HZ2.out; have e : (⟨#[34]⟩ : ByteArray).size = 1 := rfl; omega)).mono ?_); rintro e3 w3 ⟨rfl, v3, hp3, hs3⟩; have HP3 : Hid (Pr w3 p 79 9 5 _ v3 (Z0 ++ [34] ++ M ++ [34])) := Lib.hid hp3; have HS3 := Lib.hid hs3; clear hp3 hs3; go_wp2_with fail; go_end0; exact qtd_end HS1.out HPB.out HLO.out HBB.out HB2.out HL2.out HO2.out HK2.out HS3.out HP3.out (.inl rfl) HM1.out HM2.out)
        | ((with_reducible refine (print15 p cs v Z0 ⟨#[39]⟩ w HX.out (by have := HZ.out; have e : (⟨#[39]⟩ : ByteArray).size = 1 := rfl; omega)).mono ?_); rintro e1 w1 ⟨rfl, v1, hp1, hs1⟩; have HP1 : Hid (Pr w1 p 79 9 5 (cs.set 9 v1) v1 (Z0 ++ [39])) := Lib.hid hp1; have HS1 := Lib.hid hs1; have HU1 := Lib.hid (txt2_step HU.out hs1 HX.out); have HB1 := Lib.hid (hs1.below HPB.out HLO.out HBB.out); clear hp1 hs1; have ix : ∀ W : World, (Instr.index 9 (.string ⟨#[39]⟩) (.int .i64 0)).run Tryf.prog W = .ok (.int .u8 39) W := ix_39; go_wp2_with fail; (with_reducible refine (unq16 39 f p d B0 n cap tot U (Z0 ++ [39]) (cs.set 9 v1) v1 w1 HP1.out (HS1.out.low HBB.out HLO.out) HPB.out (Nat.le_trans HBB.out HB1.out.size) (HK.out.set v1).uf (HK.out.set v1).ll (HK.out.set v1).ao HU1.out HE.out htot (by have := HZ.out; simp; omega)).mono ?_); rintro e2 w2 ⟨rfl, v2, M, hp2, hm1, hm2, hb2, hl2, ho2, hk2⟩; have HP2 := Lib.hid hp2; have HB2 := Lib.hid hb2; have HL2 := Lib.hid hl2; have HO2 := Lib.hid ho2; have HK2 := Lib.hid hk2; have HM1 := Lib.hid hm1; have HM2 := Lib.hid hm2; have HZ2 := Lib.hid (show (Z0 ++ [39] ++ M).length ≤ 100000000 by have := HZ.out; simp; omega); clear hp2 hb2 hl2 ho2 hk2 hm1 hm2; go_wp2_with fail; (with_reducible refine (print15 p _ v2 (Z0 ++ [39] ++ M) ⟨#[39]⟩ w2 HP2.out (by have := HZ2.out; have e : (⟨#[39]⟩ : ByteArray).size = 1 := rfl; omega)).mono ?_); rintro e3 w3 ⟨rfl, v3, hp3, hs3⟩; have HP3 : Hid (Pr w3 p 79 9 5 _ v3 (Z0 ++ [39] ++ M ++ [39])) := Lib.hid hp3; have HS3 := Lib.hid hs3; clear hp3 hs3; go_wp2_with fail; go_end0; exact qtd_end HS1.out HPB.out HLO.out HBB.out HB2.out HL2.out HO2.out HK2.out HS3.out HP3.out (.inr (.inl rfl)) HM1.out HM2.out)
        | ((with_reducible refine (print15 p cs v Z0 ⟨#[96]⟩ w HX.out (by have := HZ.out; have e : (⟨#[96]⟩ : ByteArray).size = 1 := rfl; omega)).mono ?_); rintro e1 w1 ⟨rfl, v1, hp1, hs1⟩; have HQ := Lib.hid (show (bits BinOp.and IntKind.u8 f 1 != 0) = true by rw [← HFB.out]; assumption); have HP1 : Hid (Pr w1 p 79 9 5 (cs.set 9 v1) v1 (Z0 ++ [96])) := Lib.hid hp1; have HS1 := Lib.hid hs1; have HU1 := Lib.hid (txt2_step HU.out hs1 HX.out); have HB1 := Lib.hid (hs1.below HPB.out HLO.out HBB.out); clear hp1 hs1; have ix : ∀ W : World, (Instr.index 9 (.string ⟨#[96]⟩) (.int .i64 0)).run Tryf.prog W = .ok (.int .u8 96) W := ix_96; go_wp2_with fail; (with_reducible refine (unq16 96 f p d B0 n cap tot U (Z0 ++ [96]) (cs.set 9 v1) v1 w1 HP1.out (HS1.out.low HBB.out HLO.out) HPB.out (Nat.le_trans HBB.out HB1.out.size) (HK.out.set v1).uf (HK.out.set v1).ll (HK.out.set v1).ao HU1.out HE.out htot (by have := HZ.out; simp; omega)).mono ?_); rintro e2 w2 ⟨rfl, v2, M, hp2, hm1, hm2, hb2, hl2, ho2, hk2⟩; have HP2 := Lib.hid hp2; have HB2 := Lib.hid hb2; have HL2 := Lib.hid hl2; have HO2 := Lib.hid ho2; have HK2 := Lib.hid hk2; have HM1 := Lib.hid hm1; have HM2 := Lib.hid hm2; have HZ2 := Lib.hid (show (Z0 ++ [96] ++ M).length ≤ 100000000 by have := HZ.out; simp; omega); clear hp2 hb2 hl2 ho2 hk2 hm1 hm2; go_wp2_with fail; (with_reducible refine (print15 p _ v2 (Z0 ++ [96] ++ M) ⟨#[96]⟩ w2 HP2.out (by have := HZ2.out; have e : (⟨#[96]⟩ : ByteArray).size = 1 := rfl; omega)).mono ?_); rintro e3 w3 ⟨rfl, v3, hp3, hs3⟩; have HP3 : Hid (Pr w3 p 79 9 5 _ v3 (Z0 ++ [96] ++ M ++ [96])) := Lib.hid hp3; have HS3 := Lib.hid hs3; clear hp3 hs3; go_wp2_with fail; go_end0; exact qtd_end HS1.out HPB.out HLO.out HBB.out HB2.out HL2.out HO2.out HK2.out HS3.out HP3.out (.inr (.inr ⟨rfl, HQ.out⟩)) HM1.out HM2.out)
end Go.Proofs.YtmakaafjkeeooabFmt.QuI
