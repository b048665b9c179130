/- FnPrintQuotedPicksShorterQuote: printQuotedWithQuote. -/
import Derived.Test.YtmgkjkfhhdkkmaaFmtRows
import Derived.Test.YtmgkjkfhhdkkmaaFmtMem
import Derived.Test.YtmgkjkfhhdkkmaaFmtSl
import Derived.Test.YtmgkjkfhhdkkmaaFmtPqA
import Derived.Test.YtmgkjkfhhdkkmaaFmtStep
import Derived.Great.BuildSlice
import Derived.Deep.RegionLaw
import Derived.Deep.LoopGhost
import Derived.Deep.DeepCutAuto
import Derived.Deep.Cut
import Derived.Deep.CutBlock
import Derived.WalkKit
import Derived.ProofKit
import Derived.OpenShut
import Derived.Below
import Derived.WalkLawsBesides
import Derived.Lib.Hide
import Derived.Outline
import Derived.RegionTactic
import Derived.Deep.QuietTactic
import Derived.BigQuiet
import Derived.WalkSpells
import Derived.Deep.OwnRows
import Derived.IntWalk
import Derived.Deep.DeepMust
namespace Go.Proofs.YtmgkjkfhhdkkmaaFmt.PqB
open Go.RowKit Mem Sl
set_option linter.unusedVariables false
open Prn Pru Str Line Qt Own PqA

/-- The printer p in the midst of a call that began in w: its cells cs (but for the buffer), its buffer v with the bytes Z; nothing below B0 has turned. -/
structure PW (w : World) (B0 p : Nat) (cs : List Value) (wr : World) (v : Value) (Z : List Int) : Prop where
  pr : Pr wr p 57 15 5 (cs.set 15 v) v Z
  bel : Below B0 w wr
  low : ∀ g, v.ownBlock = some g → B0 ≤ g
  hp : B0 ≤ p
  hB : B0 ≤ w.heap.size
section
variable {w wr wr' : World} {B0 p : Nat} {cs : List Value} {v v' : Value} {Z Z' : List Int}
theorem PW.step (h : PW w B0 p cs wr v Z) (hs : Step p wr v wr' v') (hp : Pr wr' p 57 15 5 ((cs.set 15 v).set 15 v') v' Z') : PW w B0 p cs wr' v' Z' :=
  ⟨by rw [set_cs] at hp; exact hp, h.bel.trans (hs.below h.hp h.low (Nat.le_trans h.hB h.bel.size)), hs.low (Nat.le_trans h.hB h.bel.size) h.low, h.hp, h.hB⟩
theorem PW.later (h : PW w B0 p cs wr v Z) (hb : Below wr.heap.size wr wr') : PW w B0 p cs wr' v Z :=
  ⟨⟨h.pr.row.below hb h.pr.row.lt, h.pr.at_, h.pr.buf.below hb (Nat.le_refl _)⟩, h.bel.trans (hb.mono (Nat.le_trans h.hB h.bel.size)), h.low, h.hp, h.hB⟩
theorem PW.drew (h : PW w B0 p cs wr v Z) : PW w B0 p cs wr.drew v Z := ⟨h.pr.drew, h.bel.drew, h.low, h.hp, h.hB⟩
theorem PW.cell (h : PW w B0 p cs wr v Z) {i : Nat} {x : Value} (hi : i ≠ 15) (hx : cs[i]? = some x) : wr.cell? ⟨p, i, none⟩ = some x :=
  h.pr.row.at_ (by rw [List.getElem?_set_ne (Ne.symm hi)]; exact hx)
end
theorem pw0 {w : World} {B0 p : Nat} {cs : List Value} {v : Value} {Z : List Int} (h : Pr w p 57 15 5 cs v Z) (hlow : ∀ g, v.ownBlock = some g → B0 ≤ g) (hp : B0 ≤ p) (hB : B0 ≤ w.heap.size) : PW w B0 p cs w v Z := by
  have e : cs.set 15 v = cs := by
    apply List.ext_getElem?
    intro j
    by_cases e : 15 = j
    · subst e
      have hlt := (List.getElem?_eq_some_iff.1 h.at_).1
      rw [List.getElem?_set_self hlt, h.at_]
    · rw [List.getElem?_set_ne e]
  exact ⟨by rw [e]; exact h, Below.refl _ _, hlow, hp, hB⟩
/-- The length of the last line of zs. -/
def lineOf (zs : List Int) : Int := (zs.length : Int) - nlFrom zs 0 0 zs.length
def wrB (L : Int) (fb : Bool) : Bool := decide (0 < L) && fb
def sta (zs : List Int) (L : Int) (fb : Bool) : Int := if wrB L fb = true then (if L < lineOf zs then L else lineOf zs) else 0

theorem rest_bound (q : Int) (wr : Bool) (L : Int) (s : ByteArray) : ∀ (n : Nat) (S : Int) (i : Nat), i ≤ s.size → (rest q wr L s n S i).length ≤ 4 * (s.size - i)
  | 0, S, i, h => by simp [rest]
  | n + 1, S, i, h => by
    rw [rest]
    by_cases hl : i < s.size
    · obtain ⟨h1, h2⟩ := wd_pos s i hl
      have ih := rest_bound q wr L s n (if ww wr L S i then S - L else S) (i + wd s i) h2
      have hg := seg_len s (show i ≤ i + wd s i by omega) h2
      rw [if_pos hl]
      simp only [List.length_append]
      have e1 : (if ww wr L S i then ([92, 10] : List Int) else []).length ≤ 2 := by split <;> simp
      have e2 : (if esc q s i then ([92] : List Int) else []).length ≤ 1 := by split <;> simp
      omega
    · rw [if_neg hl]; simp
/-- The cells that a printer keeps while it prints a quoted text. -/
structure Kept (cs : List Value) (L : Int) : Prop where
  lim : cs[3]? = some (.int .i64 L)
  uf : cs[5]? = some (.int .u16 0)
  ao : cs[7]? = some (.bool false)
/-- Before the loop. -/
def Start (w : World) (B0 p : Nat) (L : Int) (v : Value) (Z : List Int) (wx : World) : Prop := ∃ cs1, Kept cs1 L ∧ PW w B0 p cs1 wx v Z
theorem set_com {cs : List Value} {i j : Nat} {a b : Value} (h : i ≠ j) : (cs.set i a).set j b = (cs.set j b).set i a := List.set_comm a b h
theorem start_line {w w1 w2 : World} {B0 p n : Nat} {cs : List Value} {L S : Int} {v : Value} {Z : List Int} (hk : Kept cs L) (h : PW w B0 p cs w1 v Z) (hd : LineDone w1 p 57 (cs.set 15 v) 41 42 S n w2) : Start w B0 p L v Z w2 := by
  obtain ⟨hr, hg, _⟩ := hd
  refine ⟨(cs.set 41 (.int .i64 S)).set 42 (.int .i64 n), ⟨?_, ?_, ?_⟩, ⟨⟨?_, ?_, ?_⟩, ?_, h.low, h.hp, h.hB⟩⟩
  · rw [List.getElem?_set_ne (by decide), List.getElem?_set_ne (by decide)]; exact hk.lim
  · rw [List.getElem?_set_ne (by decide), List.getElem?_set_ne (by decide)]; exact hk.uf
  · rw [List.getElem?_set_ne (by decide), List.getElem?_set_ne (by decide)]; exact hk.ao
  · rw [set_com (i := 42) (j := 15) (by decide), set_com (i := 41) (j := 15) (by decide)]; exact hr
  · have hl : 15 < cs.length := by have := (List.getElem?_eq_some_iff.1 h.pr.at_).1; simpa using this
    simp [hl]
  · exact buf_other h.pr.buf hg (h.pr.buf.ne h.pr.row (by decide))
  · exact h.bel.trans (grown_below hg h.hp (Nat.le_trans h.hB h.bel.size))

theorem idx (s : ByteArray) (i : Nat) (h : i < s.size) (w : World) : (Instr.index 9 (.string s) (.int .i64 (i : Int))).run Tryf.prog w = .ok (.int .u8 ((Dec.by_ s i : Nat) : Int)) w := by
  rw [Dec.by_at s i h]
  simp [go_sem, h]
theorem idxm (s : ByteArray) (i : Nat) (h1 : 1 ≤ i) (h : i ≤ s.size) (w : World) : (Instr.index 9 (.string s) (.int .i64 ((i : Int) - 1))).run Tryf.prog w = .ok (.int .u8 ((Dec.by_ s (i - 1) : Nat) : Int)) w := by
  have := idx s (i - 1) (by omega) w
  rwa [show ((i - 1 : Nat) : Int) = (i : Int) - 1 by omega] at this
/-- The loop's head: i bytes read, those from r on not yet printed, Z printed. -/
structure Inv (w0 : World) (B0 p : Nat) (cs1 : List Value) (s : ByteArray) (q : Int) (wb : Bool) (L : Int) (TGT : List Int) (g i r : Nat) (S : Int) (wx : World) (v1 : Value) (Z : List Int) : Prop where
  hi : i ≤ s.size
  hr : r ≤ i
  hg : g = s.size - i
  hS1 : -(i : Int) ≤ S
  hS2 : S ≤ 2097152
  pw : PW w0 B0 p cs1 wx v1 Z
  eq : Z ++ seg s r i ++ outF q wb L s S i = TGT
/-- What stands behind the wrap at i. -/
def Aft (w0 : World) (B0 p : Nat) (cs1 : List Value) (s : ByteArray) (q : Int) (wb : Bool) (L : Int) (TGT : List Int) (i : Nat) (S : Int) (x10 : Value) (wx : World) : Prop :=
  ∃ (r : Nat) (v : Value) (Z : List Int), x10 = .int .i64 (r : Int) ∧ r ≤ i ∧ PW w0 B0 p cs1 wx v Z ∧ Z ++ seg s r i ++ ((if esc q s i then [92] else []) ++ (seg s i (i + wd s i) ++ outF q wb L s S (i + wd s i))) = TGT

/-- A piece of the text appended in a region that draws: the run and what it leaves. -/
theorem flush {w0 : World} {B0 p : Nat} {cs1 : List Value} {wr : World} {v1 : Value} {Z : List Int} {s : ByteArray} (r i : Nat) (h : PW w0 B0 p cs1 wr v1 Z) (hZ : Z.length ≤ 100000000) (hr : r ≤ i) (hi : i ≤ s.size) (hs : s.size ≤ 1048576) :
    ∃ A5 n5 c5 w5, (Builtin.append_ #[22, 9] 22 #[v1, .string (s.extract r i)]).run Tryf.prog wr.drew = .ok (.slice A5 n5 c5) w5 ∧ w5.cell? ⟨p, 15, none⟩ = some v1 ∧ w5.frozen? ⟨p, 15, none⟩ = false ∧
      PW w0 B0 p cs1 (w5.setCell ⟨p, 15, none⟩ (.slice A5 n5 c5)) (.slice A5 n5 c5) (Z ++ seg s r i) := by
  obtain ⟨i0, hi0, hz0, hz1, hz2⟩ := info_parts info5
  obtain ⟨v5, w5, hrun, hbuf, hgr, hat⟩ := run_append_str_at (P := Tryf.prog) wr.drew 22 9 22 5 i0 Tryf.underlying22 Tryf.underlying9 hi0 hz0 hz1 hz2 v1 Z h.drew.pr.buf (s.extract r i) (by rw [← nums_length, seg_nums, seg_len s hr hi]; omega)
  rw [seg_nums] at hbuf
  obtain ⟨A5, c5, hv⟩ := hbuf.form
  obtain ⟨k1, k2, k3, k4⟩ := h.drew.pr.store (by decide) hbuf (.of_grown hgr hat) hgr
  generalize (Z ++ seg s r i).length = n5 at hv
  subst hv
  exact ⟨A5, n5, c5, w5, hrun, k3, k4, by have := h.drew.step k2 k1; exact this⟩
theorem PW.print {w wr wr' : World} {B0 p : Nat} {cs : List Value} {v : Value} {Z Z' : List Int} (h : PW w B0 p cs wr v Z) (hP : Printed wr p 57 15 5 (cs.set 15 v) v Z' wr') : ∃ v', PW w B0 p cs wr' v' Z' := by
  obtain ⟨v', h1, h2⟩ := hP
  exact ⟨v', h.step h2 h1⟩
theorem seg_byte (s : ByteArray) (i : Nat) (h : i < s.size) : seg s i (i + 1) = [((Dec.by_ s i : Nat) : Int)] := by
  have hl : i < s.data.toList.length := by simpa using h
  rw [seg_one s h, Dec.by_at s i h]
  unfold nums
  rw [List.getD, List.getElem?_map, List.getElem?_eq_getElem hl]
  rfl
theorem nohex_q {c : Int} (h : c = 92 ∨ c = 34 ∨ c = 39 ∨ c = 47) : NoHex c := by unfold NoHex; omega

/-- What printQuotedWithQuote leaves. -/
def Quoted (w : World) (B0 p : Nat) (zs : List Int) (q : Int) (s : ByteArray) (L : Int) (fb : Bool) (e : Ending) (w' : World) : Prop :=
  e = .returned (.tuple #[]) ∧ ∃ cs' v', Pr w' p 57 15 5 cs' v' (zs ++ [q] ++ outF q (wrB L fb) L s (sta (zs ++ [q]) L fb) 0 ++ [q]) ∧ Below B0 w w' ∧ ∀ g, v'.ownBlock = some g → B0 ≤ g
theorem fin_q {w w0 W w8 : World} {B0 p : Nat} {cs1 cs2 : List Value} {v v8 : Value} {zs Z TGT : List Int} {q : Int} {s : ByteArray} {L : Int} {fb : Bool}
    (hT : zs ++ [q] ++ outF q (wrB L fb) L s (sta (zs ++ [q]) L fb) 0 ++ [q] = TGT ++ [q]) (hZ : Z = TGT) (hBW : Below B0 w w0) (hP : PW w0 B0 p cs1 W v Z) (k1 : Pr w8 p 57 15 5 cs2 v8 (Z ++ [q])) (k2 : Step p (W.alloc (.cells #[.int .u8 q] 5)) v w8 v8) :
    Quoted w B0 p zs q s L fb (.returned (.tuple #[])) w8 := by
  have h1 := hP.hB
  have h2 := hP.bel.size
  have h3 : B0 ≤ (W.alloc (.cells #[.int .u8 q] 5)).heap.size := by simp; omega
  refine ⟨rfl, cs2, v8, ?_, ?_, k2.low h3 hP.low⟩
  · rw [hT, ← hZ]; exact k1
  · exact (hBW.trans hP.bel).trans (((Below.refl B0 W).alloc (Nat.le_trans h1 h2) _).trans (k2.below hP.hp hP.low h3))
set_option maxRecDepth 100000 in
set_option maxHeartbeats 32000000 in
theorem quo11 (q : Int) (p B0 : Nat) (cs : List Value) (v : Value) (zs : List Int) (s : ByteArray) (L f : Int) (w : World) (h : Pr w p 57 15 5 cs v zs)
    (hkp : Kept cs L) (hos : cs[41]? = some (.int .i64 0)) (hoe : cs[42]? = some (.int .i64 0))
    (hlow : ∀ g, v.ownBlock = some g → B0 ≤ g) (hpB : B0 ≤ p) (hB : B0 ≤ w.heap.size) (hs : s.size ≤ 1048576) (hb : zs.length ≤ 1048576) (hwf : ∀ z ∈ zs, (Lit.int .u8 z).wf = true) (hL0 : -9223372036854775808 ≤ L) (hL1 : L ≤ 9223372036854775807) (hf0 : 0 ≤ f) (hf1 : f ≤ 255)
    (hq : q = 34 ∨ q = 39) (hP : Plain s)
    (hDEC : ∀ (t : ByteArray) (W : World), Below B0 w W → Calls Tryf.prog 14 #[.string t] W fun e w' => e = .returned (.tuple #[.int .i32 (Lib.decodeGo t).1, .int .i64 (Lib.decodeGo t).2]) ∧ Below W.heap.size W w')
    (hEF : ∀ (t : ByteArray) (W : World), t.size = 5 → Below B0 w W → Calls Tryf.prog 16 #[.string t, .string ⟨#[115, 116, 121, 108, 101]⟩] W fun e w' => e = .returned (.bool (fold5 t)) ∧ Below W.heap.size W w') :
    Calls Tryf.prog 11 #[.pointer (some ⟨p, 0, none⟩), .string s, .int .u8 q, .int .u8 f] w (Quoted w B0 p zs q s L (bits BinOp.and IntKind.u8 f 1 == 0)) := by
  obtain ⟨i0, hi, hz0, hz1, hz2⟩ := info_parts info5
  obtain ⟨A0, cc0, rfl⟩ := h.buf.form
  have HX := Lib.hid (h.alloc (.cells #[.int .u8 q] 5))
  have HC1 := Lib.hid (show (w.alloc (.cells #[.int .u8 q] 5)).cell? ⟨w.heap.size, 0, none⟩ = some (.int .u8 q) from (Row.newArr w 5 #[.int .u8 q]).at_ (i := 0) rfl)
  have c15 := h.row.at_ h.at_
  have HLEN := Lib.hid hb
  have HWF := Lib.hid (show ∀ z ∈ zs ++ [q], (Lit.int .u8 z).wf = true from fun z hz => by
    rcases List.mem_append.1 hz with hz | hz
    · exact hwf z hz
    · simp at hz; subst hz; rcases hq with rfl | rfl <;> rfl)
  have tq : (q != 0) = true := by simp; omega
  have tq0 : (q == 0) = false := by simp; omega
  have HQ := Lib.hid hq
  have HK := Lib.hid hkp
  have HOS := Lib.hid hos
  have HOE := Lib.hid hoe
  have HPL := Lib.hid hP
  have HDEC := Lib.hid hDEC
  have HEF := Lib.hid hEF
  have hq0 : 0 ≤ q := by omega
  have hq1 : q ≤ 255 := by omega
  have HBW := Lib.hid (show Below B0 w (w.alloc (.cells #[.int .u8 q] 5)) from (Below.refl _ _).alloc hB _)
  clear h hq hkp hos hoe hb hwf hDEC hEF hP
  go_enter Tryf.func11, Tryf.ntmps11
  go_upto_region 7 with (at_builtin; refine wpList_append_buf _ rfl (.tmp 22) (.tmp 24) 22 rfl 5 i0 Tryf.underlying22 hi hz0 hz1 hz2 (.slice A0 zs.length cc0) zs rfl HX.out.buf ⟨w.heap.size, 0, none⟩ 1 1 [q] rfl rfl (fun j hj => by obtain rfl : j = 0 := (by omega); exact HC1.out) (by have := HLEN.out; omega) ?_; intro A2 n2 cc2 w2 hbuf hgr hat; obtain ⟨k1, k2, k3, k4⟩ := HX.out.store (by decide) hbuf (.of_grown hgr hat) hgr; have K1 := Lib.hid k1; have K2 := Lib.hid k2; clear k1 k2 hbuf hgr hat)
  have hpw1 : PW (w.alloc (.cells #[.int .u8 q] 5)) B0 p cs (w2.setCell ⟨p, 15, none⟩ (.slice A2 n2 cc2)) (.slice A2 n2 cc2) (zs ++ [q]) := (pw0 HX.out hlow hpB (by simp; omega)).step K2.out (by rw [set_cs]; exact K1.out)
  have HPW1 := Lib.hid hpw1
  clear hpw1 c15 k3 k4 K1 K2
  generalize hW1 : w2.setCell ⟨p, 15, none⟩ (.slice A2 n2 cc2) = W1 at HPW1 ⊢
  clear hW1
  generalize hw0 : w.alloc (.cells #[.int .u8 q] 5) = w0 at HPW1 HX HC1 HBW
  have d3 := HPW1.out.cell (i := 3) (by decide) HK.out.lim
  clear hw0 HC1 HX
  go_cut [44] (fun s44 wx => s44 = .bool (wrB L (bits BinOp.and IntKind.u8 f 1 == 0)) ∧ wx = W1)
  case first =>
    as_aux_lemma =>
      skip
      by_cases hL : 0 < L
      · have tL : decide (0 < L) = true := by simp [hL]
        by_cases hfb : (bits BinOp.and IntKind.u8 f 1 == 0) = true
        · have HR := Lib.hid (show wrB L (bits BinOp.and IntKind.u8 f 1 == 0) = true by unfold wrB; rw [hfb]; simp [hL])
          go_wp2_with fail
          go_meet
          case rel => exact ⟨by rw [HR.out], rfl⟩
        · have hfb' : (bits BinOp.and IntKind.u8 f 1 == 0) = false := by simpa using hfb
          have HR := Lib.hid (show wrB L (bits BinOp.and IntKind.u8 f 1 == 0) = false by unfold wrB; rw [hfb']; simp)
          clear hfb
          go_wp2_with fail
          go_meet
          case rel => exact ⟨by rw [HR.out], rfl⟩
      · have tL : decide (0 < L) = false := by simp; omega
        have HR := Lib.hid (show wrB L (bits BinOp.and IntKind.u8 f 1 == 0) = false by unfold wrB; rw [tL]; rfl)
        go_wp2_with fail
        go_meet
        case rel => exact ⟨by rw [HR.out], rfl⟩
  case rest =>
  obtain ⟨rfl, rfl⟩ := hcut
  obtain ⟨fb, hfb⟩ : ∃ fb, fb = (bits BinOp.and IntKind.u8 f 1 == 0) := ⟨_, rfl⟩
  rw [← hfb]
  have HFB := Lib.hid hfb
  clear hfb
  obtain ⟨wb, hwr⟩ : ∃ wb, wrB L fb = wb := ⟨_, rfl⟩
  have HWR := Lib.hid hwr
  rw [hwr]
  obtain ⟨S0, hS0⟩ : ∃ S0, sta (zs ++ [q]) L fb = S0 := ⟨_, rfl⟩
  have HS0 := Lib.hid hS0
  clear hwr hS0
  go_upto_if 44 with fail
  go_cut [11, 12] (fun s11 s12 wx => s11 = .int .i64 S0 ∧ s12 = .bool wb ∧ Start w0 B0 p L (.slice A2 n2 cc2) (zs ++ [q]) wx)
  case first =>
    as_aux_lemma =>
      cases wb
      · have HZ := Lib.hid (show S0 = 0 by rw [← HS0.out]; unfold sta; rw [HWR.out]; rfl)
        go_wp2_with fail
        go_meet
        case rel => exact ⟨by rw [HZ.out], rfl, cs, HK.out, HPW1.out⟩
      · have hpos : 0 < L := by have := HWR.out; unfold wrB at this; simp at this; exact this.1
        obtain ⟨A3, c3, hv3, hi3, -⟩ := HPW1.out.pr.buf.ints (by have := HLEN.out; unfold maxLen; simp; omega) HWF.out
        generalize hln : (zs ++ [q]).length = ln at hv3 hi3
        have hln2 : ln ≤ 1048577 := by have := HLEN.out; rw [← hln]; simp; omega
        have HLN := Lib.hid hln
        injection hv3 with e1 e2 e3
        subst e1 e2 e3
        have nb := nl_bounds (zs ++ [q]) n2
        have H13 := Lib.hid (len13 A2 n2 cc2 p 0 0 (zs ++ [q]) _ _ hi3 (by omega) HPW1.out.pr.row HPW1.out.pr.at_ (by rw [List.getElem?_set_ne (by decide)]; exact HOS.out) (by rw [List.getElem?_set_ne (by decide)]; exact HOE.out) (Nat.zero_le _) (by omega) (by omega))
        have HLO := Lib.hid (show lineOf (zs ++ [q]) = (n2 : Int) - nlFrom (zs ++ [q]) 0 0 n2 by unfold lineOf; rw [HLN.out])
        generalize nlFrom (zs ++ [q]) 0 0 n2 = NF at H13 HLO nb
        clear hi3 hln
        go_wp2_with (go_at_call 13; (with_reducible refine H13.out.mono ?_); rintro e w3 ⟨rfl, hld⟩; have HST := Lib.hid (start_line HK.out HPW1.out hld); have e3 := hld.1.at_ (i := 3) (v := .int .i64 L) (by rw [List.getElem?_set_ne (by decide), List.getElem?_set_ne (by decide), List.getElem?_set_ne (by decide)]; exact HK.out.lim); clear hld)
        all_goals
          go_meet
          case rel => exact ⟨congrArg (Value.int .i64) (by rw [← HS0.out]; unfold sta; rw [if_pos HWR.out, HLO.out]; first | rw [if_pos (by omega)] | rw [if_neg (by omega)]), rfl, HST.out⟩
  case rest =>
  obtain ⟨rfl, rfl, cs1, hk1, hpw⟩ := hcut
  have HK1 := Lib.hid hk1
  have HPW2 := Lib.hid hpw
  have hlb := nl_bounds (zs ++ [q]) (zs ++ [q]).length
  have hS0b : 0 ≤ S0 ∧ S0 ≤ 2097152 := by
    have h1 := HS0.out
    have h2 := HLEN.out
    have h3 := HWR.out
    unfold sta lineOf at h1
    rw [h3] at h1
    have h4 : (zs ++ [q]).length = zs.length + 1 := by simp
    rw [h4] at h1 hlb
    unfold wrB at h3
    split at h1
    · rename_i hwb
      subst hwb
      simp at h3
      split at h1 <;> omega
    · omega
  have HWL := Lib.hid (show wb = true → 0 < L from fun h => by have := HWR.out; rw [h] at this; unfold wrB at this; simp at this; exact this.1)
  obtain ⟨TGT, hT⟩ : ∃ T, zs ++ [q] ++ outF q wb L s S0 0 = T := ⟨_, rfl⟩
  have HTL := Lib.hid (show TGT.length ≤ 10000000 by
    rw [← hT]
    have h1 := rest_bound q wb L s (s.size - 0) S0 0 (Nat.zero_le _)
    have h2 := HLEN.out
    have h3 : (outF q wb L s S0 0).length ≤ 4 * (s.size - 0) := h1
    simp only [List.length_append, List.length_singleton]
    omega)
  have HT := Lib.hid hT
  clear hk1 hpw hlb hT
  go_wp2_with fail
  go_loopg [9, 10, 11] s.size (fun g x9 x10 x11 wx => ∃ (i r : Nat) (S : Int) (v1 : Value) (Z : List Int), x9 = .int .i64 (i : Int) ∧ x10 = .int .i64 (r : Int) ∧ x11 = .int .i64 S ∧ Inv w0 B0 p cs1 s q wb L TGT g i r S wx v1 Z)
  case atStart => exact ⟨0, 0, S0, _, _, rfl, rfl, rfl, Nat.zero_le _, Nat.le_refl _, rfl, by omega, hS0b.2, HPW2.out, by rw [seg_self, List.append_nil]; exact HT.out⟩
  case round =>
    obtain ⟨i, r, S, v1, Z, rfl, rfl, rfl, hinv⟩ := hrel
    have hi' := hinv.hi
    have hr' := hinv.hr
    have hS1 := hinv.hS1
    have hS2 := hinv.hS2
    have HG := Lib.hid hinv.hg
    have HEQ := Lib.hid hinv.eq
    have HP := Lib.hid hinv.pw
    clear hinv
    by_cases hlt : i < s.size
    case neg =>
      have hie : i = s.size := by omega
      subst hie
      have HFE := Lib.hid (show Z ++ seg s r s.size = TGT by have := HEQ.out; rw [outF_end] at this; simpa using this)
      have HTT := Lib.hid (show zs ++ [q] ++ outF q (wrB L (bits BinOp.and IntKind.u8 f 1 == 0)) L s (sta (zs ++ [q]) L (bits BinOp.and IntKind.u8 f 1 == 0)) 0 ++ [q] = TGT ++ [q] by rw [← HFB.out, HWR.out, HS0.out, HT.out])
      obtain ⟨A1, cc1, hv1⟩ := HP.out.pr.buf.form
      have HZL := Lib.hid (show Z.length ≤ 10000000 by have h1 := congrArg List.length HFE.out; simp only [List.length_append] at h1; have := HTL.out; omega)
      generalize hn1 : Z.length = n1 at hv1
      subst hv1
      have d15 := HP.out.pr.row.at_ HP.out.pr.at_
      have HBW0 := Lib.hid (Below.trans HBW.out HP.out.bel)
      clear hn1 HDEC HEF
      by_cases hri : r < s.size
      · obtain ⟨A5, n5, c5, w5, hrun, k3, k4, hpw6⟩ := flush r s.size HP.out (by have := HZL.out; omega) hr' (Nat.le_refl _) hs
        have HRUN := Lib.hid hrun
        have HPW6 := Lib.hid hpw6
        clear hrun hpw6
        go_wp2_with fail
        go_region_law (first | (refine step_append_run rfl _ _ 22 9 rfl _ _ _ w5 rfl rfl HRUN.out ?_))
        all_goals
          clear d15 k3 k4
          generalize hW6 : w5.setCell ⟨p, 15, none⟩ (.slice A5 n5 c5) = W6 at HPW6 ⊢
          clear hW6 HRUN
          have e15 := HPW6.out.pr.row.at_ HPW6.out.pr.at_
          have HPA := Lib.hid (HPW6.out.pr.alloc (.cells #[.int .u8 q] 5))
          have HCQ := Lib.hid (show (W6.alloc (.cells #[.int .u8 q] 5)).cell? ⟨W6.heap.size, 0, none⟩ = some (.int .u8 q) from (Row.newArr W6 5 #[.int .u8 q]).at_ (i := 0) rfl)
          have HLB := Lib.hid (show (Z ++ seg s r s.size).length + 1 ≤ 1000000000 by rw [HFE.out]; have := HTL.out; omega)
          as_aux_lemma =>
            go_wp2_with (at_builtin; refine wpList_append_buf _ rfl (.tmp 231) (.tmp 233) 22 rfl 5 i0 Tryf.underlying22 hi hz0 hz1 hz2 (.slice A5 n5 c5) (Z ++ seg s r s.size) rfl HPA.out.buf ⟨W6.heap.size, 0, none⟩ 1 1 [q] rfl rfl (fun j hj => by obtain rfl : j = 0 := (by omega); exact HCQ.out) HLB.out ?_; intro A7 n7 c7 w7 hbuf hgr hat; obtain ⟨k1, k2, k3, k4⟩ := HPA.out.store (by decide) hbuf (.of_grown hgr hat) hgr; have K1 := Lib.hid k1; have K2 := Lib.hid k2; clear k1 k2 hbuf hgr hat)
            go_end0
            exact fin_q HTT.out HFE.out HBW.out HPW6.out K1.out K2.out
      · have hre : r = s.size := by omega
        subst hre
        have HFE2 := Lib.hid (show Z = TGT by have := HFE.out; rwa [seg_self, List.append_nil] at this)
        have HPA := Lib.hid (HP.out.pr.alloc (.cells #[.int .u8 q] 5))
        have HCQ := Lib.hid (show (wr.alloc (.cells #[.int .u8 q] 5)).cell? ⟨wr.heap.size, 0, none⟩ = some (.int .u8 q) from (Row.newArr wr 5 #[.int .u8 q]).at_ (i := 0) rfl)
        have HLB := Lib.hid (show Z.length + 1 ≤ 1000000000 by have := HZL.out; omega)
        as_aux_lemma =>
          go_wp2_with (at_builtin; refine wpList_append_buf _ rfl (.tmp 231) (.tmp 233) 22 rfl 5 i0 Tryf.underlying22 hi hz0 hz1 hz2 (.slice A1 n1 cc1) Z rfl HPA.out.buf ⟨wr.heap.size, 0, none⟩ 1 1 [q] rfl rfl (fun j hj => by obtain rfl : j = 0 := (by omega); exact HCQ.out) HLB.out ?_; intro A7 n7 c7 w7 hbuf hgr hat; obtain ⟨k1, k2, k3, k4⟩ := HPA.out.store (by decide) hbuf (.of_grown hgr hat) hgr; have K1 := Lib.hid k1; have K2 := Lib.hid k2; clear k1 k2 hbuf hgr hat)
          go_end0
          exact fin_q HTT.out HFE2.out HBW.out HP.out K1.out K2.out
    have hst := outF_step (q := q) (wr := wb) (L := L) (S := S) hlt
    obtain ⟨b, hww⟩ : ∃ b, ww wb L S i = b := ⟨_, rfl⟩
    rw [hww] at hst
    have HWW := Lib.hid hww
    have hSb : -(i : Int) ≤ (if b then S - L else S) ∧ (if b then S - L else S) ≤ 2097152 := by
      have h1 := HWW.out
      cases b
      · exact ⟨hS1, hS2⟩
      · unfold ww at h1
        simp at h1
        have := HWL.out h1.1
        simp
        omega
    have HSB := Lib.hid hSb
    clear hSb
    have HSTP := Lib.hid hst
    clear hww hst
    have d3 := HP.out.cell (i := 3) (by decide) HK1.out.lim
    go_upto_region 13 with fail
    go_cut [73] (fun s73 wx => s73 = .bool b ∧ wx = wr)
    case first =>
      as_aux_lemma =>
        cases wb
        · have HR := Lib.hid (show b = false by rw [← HWW.out]; rfl)
          go_wp2_with fail
          go_meet
          case rel => exact ⟨by rw [HR.out], rfl⟩
        · by_cases hle : L ≤ S + (i : Int)
          · have tle : decide (L ≤ S + (i : Int)) = true := by simp [hle]
            have HR := Lib.hid (show b = true by rw [← HWW.out]; unfold ww; rw [tle]; rfl)
            go_wp2_with fail
            go_meet
            case rel => exact ⟨by rw [HR.out], rfl⟩
          · have tle : decide (L ≤ S + (i : Int)) = false := by simp; omega
            have HR := Lib.hid (show b = false by rw [← HWW.out]; unfold ww; rw [tle]; rfl)
            go_wp2_with fail
            go_meet
            case rel => exact ⟨by rw [HR.out], rfl⟩
    case rest =>
    obtain ⟨rfl, rfl⟩ := hcut
    go_upto_if 73 with fail
    go_cut [10, 11] (fun x10 x11 wx => x11 = .int .i64 (if b then S - L else S) ∧ Aft w0 B0 p cs1 s q wb L TGT i (if b then S - L else S) x10 wx)
    case first =>
      cases b
      · have HAF := Lib.hid (show Z ++ seg s r i ++ ((if esc q s i then [92] else []) ++ (seg s i (i + wd s i) ++ outF q wb L s S (i + wd s i))) = TGT by have := HEQ.out; rw [HSTP.out] at this; simpa using this)
        go_wp2_with fail
        go_meet
        case rel => exact ⟨rfl, r, v1, Z, rfl, hr', HP.out, HAF.out⟩
      · skip
        have hwb : wb = true := by have := HWW.out; unfold ww at this; simp at this; exact this.1
        have hle : L ≤ S + (i : Int) := by have := HWW.out; unfold ww at this; simp at this; exact this.2
        have hpos : 0 < L := HWL.out hwb
        clear hwb
        obtain ⟨A1, cc1, hv1⟩ := HP.out.pr.buf.form
        have HZL := Lib.hid (show Z.length ≤ 10000000 by have h1 := congrArg List.length HEQ.out; simp only [List.length_append] at h1; have := HTL.out; omega)
        generalize hn1 : Z.length = n1 at hv1
        subst hv1
        have d15 := HP.out.pr.row.at_ HP.out.pr.at_
        clear hn1
        by_cases hri : r < i
        · obtain ⟨A5, n5, c5, w5, hrun, k3, k4, hpw6⟩ := flush r i HP.out (by have := HZL.out; omega) hr' hi' hs
          have HRUN := Lib.hid hrun
          have HPW6 := Lib.hid hpw6
          clear hrun hpw6
          go_wp2_with fail
          go_region_law (first | (refine step_append_run rfl _ _ 22 9 rfl _ _ _ w5 rfl rfl HRUN.out ?_))
          all_goals
            clear d15 d3 k3 k4
            generalize hW6 : w5.setCell ⟨p, 15, none⟩ (.slice A5 n5 c5) = W6 at HPW6 ⊢
            clear hW6 HRUN
            have e15 := HPW6.out.pr.row.at_ HPW6.out.pr.at_
            have f3 := HPW6.out.cell (i := 3) (by decide) HK1.out.lim
            have HLB := Lib.hid (show (Z ++ seg s r i).length + (⟨#[92, 10]⟩ : ByteArray).size ≤ 1000000000 by have := HZL.out; have := seg_len s hr' hi'; simp [ByteArray.size]; omega)
            have HAF := Lib.hid (show (Z ++ seg s r i ++ nums ⟨#[92, 10]⟩) ++ seg s i i ++ ((if esc q s i then [92] else []) ++ (seg s i (i + wd s i) ++ outF q wb L s (S - L) (i + wd s i))) = TGT by have := HEQ.out; rw [HSTP.out] at this; rw [seg_self, ← this]; simp [nums])
            as_aux_lemma =>
              go_wp2_with (at_builtin; refine wpList_append_str _ rfl (.tmp 94) (.const (.string ⟨#[92, 10]⟩)) 22 9 rfl 5 i0 Tryf.underlying22 Tryf.underlying9 hi hz0 hz1 hz2 (.slice A5 n5 c5) (Z ++ seg s r i) rfl HPW6.out.pr.buf ⟨#[92, 10]⟩ rfl HLB.out ?_; intro A7 n7 c7 w7 hbuf hgr hat; obtain ⟨k1, k2, k3, k4⟩ := HPW6.out.pr.store (by decide) hbuf (.of_grown hgr hat) hgr; have hrb := HPW6.out.pr.row.grown hgr (fun e => HPW6.out.pr.buf.ne HPW6.out.pr.row (by decide) e.symm); have e3 : w7.cell? ⟨p, 3, none⟩ = some (.int .i64 L) := hrb.at_ (by rw [List.getElem?_set_ne (by decide)]; exact HK1.out.lim); have HPW7 := Lib.hid (HPW6.out.step k2 k1); clear k1 k2 hbuf hgr hat hrb)
              go_meet
              case rel => exact ⟨rfl, i, _, _, rfl, Nat.le_refl _, HPW7.out, HAF.out⟩
        · obtain rfl : r = i := by omega
          have HLB := Lib.hid (show Z.length + (⟨#[92, 10]⟩ : ByteArray).size ≤ 1000000000 by have := HZL.out; simp [ByteArray.size]; omega)
          have HAF := Lib.hid (show (Z ++ nums ⟨#[92, 10]⟩) ++ seg s r r ++ ((if esc q s r then [92] else []) ++ (seg s r (r + wd s r) ++ outF q wb L s (S - L) (r + wd s r))) = TGT by have := HEQ.out; rw [HSTP.out] at this; rw [seg_self] at this ⊢; rw [← this]; simp [nums])
          as_aux_lemma =>
            go_wp2_with (at_builtin; refine wpList_append_str _ rfl (.tmp 94) (.const (.string ⟨#[92, 10]⟩)) 22 9 rfl 5 i0 Tryf.underlying22 Tryf.underlying9 hi hz0 hz1 hz2 (.slice A1 n1 cc1) (Z) rfl HP.out.pr.buf ⟨#[92, 10]⟩ rfl HLB.out ?_; intro A7 n7 c7 w7 hbuf hgr hat; obtain ⟨k1, k2, k3, k4⟩ := HP.out.pr.store (by decide) hbuf (.of_grown hgr hat) hgr; have hrb := HP.out.pr.row.grown hgr (fun e => HP.out.pr.buf.ne HP.out.pr.row (by decide) e.symm); have e3 : w7.cell? ⟨p, 3, none⟩ = some (.int .i64 L) := hrb.at_ (by rw [List.getElem?_set_ne (by decide)]; exact HK1.out.lim); have HPW7 := Lib.hid (HP.out.step k2 k1); clear k1 k2 hbuf hgr hat hrb)
            go_meet
            case rel => exact ⟨rfl, r, _, _, rfl, Nat.le_refl _, HPW7.out, HAF.out⟩
    case rest =>
    obtain ⟨rfl, r1, v2, Z1, rfl, hr1, hpw, haf⟩ := hcut
    have HPW3 := Lib.hid hpw
    have HAF := Lib.hid haf
    clear hpw haf d3 HP HEQ HSTP hr' HWW hS1 hS2
    generalize hS' : (if b then S - L else S) = S' at HAF HSB ⊢
    clear hS'
    have hdt := Step.dec_tail s i hlt
    have H14 := Lib.hid (show Calls Tryf.prog 14 #[.string (s.extract i s.size)] _ fun e w' => e = .returned (.tuple #[.int .i32 ((ru s i : Nat) : Int), .int .i64 ((wd s i : Nat) : Int)]) ∧ Below wc.heap.size wc w' by have := HDEC.out (s.extract i s.size) wc (HBW.out.trans HPW3.out.bel); rw [hdt] at this; exact this)
    have hpl := plain_ru HPL.out hlt
    have hwd := wd_pos s i hlt
    have HLOW := Lib.hid (fun h => ru_low (s := s) (i := i) h)
    obtain ⟨R, hR⟩ : ∃ R, ru s i = R := ⟨_, rfl⟩
    obtain ⟨WD, hWD⟩ : ∃ WD, wd s i = WD := ⟨_, rfl⟩
    have HESC := Lib.hid (show esc q s i = ((R : Int) == 92 || (R : Int) == q || ((R : Int) == 47 && sty s i)) by unfold esc; rw [hR])
    rw [hR] at hpl HLOW H14
    rw [hWD] at hwd HAF H14 HLOW
    have HR := Lib.hid hR
    clear hR hWD hdt
    obtain ⟨eb, heb⟩ : ∃ eb, esc q s i = eb := ⟨_, rfl⟩
    rw [heb] at HESC HAF
    clear heb
    have hRb : R ≤ 1114111 := by have h9 := (Step.dec_scalar s i).1; have h8 := HR.out; unfold ru at h8; omega
    go_upto_block 2 with (go_at_call 14; (with_reducible refine H14.out.mono ?_); rintro e w4 ⟨rfl, hb4⟩; have HB4 := Lib.hid hb4; clear hb4)
    have HPW4 := Lib.hid (HPW3.out.later HB4.out)
    clear HPW3 H14 HDEC
    have t0 : ((R : Int) == 0) = false := by simp; omega
    have t13 : ((R : Int) == 13) = false := by simp; omega
    have t10 : ((R : Int) == 10) = false := by simp; omega
    have t12 : ((R : Int) == 12) = false := by simp; omega
    have d5 := HPW4.out.cell (i := 5) (by decide) HK1.out.uf
    have d7 := HPW4.out.cell (i := 7) (by decide) HK1.out.ao
    by_cases h92 : R = 92
    case pos =>
      subst h92
      have HV := Lib.hid (show eb = true by rw [HESC.out]; simp)
      obtain ⟨hb0, hw1⟩ := HLOW.out (by omega)
      subst hw1
      have HSG := Lib.hid (show seg s i (i + 1) = [92] by rw [seg_byte s i hlt, hb0]; try rfl)
      have HHX := Lib.hid (nohex_q (c := 92) (.inl rfl))
      have HZ1 := Lib.hid (show (Z1 ++ seg s r1 i).length ≤ 10000000 by have h1 := congrArg List.length HAF.out; simp only [List.length_append] at h1 ⊢; have := HTL.out; omega)
      have HEX := Lib.hid (show Z1 ++ seg s r1 i ++ [92] ++ [92] ++ outF q wb L s S' (i + 1) = TGT by have h1 := HAF.out; rw [HV.out, HSG.out] at h1; rw [← h1]; simp)
      clear hb0
      go_upto_if 182 with fail
      have HPV := Lib.hid (HPW4.out : PW w0 B0 p cs1 _ v2 Z1)
      obtain ⟨A1, cc1, hv1⟩ := HPV.out.pr.buf.form
      generalize hn1 : Z1.length = n1 at hv1
      subst hv1
      have hz1 : Z1.length ≤ 10000000 := by have := HZ1.out; simp only [List.length_append] at this; omega
      have HZ2 := Lib.hid hz1
      have d15 := HPV.out.pr.row.at_ HPV.out.pr.at_
      clear hn1 hz1
      by_cases hr2 : r1 < i
      · obtain ⟨A5, n5, c5, w5, hrun, k3, k4, hpw6⟩ := flush r1 i HPV.out (by have := HZ2.out; omega) hr1 hi' hs
        have HRUN := Lib.hid hrun
        have HPW6 := Lib.hid hpw6
        clear hrun hpw6
        go_wp2_with fail
        go_region_law (first | (refine step_append_run rfl _ _ 22 9 rfl _ _ _ w5 rfl rfl HRUN.out ?_))
        all_goals
          clear d15 k3 k4
          generalize hW6 : w5.setCell ⟨p, 15, none⟩ (.slice A5 n5 c5) = W6 at HPW6 ⊢
          clear hW6 HRUN
          have HLX := Lib.hid (show (Z1 ++ seg s r1 i).length ≤ 100000000 by have := HZ1.out; omega)
          as_aux_lemma =>
            go_wp2_with (go_at_call 17; refine (esc17_bs p (cs1.set 15 (.slice A5 n5 c5)) (.slice A5 n5 c5) (Z1 ++ seg s r1 i) _ _ _ _ HPW6.out.pr (by first | omega | decide) (by first | omega | decide) HLX.out HHX.out).mono ?_; rintro e w8 ⟨rfl, hpr⟩; obtain ⟨v8, hpw8⟩ := HPW6.out.print hpr; have HPW8 := Lib.hid hpw8; clear hpr hpw8)
            go_roundg (s.size - (i + 1))
            case measure => have := HG.out; omega
            case rel => exact ⟨i + 1, i + 1, S', v8, _, by go_num, by go_num, rfl, by omega, Nat.le_refl _, rfl, (by have := HSB.out; omega), HSB.out.2, HPW8.out, by rw [seg_self, List.append_nil]; exact HEX.out⟩
      · have hre : r1 = i := by omega
        subst hre
        have HLX := Lib.hid (show Z1.length ≤ 100000000 by have := HZ2.out; omega)
        have HEX2 := Lib.hid (show Z1 ++ [92] ++ [92] ++ outF q wb L s S' (r1 + 1) = TGT by have h1 := HEX.out; rwa [seg_self, List.append_nil] at h1)
        as_aux_lemma =>
          go_wp2_with (go_at_call 17; refine (esc17_bs p (cs1.set 15 (.slice A1 n1 cc1)) (.slice A1 n1 cc1) (Z1) _ _ _ _ HPV.out.pr (by first | omega | decide) (by first | omega | decide) HLX.out HHX.out).mono ?_; rintro e w8 ⟨rfl, hpr⟩; obtain ⟨v8, hpw8⟩ := HPV.out.print hpr; have HPW8 := Lib.hid hpw8; clear hpr hpw8)
          go_roundg (s.size - (r1 + 1))
          case measure => have := HG.out; omega
          case rel => exact ⟨r1 + 1, r1 + 1, S', v8, _, by go_num, by go_num, rfl, by omega, Nat.le_refl _, rfl, (by have := HSB.out; omega), HSB.out.2, HPW8.out, by rw [seg_self, List.append_nil]; exact HEX2.out⟩
    have t92 : ((R : Int) == 92) = false := by simp; omega
    by_cases hRq : (R : Int) = q
    case pos =>
      have tRq : ((R : Int) == q) = true := by simp [hRq]
      have hR7 : 34 ≤ R ∧ R ≤ 39 := by rcases HQ.out with h | h <;> omega
      have hR8 : 0 ≤ (R : Int) ∧ (R : Int) < 128 := by omega
      have HRq := Lib.hid hRq
      clear hRq
      have HV := Lib.hid (show eb = true by rw [HESC.out]; simp [tRq])
      obtain ⟨hb0, hw1⟩ := HLOW.out (by omega)
      subst hw1
      have HSG := Lib.hid (show seg s i (i + 1) = [(R : Int)] by rw [seg_byte s i hlt, hb0]; try rfl)
      have HHX := Lib.hid (nohex_q (c := (R : Int)) (by have := HRq.out; rcases HQ.out with h | h <;> omega))
      have HZ1 := Lib.hid (show (Z1 ++ seg s r1 i).length ≤ 10000000 by have h1 := congrArg List.length HAF.out; simp only [List.length_append] at h1 ⊢; have := HTL.out; omega)
      have HEX := Lib.hid (show Z1 ++ seg s r1 i ++ [92] ++ [(R : Int)] ++ outF q wb L s S' (i + 1) = TGT by have h1 := HAF.out; rw [HV.out, HSG.out] at h1; rw [← h1]; simp)
      clear hb0
      go_upto_if 182 with fail
      have HPV := Lib.hid (HPW4.out : PW w0 B0 p cs1 _ v2 Z1)
      obtain ⟨A1, cc1, hv1⟩ := HPV.out.pr.buf.form
      generalize hn1 : Z1.length = n1 at hv1
      subst hv1
      have hz1 : Z1.length ≤ 10000000 := by have := HZ1.out; simp only [List.length_append] at this; omega
      have HZ2 := Lib.hid hz1
      have d15 := HPV.out.pr.row.at_ HPV.out.pr.at_
      clear hn1 hz1
      by_cases hr2 : r1 < i
      · obtain ⟨A5, n5, c5, w5, hrun, k3, k4, hpw6⟩ := flush r1 i HPV.out (by have := HZ2.out; omega) hr1 hi' hs
        have HRUN := Lib.hid hrun
        have HPW6 := Lib.hid hpw6
        clear hrun hpw6
        go_wp2_with fail
        go_region_law (first | (refine step_append_run rfl _ _ 22 9 rfl _ _ _ w5 rfl rfl HRUN.out ?_))
        all_goals
          clear d15 k3 k4
          generalize hW6 : w5.setCell ⟨p, 15, none⟩ (.slice A5 n5 c5) = W6 at HPW6 ⊢
          clear hW6 HRUN
          have HLX := Lib.hid (show (Z1 ++ seg s r1 i).length ≤ 100000000 by have := HZ1.out; omega)
          as_aux_lemma =>
            go_wp2_with (go_at_call 17; refine (esc17_bs p (cs1.set 15 (.slice A5 n5 c5)) (.slice A5 n5 c5) (Z1 ++ seg s r1 i) _ _ _ _ HPW6.out.pr (by first | omega | decide) (by first | omega | decide) HLX.out HHX.out).mono ?_; rintro e w8 ⟨rfl, hpr⟩; obtain ⟨v8, hpw8⟩ := HPW6.out.print hpr; have HPW8 := Lib.hid hpw8; clear hpr hpw8)
            go_roundg (s.size - (i + 1))
            case measure => have := HG.out; omega
            case rel => exact ⟨i + 1, i + 1, S', v8, _, by go_num, by go_num, rfl, by omega, Nat.le_refl _, rfl, (by have := HSB.out; omega), HSB.out.2, HPW8.out, by rw [seg_self, List.append_nil]; exact HEX.out⟩
      · have hre : r1 = i := by omega
        subst hre
        have HLX := Lib.hid (show Z1.length ≤ 100000000 by have := HZ2.out; omega)
        have HEX2 := Lib.hid (show Z1 ++ [92] ++ [(R : Int)] ++ outF q wb L s S' (r1 + 1) = TGT by have h1 := HEX.out; rwa [seg_self, List.append_nil] at h1)
        as_aux_lemma =>
          go_wp2_with (go_at_call 17; refine (esc17_bs p (cs1.set 15 (.slice A1 n1 cc1)) (.slice A1 n1 cc1) (Z1) _ _ _ _ HPV.out.pr (by first | omega | decide) (by first | omega | decide) HLX.out HHX.out).mono ?_; rintro e w8 ⟨rfl, hpr⟩; obtain ⟨v8, hpw8⟩ := HPV.out.print hpr; have HPW8 := Lib.hid hpw8; clear hpr hpw8)
          go_roundg (s.size - (r1 + 1))
          case measure => have := HG.out; omega
          case rel => exact ⟨r1 + 1, r1 + 1, S', v8, _, by go_num, by go_num, rfl, by omega, Nat.le_refl _, rfl, (by have := HSB.out; omega), HSB.out.2, HPW8.out, by rw [seg_self, List.append_nil]; exact HEX2.out⟩
    have tRq : ((R : Int) == q) = false := by simp [hRq]
    by_cases h40 : R = 40
    case pos =>
      subst h40
      have tRq2 : ((40 : Int) == q) = false := by simpa using hRq
      have HV := Lib.hid (show eb = false by rw [HESC.out]; simp [tRq2])
      have HEQ2 := Lib.hid (show Z1 ++ seg s r1 (i + WD) ++ outF q wb L s S' (i + WD) = TGT by have := HAF.out; rw [HV.out] at this; rw [← seg_add s hr1 (show i ≤ i + WD by omega)]; simpa using this)
      as_aux_lemma =>
        go_wp2_with fail
        go_roundg (s.size - (i + WD))
        case measure => have := HG.out; omega
        case rel => exact ⟨i + WD, r1, S', v2, Z1, by go_num, rfl, rfl, hwd.2, by omega, rfl, (by have := HSB.out; omega), HSB.out.2, HPW4.out, HEQ2.out⟩
    by_cases h41 : R = 41
    case pos =>
      subst h41
      have tRq2 : ((41 : Int) == q) = false := by simpa using hRq
      have HV := Lib.hid (show eb = false by rw [HESC.out]; simp [tRq2])
      have HEQ2 := Lib.hid (show Z1 ++ seg s r1 (i + WD) ++ outF q wb L s S' (i + WD) = TGT by have := HAF.out; rw [HV.out] at this; rw [← seg_add s hr1 (show i ≤ i + WD by omega)]; simpa using this)
      as_aux_lemma =>
        go_wp2_with fail
        go_roundg (s.size - (i + WD))
        case measure => have := HG.out; omega
        case rel => exact ⟨i + WD, r1, S', v2, Z1, by go_num, rfl, rfl, hwd.2, by omega, rfl, (by have := HSB.out; omega), HSB.out.2, HPW4.out, HEQ2.out⟩
    by_cases h32 : R = 32
    case pos =>
      subst h32
      have tRq2 : ((32 : Int) == q) = false := by simpa using hRq
      have HV := Lib.hid (show eb = false by rw [HESC.out]; simp [tRq2])
      have HEQ2 := Lib.hid (show Z1 ++ seg s r1 (i + WD) ++ outF q wb L s S' (i + WD) = TGT by have := HAF.out; rw [HV.out] at this; rw [← seg_add s hr1 (show i ≤ i + WD by omega)]; simpa using this)
      as_aux_lemma =>
        go_wp2_with fail
        go_roundg (s.size - (i + WD))
        case measure => have := HG.out; omega
        case rel => exact ⟨i + WD, r1, S', v2, Z1, by go_num, rfl, rfl, hwd.2, by omega, rfl, (by have := HSB.out; omega), HSB.out.2, HPW4.out, HEQ2.out⟩
    by_cases h9 : R = 9
    case pos =>
      subst h9
      have tRq2 : ((9 : Int) == q) = false := by simpa using hRq
      have HV := Lib.hid (show eb = false by rw [HESC.out]; simp [tRq2])
      have HEQ2 := Lib.hid (show Z1 ++ seg s r1 (i + WD) ++ outF q wb L s S' (i + WD) = TGT by have := HAF.out; rw [HV.out] at this; rw [← seg_add s hr1 (show i ≤ i + WD by omega)]; simpa using this)
      as_aux_lemma =>
        go_wp2_with fail
        go_roundg (s.size - (i + WD))
        case measure => have := HG.out; omega
        case rel => exact ⟨i + WD, r1, S', v2, Z1, by go_num, rfl, rfl, hwd.2, by omega, rfl, (by have := HSB.out; omega), HSB.out.2, HPW4.out, HEQ2.out⟩
    by_cases h34 : R = 34
    case pos =>
      subst h34
      have tRq2 : ((34 : Int) == q) = false := by simpa using hRq
      have HV := Lib.hid (show eb = false by rw [HESC.out]; simp [tRq2])
      have HEQ2 := Lib.hid (show Z1 ++ seg s r1 (i + WD) ++ outF q wb L s S' (i + WD) = TGT by have := HAF.out; rw [HV.out] at this; rw [← seg_add s hr1 (show i ≤ i + WD by omega)]; simpa using this)
      as_aux_lemma =>
        go_wp2_with fail
        go_roundg (s.size - (i + WD))
        case measure => have := HG.out; omega
        case rel => exact ⟨i + WD, r1, S', v2, Z1, by go_num, rfl, rfl, hwd.2, by omega, rfl, (by have := HSB.out; omega), HSB.out.2, HPW4.out, HEQ2.out⟩
    by_cases h39 : R = 39
    case pos =>
      subst h39
      have tRq2 : ((39 : Int) == q) = false := by simpa using hRq
      have HV := Lib.hid (show eb = false by rw [HESC.out]; simp [tRq2])
      have HEQ2 := Lib.hid (show Z1 ++ seg s r1 (i + WD) ++ outF q wb L s S' (i + WD) = TGT by have := HAF.out; rw [HV.out] at this; rw [← seg_add s hr1 (show i ≤ i + WD by omega)]; simpa using this)
      as_aux_lemma =>
        go_wp2_with fail
        go_roundg (s.size - (i + WD))
        case measure => have := HG.out; omega
        case rel => exact ⟨i + WD, r1, S', v2, Z1, by go_num, rfl, rfl, hwd.2, by omega, rfl, (by have := HSB.out; omega), HSB.out.2, HPW4.out, HEQ2.out⟩
    have t40 : ((R : Int) == 40) = false := by simp; omega
    have t41 : ((R : Int) == 41) = false := by simp; omega
    have t32 : ((R : Int) == 32) = false := by simp; omega
    have t9 : ((R : Int) == 9) = false := by simp; omega
    have t34 : ((R : Int) == 34) = false := by simp; omega
    have t39 : ((R : Int) == 39) = false := by simp; omega
    by_cases h47 : R = 47
    case pos =>
      subst h47
      have tRq2 : ((47 : Int) == q) = false := by simpa using hRq
      by_cases h1 : 1 ≤ i
      case neg =>
        have u1 : decide ((1 : Int) ≤ (i : Int)) = false := by simp; omega
        have HSY := Lib.hid (show sty s i = false by unfold sty; simp; omega)
        have HV := Lib.hid (show eb = false by rw [HESC.out]; simp [tRq2, HSY.out])
        have HEQ2 := Lib.hid (show Z1 ++ seg s r1 (i + WD) ++ outF q wb L s S' (i + WD) = TGT by have := HAF.out; rw [HV.out] at this; rw [← seg_add s hr1 (show i ≤ i + WD by omega)]; simpa using this)
        as_aux_lemma =>
          go_wp2_with (go_at_call 15; (with_reducible refine (has15 _).mono ?_); rintro e w5 ⟨rfl, rfl⟩)
          go_roundg (s.size - (i + WD))
          case measure => have := HG.out; omega
          case rel => exact ⟨i + WD, r1, S', v2, Z1, by go_num, rfl, rfl, hwd.2, by omega, rfl, (by have := HSB.out; omega), HSB.out.2, HPW4.out, HEQ2.out⟩
      have u1 : decide ((1 : Int) ≤ (i : Int)) = true := by simp; omega
      have x1 := fun w => idxm s i h1 hi' w
      have HSY := Lib.hid (show sty s i = (decide (1 ≤ i) && ((Dec.by_ s (i - 1) : Int) == 60) && decide (i + 6 ≤ s.size) && fold5 (s.extract (i + 1) (i + 6))) from rfl)
      generalize Dec.by_ s (i - 1) = BB at x1 HSY
      by_cases h60 : BB = 60
      case neg =>
        have u2 : ((BB : Int) == 60) = false := by simp; omega
        have HV := Lib.hid (show eb = false by rw [HESC.out]; simp [tRq2, HSY.out, h1]; omega)
        have HEQ2 := Lib.hid (show Z1 ++ seg s r1 (i + WD) ++ outF q wb L s S' (i + WD) = TGT by have := HAF.out; rw [HV.out] at this; rw [← seg_add s hr1 (show i ≤ i + WD by omega)]; simpa using this)
        as_aux_lemma =>
          go_wp2_with (go_at_call 15; (with_reducible refine (has15 _).mono ?_); rintro e w5 ⟨rfl, rfl⟩)
          go_roundg (s.size - (i + WD))
          case measure => have := HG.out; omega
          case rel => exact ⟨i + WD, r1, S', v2, Z1, by go_num, rfl, rfl, hwd.2, by omega, rfl, (by have := HSB.out; omega), HSB.out.2, HPW4.out, HEQ2.out⟩
      subst h60
      by_cases h6 : i + 6 ≤ s.size
      case neg =>
        have u3 : decide ((i : Int) + 6 ≤ (s.size : Int)) = false := by simp; omega
        have HV := Lib.hid (show eb = false by rw [HESC.out]; simp [tRq2, HSY.out, h1, h6])
        have HEQ2 := Lib.hid (show Z1 ++ seg s r1 (i + WD) ++ outF q wb L s S' (i + WD) = TGT by have := HAF.out; rw [HV.out] at this; rw [← seg_add s hr1 (show i ≤ i + WD by omega)]; simpa using this)
        as_aux_lemma =>
          go_wp2_with (go_at_call 15; (with_reducible refine (has15 _).mono ?_); rintro e w5 ⟨rfl, rfl⟩)
          go_roundg (s.size - (i + WD))
          case measure => have := HG.out; omega
          case rel => exact ⟨i + WD, r1, S', v2, Z1, by go_num, rfl, rfl, hwd.2, by omega, rfl, (by have := HSB.out; omega), HSB.out.2, HPW4.out, HEQ2.out⟩
      have u3 : decide ((i : Int) + 6 ≤ (s.size : Int)) = true := by simp; omega
      have H16 := Lib.hid (HEF.out (s.extract (i + 1) (i + 6)) _ (by simp; omega) (HBW.out.trans HPW4.out.bel))
      obtain ⟨FF, hFF⟩ : ∃ FF, fold5 (s.extract (i + 1) (i + 6)) = FF := ⟨_, rfl⟩
      rw [hFF] at H16 HSY
      clear hFF
      cases FF
      · skip
        have HV := Lib.hid (show eb = false by rw [HESC.out]; simp [tRq2, HSY.out, h1, h6])
        have HEQ2 := Lib.hid (show Z1 ++ seg s r1 (i + WD) ++ outF q wb L s S' (i + WD) = TGT by have := HAF.out; rw [HV.out] at this; rw [← seg_add s hr1 (show i ≤ i + WD by omega)]; simpa using this)
        as_aux_lemma =>
          go_wp2_with (first | (go_at_call 15; (with_reducible refine (has15 _).mono ?_); rintro e w5 ⟨rfl, rfl⟩) | (go_at_call 16; (with_reducible refine H16.out.mono ?_); rintro e w6 ⟨rfl, hb6⟩; have HB6 := Lib.hid hb6; clear hb6))
          go_roundg (s.size - (i + WD))
          case measure => have := HG.out; omega
          case rel => exact ⟨i + WD, r1, S', v2, Z1, by go_num, rfl, rfl, hwd.2, by omega, rfl, (by have := HSB.out; omega), HSB.out.2, HPW4.out.later HB6.out, HEQ2.out⟩
      · skip
        have HV := Lib.hid (show eb = true by rw [HESC.out]; simp [tRq2, HSY.out, h1, h6])
        obtain ⟨hb0, hw1⟩ := HLOW.out (by omega)
        subst hw1
        have HSG := Lib.hid (show seg s i (i + 1) = [47] by rw [seg_byte s i hlt, hb0]; try rfl)
        have HHX := Lib.hid (nohex_q (c := 47) (.inr (.inr (.inr rfl))))
        have HZ1 := Lib.hid (show (Z1 ++ seg s r1 i).length ≤ 10000000 by have h1 := congrArg List.length HAF.out; simp only [List.length_append] at h1 ⊢; have := HTL.out; omega)
        have HEX := Lib.hid (show Z1 ++ seg s r1 i ++ [92] ++ [47] ++ outF q wb L s S' (i + 1) = TGT by have h1 := HAF.out; rw [HV.out, HSG.out] at h1; rw [← h1]; simp)
        clear hb0
        go_upto_if 182 with (first | (go_at_call 15; (with_reducible refine (has15 _).mono ?_); rintro e w5 ⟨rfl, rfl⟩) | (go_at_call 16; (with_reducible refine H16.out.mono ?_); rintro e w6 ⟨rfl, hb6⟩; have HB6 := Lib.hid hb6; clear hb6))
        have HPV := Lib.hid (HPW4.out.later HB6.out : PW w0 B0 p cs1 _ v2 Z1)
        obtain ⟨A1, cc1, hv1⟩ := HPV.out.pr.buf.form
        generalize hn1 : Z1.length = n1 at hv1
        subst hv1
        have hz1 : Z1.length ≤ 10000000 := by have := HZ1.out; simp only [List.length_append] at this; omega
        have HZ2 := Lib.hid hz1
        have d15 := HPV.out.pr.row.at_ HPV.out.pr.at_
        clear hn1 hz1
        by_cases hr2 : r1 < i
        · obtain ⟨A5, n5, c5, w5, hrun, k3, k4, hpw6⟩ := flush r1 i HPV.out (by have := HZ2.out; omega) hr1 hi' hs
          have HRUN := Lib.hid hrun
          have HPW6 := Lib.hid hpw6
          clear hrun hpw6
          go_wp2_with fail
          go_region_law (first | (refine step_append_run rfl _ _ 22 9 rfl _ _ _ w5 rfl rfl HRUN.out ?_))
          all_goals
            clear d15 k3 k4
            generalize hW6 : w5.setCell ⟨p, 15, none⟩ (.slice A5 n5 c5) = W6 at HPW6 ⊢
            clear hW6 HRUN
            have HLX := Lib.hid (show (Z1 ++ seg s r1 i).length ≤ 100000000 by have := HZ1.out; omega)
            as_aux_lemma =>
              go_wp2_with (go_at_call 17; refine (esc17_bs p (cs1.set 15 (.slice A5 n5 c5)) (.slice A5 n5 c5) (Z1 ++ seg s r1 i) _ _ _ _ HPW6.out.pr (by first | omega | decide) (by first | omega | decide) HLX.out HHX.out).mono ?_; rintro e w8 ⟨rfl, hpr⟩; obtain ⟨v8, hpw8⟩ := HPW6.out.print hpr; have HPW8 := Lib.hid hpw8; clear hpr hpw8)
              go_roundg (s.size - (i + 1))
              case measure => have := HG.out; omega
              case rel => exact ⟨i + 1, i + 1, S', v8, _, by go_num, by go_num, rfl, by omega, Nat.le_refl _, rfl, (by have := HSB.out; omega), HSB.out.2, HPW8.out, by rw [seg_self, List.append_nil]; exact HEX.out⟩
        · have hre : r1 = i := by omega
          subst hre
          have HLX := Lib.hid (show Z1.length ≤ 100000000 by have := HZ2.out; omega)
          have HEX2 := Lib.hid (show Z1 ++ [92] ++ [47] ++ outF q wb L s S' (r1 + 1) = TGT by have h1 := HEX.out; rwa [seg_self, List.append_nil] at h1)
          as_aux_lemma =>
            go_wp2_with (go_at_call 17; refine (esc17_bs p (cs1.set 15 (.slice A1 n1 cc1)) (.slice A1 n1 cc1) (Z1) _ _ _ _ HPV.out.pr (by first | omega | decide) (by first | omega | decide) HLX.out HHX.out).mono ?_; rintro e w8 ⟨rfl, hpr⟩; obtain ⟨v8, hpw8⟩ := HPV.out.print hpr; have HPW8 := Lib.hid hpw8; clear hpr hpw8)
            go_roundg (s.size - (r1 + 1))
            case measure => have := HG.out; omega
            case rel => exact ⟨r1 + 1, r1 + 1, S', v8, _, by go_num, by go_num, rfl, by omega, Nat.le_refl _, rfl, (by have := HSB.out; omega), HSB.out.2, HPW8.out, by rw [seg_self, List.append_nil]; exact HEX2.out⟩
    have t47 : ((R : Int) == 47) = false := by simp; omega
    have tfe : ((R : Int) == 65279) = false := by simp; omega
    have HV := Lib.hid (show eb = false by rw [HESC.out]; simp [t92, tRq, t47])
    have HEQ2 := Lib.hid (show Z1 ++ seg s r1 (i + WD) ++ outF q wb L s S' (i + WD) = TGT by have := HAF.out; rw [HV.out] at this; rw [← seg_add s hr1 (show i ≤ i + WD by omega)]; simpa using this)
    as_aux_lemma =>
      go_wp2_with fail
      go_roundg (s.size - (i + WD))
      case measure => have := HG.out; omega
      case rel => exact ⟨i + WD, r1, S', v2, Z1, by go_num, rfl, rfl, hwd.2, by omega, rfl, (by have := HSB.out; omega), HSB.out.2, HPW4.out, HEQ2.out⟩
end Go.Proofs.YtmgkjkfhhdkkmaaFmt.PqB
