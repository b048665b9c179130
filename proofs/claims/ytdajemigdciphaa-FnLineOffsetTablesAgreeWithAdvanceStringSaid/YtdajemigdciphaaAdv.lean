/- AdvanceString. -/
import Derived.Test.YtdajemigdciphaaRows
import Derived.Test.YtdajemigdciphaaMem
import Derived.Test.YtdajemigdciphaaSl
import Derived.Test.YtdajemigdciphaaLin
import Derived.Laws.RangeAny
import Derived.WalkKit
import Derived.ProofKit
import Derived.OpenShut
import Derived.Below
import Derived.WalkLawsBesides
import Derived.Lib.Hide
import Derived.Outline
import Derived.RegionTactic
import Derived.Deep.QuietTactic
import Derived.BigQuiet
import Derived.WalkSpells
import Derived.Deep.OwnRows
import Derived.IntWalk
import Derived.Deep.DeepMust
namespace Go.Proofs.Ytdajemigdciphaa.Adv
open Go.RowKit Mem Sl
set_option linter.unusedVariables false
open Dec Lin

theorem next_at {P : Program} {W : World} {b pos : Nat} {s : ByteArray} (h : W.heap[b]? = some (.stringIter s pos)) (hlt : pos < s.size) :
    ∃ W', (∀ ty, (Instr.next (.pointer (some ⟨b, 0, none⟩)) true ty).run P W = .ok (.tuple #[.bool true, .int .i64 pos, .int .i32 (ru s pos)]) W') ∧ W'.heap[b]? = some (.stringIter s (pos + wd s pos)) ∧ W.grownBy W' (some b) ∧ W'.heap.size = W.heap.size := by
  have hb : b < W.heap.size := (Array.getElem?_eq_some_iff.1 h).1
  refine ⟨{ W with heap := W.heap.setIfInBounds b (.stringIter s (pos + wd s pos)) }, fun ty => ?_, by simp [hb], ?_, by simp⟩
  · simp only [Instr.next, getObj, setObj, Sem.run_bind, Sem.run, h, Result.andThen, hlt, if_true]
    simp [goInt, ru, wd]
  · exact ⟨rfl, rfl, rfl, by simp, fun j hj hne => by
      have : b ≠ j := fun e => hne (by rw [e])
      simp [this]⟩
theorem next_end {P : Program} {W : World} {b pos : Nat} {s : ByteArray} (h : W.heap[b]? = some (.stringIter s pos)) (hlt : ¬ pos < s.size) (ty : TypeId) :
    (Instr.next (.pointer (some ⟨b, 0, none⟩)) true ty).run P W = .ok (.tuple #[.bool false]) W := by
  simp [Instr.next, getObj, Sem.run, h, hlt]
theorem grown_new {a w w' : World} {p b : Nat} (h : a.grownBy w (some p)) (h2 : w.grownBy w' (some b)) (hb : a.heap.size ≤ b) : a.grownBy w' (some p) :=
  ⟨h2.os.trans h.os, h2.tape.trans h.tape, h2.output.trans h.output, Nat.le_trans h.size h2.size, fun j hj hne => (h2.block j (Nat.lt_of_lt_of_le hj h.size) (fun e => by injection e with e; omega)).trans (h.block j hj hne)⟩
def W64 (n : Int) : Int := (n + 9223372036854775808) % 18446744073709551616 - 9223372036854775808
theorem wrap64_W (n : Int) : wrap64 n = W64 n := by
  unfold wrap64 W64
  first | rfl | omega | (rw [IntKind.wrap_i64])
def col (c : Int) (L U : Nat) : Int := if L = 0 then W64 (c + U) else U
theorem line_step {x l : Int} {L : Nat} (h : x = W64 (l + L)) : wrap64 (x + 1) = W64 (l + ((L + 1 : Nat) : Int)) := by
  rw [wrap64_W, h]; unfold W64; omega
theorem col_step {y c : Int} {L U : Nat} (k : Nat) (h : y = col c L U) (hu : U + k ≤ 1099511627776) : wrap64 (y + k) = col c L (U + k) := by
  rw [wrap64_W, h]
  unfold col
  split
  · unfold W64; omega
  · unfold W64; omega
theorem col_new (c : Int) (L : Nat) : (0 : Int) = col c (L + 1) 0 := by unfold col; rw [if_neg (by omega)]; rfl
theorem brk_yes {s : ByteArray} {i : Nat} (h : isT (ru s i) = true) (hc : crlf s i = false) : brk s i = true := by simp [brk, h, hc]
theorem brk_no {s : ByteArray} {i : Nat} (h : isT (ru s i) = false) : brk s i = false := by simp [brk, h]
theorem brk_cr {s : ByteArray} {i : Nat} (hc : crlf s i = true) : brk s i = false := by simp [brk, hc]
theorem idx (s : ByteArray) (i : Nat) (h : i < s.size) (w : World) : (Instr.index 9 (.string s) (.int .i64 (i : Int))).run Try.prog w = .ok (.int .u8 ((by_ s i : Nat) : Int)) w := by
  rw [by_at s i h]
  simp [go_sem, h]
theorem idx1 (s : ByteArray) (i k : Nat) (h : i + k < s.size) (w : World) : (Instr.index 9 (.string s) (.int .i64 ((i : Int) + (k : Int)))).run Try.prog w = .ok (.int .u8 ((by_ s (i + k) : Nat) : Int)) w := by
  have := idx s (i + k) h w
  rwa [Int.natCast_add] at this
/-- What AdvanceString leaves. -/
def AdvP (w : World) (p : Nat) (l c : Int) (s : ByteArray) (e : Ending) (w' : World) : Prop :=
  e = .returned (.tuple #[]) ∧ Row w' p 24 [.int .i64 (W64 (l + (fin s 0 0 0 0).1)), .int .i64 (col c (fin s 0 0 0 0).1 (fin s 0 0 0 0).2.1)] ∧ w.grownBy w' (some p)
theorem W64_id {n : Int} (h0 : -9223372036854775808 ≤ n) (h1 : n ≤ 9223372036854775807) : W64 n = n := by unfold W64; omega
set_option maxHeartbeats 2000000 in
theorem adv6 (p : Nat) (l c : Int) (s : ByteArray) (w : World) (hr : Row w p 24 [.int .i64 l, .int .i64 c]) (hs : s.size ≤ 1048576) (hl0 : -9223372036854775808 ≤ l) (hl1 : l ≤ 9223372036854775807) (hc0 : -9223372036854775808 ≤ c) (hc1 : c ≤ 9223372036854775807) :
    Calls Try.prog 6 #[.pointer (some ⟨p, 0, none⟩), .string s] w (AdvP w p l c s) := by
  have a1 := hr.at_ (i := 1) rfl
  have HR := Lib.hid hr
  have HP := Lib.hid hr.lt
  have HL := Lib.hid (show l = W64 (l + ((0 : Nat) : Int)) by rw [W64_id (by omega) (by omega)]; simp)
  have HC := Lib.hid (show c = col c 0 0 by unfold col; rw [if_pos rfl, W64_id (by omega) (by omega)]; simp)
  clear hr
  go_enter Try.func6, Try.ntmps6
  go_wp2
  clear a1
  go_loopw [4] (fun cu wr => ∃ (pos L U T : Nat) (x y : Int), cu = .int .i64 y ∧ pos ≤ s.size ∧ U ≤ pos ∧ wr.heap[w.heap.size]? = some (.stringIter s pos) ∧ Row wr p 24 [.int .i64 x, .int .i64 c] ∧ w.grownBy wr (some p) ∧ x = W64 (l + L) ∧ y = col c L U ∧ fin s pos L U T = fin s 0 0 0 0) (fun _ wr => s.size - wr.iterPos w.heap.size)
  case atStart => exact ⟨0, 0, 0, 0, l, c, rfl, by omega, by omega, heap_alloc_new w _, HR.out.alloc _, (grown_refl w _).trans (World.grownBy_alloc w _ _), HL.out, HC.out, rfl⟩
  case round =>
    obtain ⟨pos, L, U, T, x, y, rfl, hp, hU, hit, hrow, hg, hx, hy, hf⟩ := hrel
    have HX := Lib.hid hx
    have HY := Lib.hid hy
    have HF := Lib.hid hf
    have HG := Lib.hid hg
    have HIT := Lib.hid hit
    have hpos : wr.iterPos w.heap.size = pos := by simp [World.iterPos, hit]
    have HPOS := Lib.hid hpos
    clear hx hy hf hg hpos
    by_cases hlt : pos < s.size
    · obtain ⟨W', hnx, hit', hg', hsz'⟩ := next_at (P := Try.prog) hit hlt
      have hne : p ≠ w.heap.size := by have := HP.out; omega
      have HROW' := Lib.hid (hrow.grown hg' (fun e => by injection e with e; omega))
      have HIT' := Lib.hid hit'
      have HG' := Lib.hid (grown_new HG.out hg' (Nat.le_refl _))
      have hw := wd_pos hlt
      have hu := un_le s pos hlt
      have HW := Lib.hid (And.intro hw hu)
      have HNE := Lib.hid hne
      have x1 : pos + 1 < s.size → ∀ w, (Instr.index 9 (.string s) (.int .i64 ((pos : Int) + 1))).run Try.prog w = .ok (.int .u8 ((by_ s (pos + 1) : Nat) : Int)) w := fun h w => idx1 s pos 1 h w
      obtain ⟨B1, hB1⟩ : ∃ B, by_ s (pos + 1) = B := ⟨_, rfl⟩
      rw [hB1] at x1
      obtain ⟨r, hr⟩ : ∃ r, ru s pos = r := ⟨_, rfl⟩
      rw [hr] at hnx
      have HRU := Lib.hid hr
      have HB1 := Lib.hid hB1
      clear hit hrow hit' hg' hsz' hw hu hne hr hB1
      have a0 := HROW'.out.at_ (i := 0) rfl
      have z0 := HROW'.out.frozen 0
      have HI2 := Lib.hid (show ∀ v, (W'.setCell ⟨p, 0, none⟩ v).heap[w.heap.size]? = some (.stringIter s (pos + wd s pos)) from fun v => (Below.heap_setCell W' ⟨p, 0, none⟩ v w.heap.size (fun e => HNE.out e.symm)).trans HIT'.out)
      by_cases h13 : r = 13
      · subst h13
        by_cases hd : pos + 1 < s.size
        · have y1 := x1 hd
          by_cases hb : B1 = 10
          · subst hb
            have HBK := Lib.hid (show brk s pos = false from brk_cr (by unfold crlf; rw [HRU.out, HB1.out]; simp [hd]))
            have HU := Lib.hid (show un s pos = 1 from (by unfold un; rw [HRU.out, if_pos (by omega)]))
            clear x1
            go_wp2
            go_roundw
            case rel => exact ⟨pos + wd s pos, L, U + un s pos, T, x, _, rfl, HW.out.1.2, by have := HW.out.2; omega, HIT'.out, HROW'.out, HG'.out, HX.out, by rw [HU.out]; exact col_step 1 HY.out (by omega), by rw [← HF.out, fin_un s pos L U T hlt HBK.out]⟩
            case measure =>
              have h1 := HIT.out
              have h2 := HIT'.out
              have h3 := HW.out.1
              simp only [World.iterPos, h2, h1]
              omega
          · have tb : ((B1 : Int) == 10) = false := by simp; omega
            have HBK := Lib.hid (show brk s pos = true from brk_yes (by rw [HRU.out]; rfl) (by unfold crlf; rw [HRU.out, HB1.out]; simp [hb]))
            clear x1
            go_wp2
            go_roundw
            case rel => exact ⟨pos + wd s pos, L + 1, 0, pos + wd s pos, _, _, rfl, HW.out.1.2, by omega, HI2.out _, HROW'.out.set 0 _, grown_set HG'.out _ _, line_step HX.out, col_new c L, by rw [← HF.out, fin_brk s pos L U T hlt HBK.out]⟩
            case measure =>
              have h1 := HIT.out
              have h2 := HI2.out (.int .i64 (wrap64 (x + 1)))
              have h3 := HW.out.1
              simp only [World.iterPos, h2, h1]
              omega
        · skip
          have HBK := Lib.hid (show brk s pos = true from brk_yes (by rw [HRU.out]; rfl) (by unfold crlf; simp [hd]))
          clear x1
          go_wp2
          go_roundw
          case rel => exact ⟨pos + wd s pos, L + 1, 0, pos + wd s pos, _, _, rfl, HW.out.1.2, by omega, HI2.out _, HROW'.out.set 0 _, grown_set HG'.out _ _, line_step HX.out, col_new c L, by rw [← HF.out, fin_brk s pos L U T hlt HBK.out]⟩
          case measure =>
            have h1 := HIT.out
            have h2 := HI2.out (.int .i64 (wrap64 (x + 1)))
            have h3 := HW.out.1
            simp only [World.iterPos, h2, h1]
            omega
      by_cases h10 : r = 10
      · subst h10
        have HBK := Lib.hid (show brk s pos = true from brk_yes (by rw [HRU.out]; rfl) (by unfold crlf; rw [HRU.out]; rfl))
        clear x1
        go_wp2
        go_roundw
        case rel => exact ⟨pos + wd s pos, L + 1, 0, pos + wd s pos, _, _, rfl, HW.out.1.2, by omega, HI2.out _, HROW'.out.set 0 _, grown_set HG'.out _ _, line_step HX.out, col_new c L, by rw [← HF.out, fin_brk s pos L U T hlt HBK.out]⟩
        case measure =>
          have h1 := HIT.out
          have h2 := HI2.out (.int .i64 (wrap64 (x + 1)))
          have h3 := HW.out.1
          simp only [World.iterPos, h2, h1]
          omega
      by_cases h8232 : r = 8232
      · subst h8232
        have HBK := Lib.hid (show brk s pos = true from brk_yes (by rw [HRU.out]; rfl) (by unfold crlf; rw [HRU.out]; rfl))
        clear x1
        go_wp2
        go_roundw
        case rel => exact ⟨pos + wd s pos, L + 1, 0, pos + wd s pos, _, _, rfl, HW.out.1.2, by omega, HI2.out _, HROW'.out.set 0 _, grown_set HG'.out _ _, line_step HX.out, col_new c L, by rw [← HF.out, fin_brk s pos L U T hlt HBK.out]⟩
        case measure =>
          have h1 := HIT.out
          have h2 := HI2.out (.int .i64 (wrap64 (x + 1)))
          have h3 := HW.out.1
          simp only [World.iterPos, h2, h1]
          omega
      by_cases h8233 : r = 8233
      · subst h8233
        have HBK := Lib.hid (show brk s pos = true from brk_yes (by rw [HRU.out]; rfl) (by unfold crlf; rw [HRU.out]; rfl))
        clear x1
        go_wp2
        go_roundw
        case rel => exact ⟨pos + wd s pos, L + 1, 0, pos + wd s pos, _, _, rfl, HW.out.1.2, by omega, HI2.out _, HROW'.out.set 0 _, grown_set HG'.out _ _, line_step HX.out, col_new c L, by rw [← HF.out, fin_brk s pos L U T hlt HBK.out]⟩
        case measure =>
          have h1 := HIT.out
          have h2 := HI2.out (.int .i64 (wrap64 (x + 1)))
          have h3 := HW.out.1
          simp only [World.iterPos, h2, h1]
          omega
      have t13 : ((r : Int) == 13) = false := by simp; omega
      have t10 : ((r : Int) == 10) = false := by simp; omega
      have t8232 : ((r : Int) == 8232) = false := by simp; omega
      have t8233 : ((r : Int) == 8233) = false := by simp; omega
      by_cases hbig : r ≤ 65535
      · skip
        have HBK := Lib.hid (show brk s pos = false from brk_no (by rw [HRU.out]; simp [isT]; omega))
        have HU := Lib.hid (show un s pos = 1 from (by unfold un; rw [HRU.out, if_pos (by omega)]))
        clear x1
        go_wp2
        go_roundw
        case rel => exact ⟨pos + wd s pos, L, U + un s pos, T, x, _, rfl, HW.out.1.2, by have := HW.out.2; omega, HIT'.out, HROW'.out, HG'.out, HX.out, by rw [HU.out]; exact col_step 1 HY.out (by omega), by rw [← HF.out, fin_un s pos L U T hlt HBK.out]⟩
        case measure =>
          have h1 := HIT.out
          have h2 := HIT'.out
          have h3 := HW.out.1
          simp only [World.iterPos, h2, h1]
          omega
      · skip
        have HBK := Lib.hid (show brk s pos = false from brk_no (by rw [HRU.out]; simp [isT]; omega))
        have HU := Lib.hid (show un s pos = 2 from (by unfold un; rw [HRU.out, if_neg (by omega)]))
        clear x1
        go_wp2
        go_roundw
        case rel => exact ⟨pos + wd s pos, L, U + un s pos, T, x, _, rfl, HW.out.1.2, by have := HW.out.2; omega, HIT'.out, HROW'.out, HG'.out, HX.out, by rw [HU.out]; exact col_step 2 HY.out (by omega), by rw [← HF.out, fin_un s pos L U T hlt HBK.out]⟩
        case measure =>
          have h1 := HIT.out
          have h2 := HIT'.out
          have h3 := HW.out.1
          simp only [World.iterPos, h2, h1]
          omega
    · have hnx := fun ty => next_end (P := Try.prog) hit hlt ty
      have a1 := hrow.at_ (i := 1) rfl
      have z1 := hrow.frozen 1
      have HROW := Lib.hid hrow
      have hfe := HF.out
      rw [fin_end s pos L U T hlt] at hfe
      have HFE := Lib.hid hfe
      clear hrow hit hfe
      go_wp2
      go_end0
      refine ⟨rfl, ?_, grown_set HG.out _ _⟩
      rw [← HFE.out]
      have h := HROW.out.set 1 (.int .i64 y)
      rw [HX.out, HY.out] at h
      rw [HY.out]
      exact h
end Go.Proofs.Ytdajemigdciphaa.Adv
