/- FnPrintIdentAsciiEscapesExact: printIdent. -/
import Derived.Test.YtmhiekokjogkhaaFmtRows
import Derived.Test.YtmhiekokjogkhaaFmtMem
import Derived.Test.YtmhiekokjogkhaaFmtSl
import Derived.Test.YtmhiekokjogkhaaFmtIdD
import Derived.Test.YtmhiekokjogkhaaFmtDec
import Derived.Great.BuildSlice
import Derived.Deep.RegionLaw
import Derived.WalkMore
import Derived.ScopeJumps
import Derived.Laws.RangeAny
import Derived.WalkKit
import Derived.ProofKit
import Derived.OpenShut
import Derived.Below
import Derived.WalkLawsBesides
import Derived.Lib.Hide
import Derived.Outline
import Derived.RegionTactic
import Derived.Deep.QuietTactic
import Derived.BigQuiet
import Derived.WalkSpells
import Derived.Deep.OwnRows
import Derived.IntWalk
import Derived.Deep.DeepMust
namespace Go.Proofs.YtmhiekokjogkhaaFmt.IdE
open Go.RowKit Mem Sl
set_option linter.unusedVariables false
open Prn Pru Idn Str IdA IdB IdC IdD Own Dec

theorem next_at {P : Program} {W : World} {b pos : Nat} {s : ByteArray} (h : W.heap[b]? = some (.stringIter s pos)) (hlt : pos < s.size) :
    ∃ W', (∀ ty, (Instr.next (.pointer (some ⟨b, 0, none⟩)) true ty).run P W = .ok (.tuple #[.bool true, .int .i64 pos, .int .i32 (Utf8.decode s pos).1]) W') ∧ W'.heap[b]? = some (.stringIter s (pos + (Utf8.decode s pos).2)) ∧ W.grownBy W' (some b) ∧ W'.heap.size = W.heap.size := by
  have hb : b < W.heap.size := (Array.getElem?_eq_some_iff.1 h).1
  refine ⟨{ W with heap := W.heap.setIfInBounds b (.stringIter s (pos + (Utf8.decode s pos).2)) }, fun ty => ?_, by simp [hb], ?_, by simp⟩
  · simp only [Instr.next, getObj, setObj, Sem.run_bind, Sem.run, h, Result.andThen, hlt, if_true]
    simp [goInt]
  · exact ⟨rfl, rfl, rfl, by simp, fun j hj hne => by
      have : b ≠ j := fun e => hne (by rw [e])
      simp [this]⟩
theorem next_end {P : Program} {W : World} {b pos : Nat} {s : ByteArray} (h : W.heap[b]? = some (.stringIter s pos)) (hlt : ¬ pos < s.size) (ty : TypeId) :
    (Instr.next (.pointer (some ⟨b, 0, none⟩)) true ty).run P W = .ok (.tuple #[.bool false]) W := by
  simp [Instr.next, getObj, Sem.run, h, hlt]
/-- A printer p in the midst of its range over the text s: the iterator in block B stands at k. -/
structure Mid (w : World) (B p : Nat) (v : Value) (cs : List Value) (s : ByteArray) (k : Nat) (zs : List Int) (wr : World) : Prop where
  it : wr.heap[B]? = some (.stringIter s k)
  pr : ∃ v', Pr wr p 61 15 5 (cs.set 15 v') v' zs ∧ Step p w v wr v'
theorem buf_iter {w : World} {E : TypeId} {v : Value} {zs : List Int} {B : Nat} {s : ByteArray} {k : Nat} (h : Buf w E v zs) (hi : w.heap[B]? = some (.stringIter s k)) : v.ownBlock ≠ some B := by
  intro e
  rcases h.2 with ⟨rfl, _⟩ | ⟨g, cap, cur, rfl, _, hh, _⟩
  · simp [Value.ownBlock] at e
  · have : g = B := by simpa [Value.ownBlock] using e
    subst this
    rw [hi] at hh
    cases hh
theorem Mid.next {w wr w' : World} {B p k k' : Nat} {v : Value} {cs : List Value} {s : ByteArray} {zs : List Int} (h : Mid w B p v cs s k zs wr) (hB : w.heap.size ≤ B) (hp : p < B) (hi : w'.heap[B]? = some (.stringIter s k')) (hg : wr.grownBy w' (some B)) : Mid w B p v cs s k' zs w' := by
  obtain ⟨v', h1, h2⟩ := h.pr
  exact ⟨hi, v', h1.other hg (by omega) (buf_iter h1.buf h.it), h2.more hg hB⟩
theorem Mid.print {w wr w' : World} {B p k : Nat} {v v' : Value} {cs : List Value} {s : ByteArray} {zs zs' : List Int} (h : wr.heap[B]? = some (.stringIter s k)) (hb : Buf wr 5 v' zs) (hs : Step p w v wr v') (hp : p < B) (hP : Printed wr p 61 15 5 (cs.set 15 v') v' zs' w') : Mid w B p v cs s k zs' w' := by
  obtain ⟨v2, h1, h2⟩ := hP
  have hlt : B < wr.heap.size := (Array.getElem?_eq_some_iff.1 h).1
  exact ⟨(h2.block B hlt (by omega) (fun e => buf_iter hb h e.symm)).trans h, v2, by rw [set_cs] at h1; exact h1, hs.trans h2⟩
theorem start_nm {zs : List Int} (h : startB zs = false) (hd : digB (zs.getD 0 0) = false) (hl : 0 < zs.length) (hn : nameB (zs.getD 0 0) = true) : zs.getD 0 0 = 45 := by
  match zs, hl with
  | c :: r, _ =>
    simp only [startB, List.getD_cons_zero, Bool.or_eq_false_iff] at h hd hn
    unfold nameB at hn
    rw [h.1.1, hd, h.1.2] at hn
    simpa using hn
theorem nohex_nm {c : Int} (h : nameB c = false) : NoHex c := by
  unfold nameB letB digB at h
  unfold NoHex
  simp at h
  omega
theorem nohex_45 : NoHex 45 := by unfold NoHex; omega
theorem set_id {cs : List Value} {i : Nat} {v : Value} (h : cs[i]? = some v) : cs.set i v = cs := by
  apply List.ext_getElem?
  intro j
  by_cases e : i = j
  · subst e
    have hlt := (List.getElem?_eq_some_iff.1 h).1
    rw [List.getElem?_set_self hlt, h]
  · rw [List.getElem?_set_ne e]
theorem mid0 {w : World} {p : Nat} {v : Value} {cs : List Value} {s : ByteArray} {zs : List Int} (h : Pr w p 61 15 5 cs v zs) : Mid w w.heap.size p v cs s 0 (zs ++ []) (w.iter s 0) := by
  refine ⟨World.iter_heap w s 0, v, ?_, ?_⟩
  · rw [set_id h.at_, List.append_nil]
    exact h.alloc _
  · exact Step.of_below ((Below.refl _ _).alloc (Nat.le_refl _) _) (Nat.le_refl _)

set_option maxRecDepth 100000 in
set_option maxHeartbeats 16000000 in
theorem id13_f (p : Nat) (cs : List Value) (v : Value) (zs : List Int) (s : ByteArray) (f : Int) (ao : Bool) (w : World) (h : Pr w p 61 15 5 cs v zs) (hao : cs[7]? = some (.bool ao)) (hs : s.size ≤ 1048576) (hb : zs.length ≤ 1048576) (hD : Dom s) (hst : startB (nums s) = false) :
    Calls Tryf.prog 13 #[.pointer (some ⟨p, 0, none⟩), .string s, .int .u8 0, .int .u8 f] w fun e w' => e = .returned (.tuple #[]) ∧ Printed w p 61 15 5 cs v (zs ++ outK false (nums s) s.size) w' := by
  have HL := Lib.hid hb
  have HAO := Lib.hid hao
  have HDOM := Lib.hid hD
  have HX0 := Lib.hid h
  have hpB : p < w.heap.size := h.row.lt
  have hBw : w.heap.size ≤ w.heap.size := Nat.le_refl _
  have H16 := Lib.hid (would16 s w hs hD)
  have HSB := Lib.hid hst
  rw [hst] at H16
  have HM0 := Lib.hid (mid0 (s := s) h)
  clear hst h hb hao hD
  go_enter Tryf.func13, Tryf.ntmps13
  go_wp2_with (first | (go_at_call 16; (with_reducible refine H16.out.mono ?_); rintro e w1 ⟨rfl, rfl⟩))
  go_loopw [13] (fun x wr => ∃ k : Nat, k ≤ s.size ∧ Mid w w.heap.size p v cs s k (zs ++ outK false (nums s) k) wr) (fun _ wr => s.size - wr.iterPos w.heap.size)
  case atStart => exact ⟨0, Nat.zero_le _, HM0.out⟩
  case round =>
    obtain ⟨k, hk, hmid⟩ := hrel
    have hit := hmid.it
    have HIT := Lib.hid hit
    have HMD := Lib.hid hmid
    clear hmid
    by_cases hlt : k < s.size
    · obtain ⟨W', hnx, hit', hg', hsz'⟩ := next_at (P := Tryf.prog) hit hlt
      obtain ⟨b, hb, hnb⟩ := byte_at s k hlt
      have hdm := HDOM.out.1 k hlt
      rw [hnb] at hdm
      have hby : by_ s k = b.toNat := by rw [by_at s k hlt, hb]
      rw [dec1 s k (by rw [hby]; omega), hby] at hnx hit'
      simp only at hnx hit'
      generalize hc : (b.toNat : Int) = c at hnb hdm hnx
      have HN := Lib.hid hnb
      have HC := Lib.hid (show 0 ≤ c ∧ c < 128 by omega)
      have H17 := Lib.hid (con17 c W' hdm.1 hdm.2.1)
      have H18 := Lib.hid (len18 c W' (by omega) hdm.2.1)
      have hmid1 := HMD.out.next hBw hpB hit' hg'
      have HIT1 := Lib.hid hmid1.it
      obtain ⟨v1, hp1, hs1⟩ := hmid1.pr
      have c7 : W'.cell? ⟨p, 7, none⟩ = some (.bool ao) := hp1.row.at_ (by rw [List.getElem?_set_ne (by decide)]; exact HAO.out)
      have HP1 := Lib.hid hp1
      have HS1 := Lib.hid hs1
      have t128 : decide (128 ≤ c) = false := by simp; omega
      have t13 : (c == 13) = false := by simp; omega
      have t10 : (c == 10) = false := by simp; omega
      have t12 : (c == 12) = false := by simp; omega
      have tfe : (c == 65279) = false := by simp; omega
      have HDG := Lib.hid (show k = 0 → digB c = false from fun h => by subst h; have := HDOM.out.2 (by omega); rwa [HN.out] at this)
      clear hit hit' hg' hsz' hnb hdm hmid1 hp1 hs1 hb hc hby
      cases hv : nameB c
      · rw [hv] at H17
        have HV := Lib.hid hv
        have HX := Lib.hid (nohex_nm hv)
        clear hv
        cases ao
        · skip
          by_cases h0 : k = 0
          · subst h0
            have HK := Lib.hid (outK_esc (st := false) (zs := nums s) (k := 0) (by unfold escB; rw [HN.out]; simp [HV.out]; try omega))
            rw [HN.out] at HK
            by_cases hf : f = 0
            · have tf : (f == 0) = true := by simp [hf]
              clear hf
              by_cases hn : 0 + 1 = s.size
              · have tn : ((0 : Int) + 1 == (s.size : Int)) = true := by simp; omega
                have tn0 : ((0 : Int) + 1 == (s.size : Int)) = true ∨ True := .inr trivial
                go_wp2_with (first | (go_at_call 17; (with_reducible refine H17.out.mono ?_); rintro e w1 ⟨rfl, rfl⟩) | (go_at_call 18; (with_reducible refine H18.out.mono ?_); rintro e w1 ⟨rfl, rfl⟩) | (go_at_call 19; refine (esc19_bs p (cs.set 15 v1) v1 (zs ++ outK false (nums s) 0) c _ _ _ HP1.out HC.out.1 HC.out.2 (by have := outK_len false (nums s) 0; have := HL.out; simp; omega) HX.out).mono ?_; rintro e w2 ⟨rfl, hpr⟩; have HPR := Lib.hid hpr; clear hpr))
                go_roundw
                case rel => exact ⟨0 + 1, by omega, by have h9 := Mid.print HIT1.out HP1.out.buf HS1.out hpB HPR.out; simpa [HK.out] using h9⟩
                case measure =>
                  have h1 := HIT.out
                  have h2 := (Mid.print HIT1.out HP1.out.buf HS1.out hpB HPR.out).it
                  simp only [World.iterPos, h2, h1]
                  omega
              · have tn : ((0 : Int) + 1 == (s.size : Int)) = false := by simp; omega
                go_wp2_with (first | (go_at_call 17; (with_reducible refine H17.out.mono ?_); rintro e w1 ⟨rfl, rfl⟩) | (go_at_call 18; (with_reducible refine H18.out.mono ?_); rintro e w1 ⟨rfl, rfl⟩) | (go_at_call 19; refine (esc19_bs p (cs.set 15 v1) v1 (zs ++ outK false (nums s) 0) c _ _ _ HP1.out HC.out.1 HC.out.2 (by have := outK_len false (nums s) 0; have := HL.out; simp; omega) HX.out).mono ?_; rintro e w2 ⟨rfl, hpr⟩; have HPR := Lib.hid hpr; clear hpr))
                go_roundw
                case rel => exact ⟨0 + 1, by omega, by have h9 := Mid.print HIT1.out HP1.out.buf HS1.out hpB HPR.out; simpa [HK.out] using h9⟩
                case measure =>
                  have h1 := HIT.out
                  have h2 := (Mid.print HIT1.out HP1.out.buf HS1.out hpB HPR.out).it
                  simp only [World.iterPos, h2, h1]
                  omega
            · have tf : (f == 0) = false := by simp [hf]
              clear hf
              go_wp2_with (first | (go_at_call 17; (with_reducible refine H17.out.mono ?_); rintro e w1 ⟨rfl, rfl⟩) | (go_at_call 18; (with_reducible refine H18.out.mono ?_); rintro e w1 ⟨rfl, rfl⟩) | (go_at_call 19; refine (esc19_bs p (cs.set 15 v1) v1 (zs ++ outK false (nums s) 0) c _ _ _ HP1.out HC.out.1 HC.out.2 (by have := outK_len false (nums s) 0; have := HL.out; simp; omega) HX.out).mono ?_; rintro e w2 ⟨rfl, hpr⟩; have HPR := Lib.hid hpr; clear hpr))
              go_roundw
              case rel => exact ⟨0 + 1, by omega, by have h9 := Mid.print HIT1.out HP1.out.buf HS1.out hpB HPR.out; simpa [HK.out] using h9⟩
              case measure =>
                have h1 := HIT.out
                have h2 := (Mid.print HIT1.out HP1.out.buf HS1.out hpB HPR.out).it
                simp only [World.iterPos, h2, h1]
                omega
          · have t0 : ((k : Int) == 0) = false := by simp; omega
            have HK := Lib.hid (outK_esc (st := false) (zs := nums s) (k := k) (by unfold escB; rw [HN.out]; simp [HV.out]; try omega))
            rw [HN.out] at HK
            by_cases hf : f = 0
            · have tf : (f == 0) = true := by simp [hf]
              clear hf
              by_cases hn : k + 1 = s.size
              · have tn : ((k : Int) + 1 == (s.size : Int)) = true := by simp; omega
                have tn0 : ((0 : Int) + 1 == (s.size : Int)) = true ∨ True := .inr trivial
                go_wp2_with (first | (go_at_call 17; (with_reducible refine H17.out.mono ?_); rintro e w1 ⟨rfl, rfl⟩) | (go_at_call 18; (with_reducible refine H18.out.mono ?_); rintro e w1 ⟨rfl, rfl⟩) | (go_at_call 19; refine (esc19_bs p (cs.set 15 v1) v1 (zs ++ outK false (nums s) k) c _ _ _ HP1.out HC.out.1 HC.out.2 (by have := outK_len false (nums s) k; have := HL.out; simp; omega) HX.out).mono ?_; rintro e w2 ⟨rfl, hpr⟩; have HPR := Lib.hid hpr; clear hpr))
                go_roundw
                case rel => exact ⟨k + 1, by omega, by have h9 := Mid.print HIT1.out HP1.out.buf HS1.out hpB HPR.out; simpa [HK.out] using h9⟩
                case measure =>
                  have h1 := HIT.out
                  have h2 := (Mid.print HIT1.out HP1.out.buf HS1.out hpB HPR.out).it
                  simp only [World.iterPos, h2, h1]
                  omega
              · have tn : ((k : Int) + 1 == (s.size : Int)) = false := by simp; omega
                go_wp2_with (first | (go_at_call 17; (with_reducible refine H17.out.mono ?_); rintro e w1 ⟨rfl, rfl⟩) | (go_at_call 18; (with_reducible refine H18.out.mono ?_); rintro e w1 ⟨rfl, rfl⟩) | (go_at_call 19; refine (esc19_bs p (cs.set 15 v1) v1 (zs ++ outK false (nums s) k) c _ _ _ HP1.out HC.out.1 HC.out.2 (by have := outK_len false (nums s) k; have := HL.out; simp; omega) HX.out).mono ?_; rintro e w2 ⟨rfl, hpr⟩; have HPR := Lib.hid hpr; clear hpr))
                go_roundw
                case rel => exact ⟨k + 1, by omega, by have h9 := Mid.print HIT1.out HP1.out.buf HS1.out hpB HPR.out; simpa [HK.out] using h9⟩
                case measure =>
                  have h1 := HIT.out
                  have h2 := (Mid.print HIT1.out HP1.out.buf HS1.out hpB HPR.out).it
                  simp only [World.iterPos, h2, h1]
                  omega
            · have tf : (f == 0) = false := by simp [hf]
              clear hf
              go_wp2_with (first | (go_at_call 17; (with_reducible refine H17.out.mono ?_); rintro e w1 ⟨rfl, rfl⟩) | (go_at_call 18; (with_reducible refine H18.out.mono ?_); rintro e w1 ⟨rfl, rfl⟩) | (go_at_call 19; refine (esc19_bs p (cs.set 15 v1) v1 (zs ++ outK false (nums s) k) c _ _ _ HP1.out HC.out.1 HC.out.2 (by have := outK_len false (nums s) k; have := HL.out; simp; omega) HX.out).mono ?_; rintro e w2 ⟨rfl, hpr⟩; have HPR := Lib.hid hpr; clear hpr))
              go_roundw
              case rel => exact ⟨k + 1, by omega, by have h9 := Mid.print HIT1.out HP1.out.buf HS1.out hpB HPR.out; simpa [HK.out] using h9⟩
              case measure =>
                have h1 := HIT.out
                have h2 := (Mid.print HIT1.out HP1.out.buf HS1.out hpB HPR.out).it
                simp only [World.iterPos, h2, h1]
                omega
        · skip
          by_cases h0 : k = 0
          · subst h0
            have HK := Lib.hid (outK_esc (st := false) (zs := nums s) (k := 0) (by unfold escB; rw [HN.out]; simp [HV.out]; try omega))
            rw [HN.out] at HK
            by_cases hf : f = 0
            · have tf : (f == 0) = true := by simp [hf]
              clear hf
              by_cases hn : 0 + 1 = s.size
              · have tn : ((0 : Int) + 1 == (s.size : Int)) = true := by simp; omega
                have tn0 : ((0 : Int) + 1 == (s.size : Int)) = true ∨ True := .inr trivial
                go_wp2_with (first | (go_at_call 17; (with_reducible refine H17.out.mono ?_); rintro e w1 ⟨rfl, rfl⟩) | (go_at_call 18; (with_reducible refine H18.out.mono ?_); rintro e w1 ⟨rfl, rfl⟩) | (go_at_call 19; refine (esc19_bs p (cs.set 15 v1) v1 (zs ++ outK false (nums s) 0) c _ _ _ HP1.out HC.out.1 HC.out.2 (by have := outK_len false (nums s) 0; have := HL.out; simp; omega) HX.out).mono ?_; rintro e w2 ⟨rfl, hpr⟩; have HPR := Lib.hid hpr; clear hpr))
                go_roundw
                case rel => exact ⟨0 + 1, by omega, by have h9 := Mid.print HIT1.out HP1.out.buf HS1.out hpB HPR.out; simpa [HK.out] using h9⟩
                case measure =>
                  have h1 := HIT.out
                  have h2 := (Mid.print HIT1.out HP1.out.buf HS1.out hpB HPR.out).it
                  simp only [World.iterPos, h2, h1]
                  omega
              · have tn : ((0 : Int) + 1 == (s.size : Int)) = false := by simp; omega
                go_wp2_with (first | (go_at_call 17; (with_reducible refine H17.out.mono ?_); rintro e w1 ⟨rfl, rfl⟩) | (go_at_call 18; (with_reducible refine H18.out.mono ?_); rintro e w1 ⟨rfl, rfl⟩) | (go_at_call 19; refine (esc19_bs p (cs.set 15 v1) v1 (zs ++ outK false (nums s) 0) c _ _ _ HP1.out HC.out.1 HC.out.2 (by have := outK_len false (nums s) 0; have := HL.out; simp; omega) HX.out).mono ?_; rintro e w2 ⟨rfl, hpr⟩; have HPR := Lib.hid hpr; clear hpr))
                go_roundw
                case rel => exact ⟨0 + 1, by omega, by have h9 := Mid.print HIT1.out HP1.out.buf HS1.out hpB HPR.out; simpa [HK.out] using h9⟩
                case measure =>
                  have h1 := HIT.out
                  have h2 := (Mid.print HIT1.out HP1.out.buf HS1.out hpB HPR.out).it
                  simp only [World.iterPos, h2, h1]
                  omega
            · have tf : (f == 0) = false := by simp [hf]
              clear hf
              go_wp2_with (first | (go_at_call 17; (with_reducible refine H17.out.mono ?_); rintro e w1 ⟨rfl, rfl⟩) | (go_at_call 18; (with_reducible refine H18.out.mono ?_); rintro e w1 ⟨rfl, rfl⟩) | (go_at_call 19; refine (esc19_bs p (cs.set 15 v1) v1 (zs ++ outK false (nums s) 0) c _ _ _ HP1.out HC.out.1 HC.out.2 (by have := outK_len false (nums s) 0; have := HL.out; simp; omega) HX.out).mono ?_; rintro e w2 ⟨rfl, hpr⟩; have HPR := Lib.hid hpr; clear hpr))
              go_roundw
              case rel => exact ⟨0 + 1, by omega, by have h9 := Mid.print HIT1.out HP1.out.buf HS1.out hpB HPR.out; simpa [HK.out] using h9⟩
              case measure =>
                have h1 := HIT.out
                have h2 := (Mid.print HIT1.out HP1.out.buf HS1.out hpB HPR.out).it
                simp only [World.iterPos, h2, h1]
                omega
          · have t0 : ((k : Int) == 0) = false := by simp; omega
            have HK := Lib.hid (outK_esc (st := false) (zs := nums s) (k := k) (by unfold escB; rw [HN.out]; simp [HV.out]; try omega))
            rw [HN.out] at HK
            by_cases hf : f = 0
            · have tf : (f == 0) = true := by simp [hf]
              clear hf
              by_cases hn : k + 1 = s.size
              · have tn : ((k : Int) + 1 == (s.size : Int)) = true := by simp; omega
                have tn0 : ((0 : Int) + 1 == (s.size : Int)) = true ∨ True := .inr trivial
                go_wp2_with (first | (go_at_call 17; (with_reducible refine H17.out.mono ?_); rintro e w1 ⟨rfl, rfl⟩) | (go_at_call 18; (with_reducible refine H18.out.mono ?_); rintro e w1 ⟨rfl, rfl⟩) | (go_at_call 19; refine (esc19_bs p (cs.set 15 v1) v1 (zs ++ outK false (nums s) k) c _ _ _ HP1.out HC.out.1 HC.out.2 (by have := outK_len false (nums s) k; have := HL.out; simp; omega) HX.out).mono ?_; rintro e w2 ⟨rfl, hpr⟩; have HPR := Lib.hid hpr; clear hpr))
                go_roundw
                case rel => exact ⟨k + 1, by omega, by have h9 := Mid.print HIT1.out HP1.out.buf HS1.out hpB HPR.out; simpa [HK.out] using h9⟩
                case measure =>
                  have h1 := HIT.out
                  have h2 := (Mid.print HIT1.out HP1.out.buf HS1.out hpB HPR.out).it
                  simp only [World.iterPos, h2, h1]
                  omega
              · have tn : ((k : Int) + 1 == (s.size : Int)) = false := by simp; omega
                go_wp2_with (first | (go_at_call 17; (with_reducible refine H17.out.mono ?_); rintro e w1 ⟨rfl, rfl⟩) | (go_at_call 18; (with_reducible refine H18.out.mono ?_); rintro e w1 ⟨rfl, rfl⟩) | (go_at_call 19; refine (esc19_bs p (cs.set 15 v1) v1 (zs ++ outK false (nums s) k) c _ _ _ HP1.out HC.out.1 HC.out.2 (by have := outK_len false (nums s) k; have := HL.out; simp; omega) HX.out).mono ?_; rintro e w2 ⟨rfl, hpr⟩; have HPR := Lib.hid hpr; clear hpr))
                go_roundw
                case rel => exact ⟨k + 1, by omega, by have h9 := Mid.print HIT1.out HP1.out.buf HS1.out hpB HPR.out; simpa [HK.out] using h9⟩
                case measure =>
                  have h1 := HIT.out
                  have h2 := (Mid.print HIT1.out HP1.out.buf HS1.out hpB HPR.out).it
                  simp only [World.iterPos, h2, h1]
                  omega
            · have tf : (f == 0) = false := by simp [hf]
              clear hf
              go_wp2_with (first | (go_at_call 17; (with_reducible refine H17.out.mono ?_); rintro e w1 ⟨rfl, rfl⟩) | (go_at_call 18; (with_reducible refine H18.out.mono ?_); rintro e w1 ⟨rfl, rfl⟩) | (go_at_call 19; refine (esc19_bs p (cs.set 15 v1) v1 (zs ++ outK false (nums s) k) c _ _ _ HP1.out HC.out.1 HC.out.2 (by have := outK_len false (nums s) k; have := HL.out; simp; omega) HX.out).mono ?_; rintro e w2 ⟨rfl, hpr⟩; have HPR := Lib.hid hpr; clear hpr))
              go_roundw
              case rel => exact ⟨k + 1, by omega, by have h9 := Mid.print HIT1.out HP1.out.buf HS1.out hpB HPR.out; simpa [HK.out] using h9⟩
              case measure =>
                have h1 := HIT.out
                have h2 := (Mid.print HIT1.out HP1.out.buf HS1.out hpB HPR.out).it
                simp only [World.iterPos, h2, h1]
                omega
      · rw [hv] at H17
        have HV := Lib.hid hv
        clear hv
        cases ao
        · skip
          by_cases h0 : k = 0
          · subst h0
            obtain rfl : c = 45 := by have := start_nm HSB.out (by rw [HN.out]; exact HDG.out rfl) (by rw [nums_length]; exact hlt) (by rw [HN.out]; exact HV.out); rwa [HN.out] at this
            have HX := Lib.hid nohex_45
            have HK := Lib.hid (outK_esc (st := false) (zs := nums s) (k := 0) (by unfold escB; rw [HN.out]; simp [HV.out]; try omega))
            rw [HN.out] at HK
            by_cases hf : f = 0
            · have tf : (f == 0) = true := by simp [hf]
              clear hf
              by_cases hn : 0 + 1 = s.size
              · have tn : ((0 : Int) + 1 == (s.size : Int)) = true := by simp; omega
                have tn0 : ((0 : Int) + 1 == (s.size : Int)) = true ∨ True := .inr trivial
                go_wp2_with (first | (go_at_call 17; (with_reducible refine H17.out.mono ?_); rintro e w1 ⟨rfl, rfl⟩) | (go_at_call 18; (with_reducible refine H18.out.mono ?_); rintro e w1 ⟨rfl, rfl⟩) | (go_at_call 19; refine (esc19_bs p (cs.set 15 v1) v1 (zs ++ outK false (nums s) 0) 45 _ _ _ HP1.out HC.out.1 HC.out.2 (by have := outK_len false (nums s) 0; have := HL.out; simp; omega) HX.out).mono ?_; rintro e w2 ⟨rfl, hpr⟩; have HPR := Lib.hid hpr; clear hpr))
                go_roundw
                case rel => exact ⟨0 + 1, by omega, by have h9 := Mid.print HIT1.out HP1.out.buf HS1.out hpB HPR.out; simpa [HK.out] using h9⟩
                case measure =>
                  have h1 := HIT.out
                  have h2 := (Mid.print HIT1.out HP1.out.buf HS1.out hpB HPR.out).it
                  simp only [World.iterPos, h2, h1]
                  omega
              · have tn : ((0 : Int) + 1 == (s.size : Int)) = false := by simp; omega
                go_wp2_with (first | (go_at_call 17; (with_reducible refine H17.out.mono ?_); rintro e w1 ⟨rfl, rfl⟩) | (go_at_call 18; (with_reducible refine H18.out.mono ?_); rintro e w1 ⟨rfl, rfl⟩) | (go_at_call 19; refine (esc19_bs p (cs.set 15 v1) v1 (zs ++ outK false (nums s) 0) 45 _ _ _ HP1.out HC.out.1 HC.out.2 (by have := outK_len false (nums s) 0; have := HL.out; simp; omega) HX.out).mono ?_; rintro e w2 ⟨rfl, hpr⟩; have HPR := Lib.hid hpr; clear hpr))
                go_roundw
                case rel => exact ⟨0 + 1, by omega, by have h9 := Mid.print HIT1.out HP1.out.buf HS1.out hpB HPR.out; simpa [HK.out] using h9⟩
                case measure =>
                  have h1 := HIT.out
                  have h2 := (Mid.print HIT1.out HP1.out.buf HS1.out hpB HPR.out).it
                  simp only [World.iterPos, h2, h1]
                  omega
            · have tf : (f == 0) = false := by simp [hf]
              clear hf
              go_wp2_with (first | (go_at_call 17; (with_reducible refine H17.out.mono ?_); rintro e w1 ⟨rfl, rfl⟩) | (go_at_call 18; (with_reducible refine H18.out.mono ?_); rintro e w1 ⟨rfl, rfl⟩) | (go_at_call 19; refine (esc19_bs p (cs.set 15 v1) v1 (zs ++ outK false (nums s) 0) 45 _ _ _ HP1.out HC.out.1 HC.out.2 (by have := outK_len false (nums s) 0; have := HL.out; simp; omega) HX.out).mono ?_; rintro e w2 ⟨rfl, hpr⟩; have HPR := Lib.hid hpr; clear hpr))
              go_roundw
              case rel => exact ⟨0 + 1, by omega, by have h9 := Mid.print HIT1.out HP1.out.buf HS1.out hpB HPR.out; simpa [HK.out] using h9⟩
              case measure =>
                have h1 := HIT.out
                have h2 := (Mid.print HIT1.out HP1.out.buf HS1.out hpB HPR.out).it
                simp only [World.iterPos, h2, h1]
                omega
          · have t0 : ((k : Int) == 0) = false := by simp; omega
            have HK := Lib.hid (outK_plain (st := false) (zs := nums s) (k := k) (by unfold escB; rw [HN.out]; simp [HV.out]; try omega))
            rw [HN.out] at HK
            by_cases hf : f = 0
            · have tf : (f == 0) = true := by simp [hf]
              clear hf
              go_wp2_with (first | (go_at_call 17; (with_reducible refine H17.out.mono ?_); rintro e w1 ⟨rfl, rfl⟩) | (go_at_call 18; (with_reducible refine H18.out.mono ?_); rintro e w1 ⟨rfl, rfl⟩) | (go_at_call 19; refine (esc19_no p (cs.set 15 v1) v1 (zs ++ outK false (nums s) k) c _ _ _ HP1.out HC.out.1 HC.out.2 (by have := outK_len false (nums s) k; have := HL.out; simp; omega)).mono ?_; rintro e w2 ⟨rfl, hpr⟩; have HPR := Lib.hid hpr; clear hpr))
              go_roundw
              case rel => exact ⟨k + 1, by omega, by have h9 := Mid.print HIT1.out HP1.out.buf HS1.out hpB HPR.out; simpa [HK.out] using h9⟩
              case measure =>
                have h1 := HIT.out
                have h2 := (Mid.print HIT1.out HP1.out.buf HS1.out hpB HPR.out).it
                simp only [World.iterPos, h2, h1]
                omega
            · have tf : (f == 0) = false := by simp [hf]
              clear hf
              go_wp2_with (first | (go_at_call 17; (with_reducible refine H17.out.mono ?_); rintro e w1 ⟨rfl, rfl⟩) | (go_at_call 18; (with_reducible refine H18.out.mono ?_); rintro e w1 ⟨rfl, rfl⟩) | (go_at_call 19; refine (esc19_no p (cs.set 15 v1) v1 (zs ++ outK false (nums s) k) c _ _ _ HP1.out HC.out.1 HC.out.2 (by have := outK_len false (nums s) k; have := HL.out; simp; omega)).mono ?_; rintro e w2 ⟨rfl, hpr⟩; have HPR := Lib.hid hpr; clear hpr))
              go_roundw
              case rel => exact ⟨k + 1, by omega, by have h9 := Mid.print HIT1.out HP1.out.buf HS1.out hpB HPR.out; simpa [HK.out] using h9⟩
              case measure =>
                have h1 := HIT.out
                have h2 := (Mid.print HIT1.out HP1.out.buf HS1.out hpB HPR.out).it
                simp only [World.iterPos, h2, h1]
                omega
        · skip
          by_cases h0 : k = 0
          · subst h0
            obtain rfl : c = 45 := by have := start_nm HSB.out (by rw [HN.out]; exact HDG.out rfl) (by rw [nums_length]; exact hlt) (by rw [HN.out]; exact HV.out); rwa [HN.out] at this
            have HX := Lib.hid nohex_45
            have HK := Lib.hid (outK_esc (st := false) (zs := nums s) (k := 0) (by unfold escB; rw [HN.out]; simp [HV.out]; try omega))
            rw [HN.out] at HK
            by_cases hf : f = 0
            · have tf : (f == 0) = true := by simp [hf]
              clear hf
              by_cases hn : 0 + 1 = s.size
              · have tn : ((0 : Int) + 1 == (s.size : Int)) = true := by simp; omega
                have tn0 : ((0 : Int) + 1 == (s.size : Int)) = true ∨ True := .inr trivial
                go_wp2_with (first | (go_at_call 17; (with_reducible refine H17.out.mono ?_); rintro e w1 ⟨rfl, rfl⟩) | (go_at_call 18; (with_reducible refine H18.out.mono ?_); rintro e w1 ⟨rfl, rfl⟩) | (go_at_call 19; refine (esc19_bs p (cs.set 15 v1) v1 (zs ++ outK false (nums s) 0) 45 _ _ _ HP1.out HC.out.1 HC.out.2 (by have := outK_len false (nums s) 0; have := HL.out; simp; omega) HX.out).mono ?_; rintro e w2 ⟨rfl, hpr⟩; have HPR := Lib.hid hpr; clear hpr))
                go_roundw
                case rel => exact ⟨0 + 1, by omega, by have h9 := Mid.print HIT1.out HP1.out.buf HS1.out hpB HPR.out; simpa [HK.out] using h9⟩
                case measure =>
                  have h1 := HIT.out
                  have h2 := (Mid.print HIT1.out HP1.out.buf HS1.out hpB HPR.out).it
                  simp only [World.iterPos, h2, h1]
                  omega
              · have tn : ((0 : Int) + 1 == (s.size : Int)) = false := by simp; omega
                go_wp2_with (first | (go_at_call 17; (with_reducible refine H17.out.mono ?_); rintro e w1 ⟨rfl, rfl⟩) | (go_at_call 18; (with_reducible refine H18.out.mono ?_); rintro e w1 ⟨rfl, rfl⟩) | (go_at_call 19; refine (esc19_bs p (cs.set 15 v1) v1 (zs ++ outK false (nums s) 0) 45 _ _ _ HP1.out HC.out.1 HC.out.2 (by have := outK_len false (nums s) 0; have := HL.out; simp; omega) HX.out).mono ?_; rintro e w2 ⟨rfl, hpr⟩; have HPR := Lib.hid hpr; clear hpr))
                go_roundw
                case rel => exact ⟨0 + 1, by omega, by have h9 := Mid.print HIT1.out HP1.out.buf HS1.out hpB HPR.out; simpa [HK.out] using h9⟩
                case measure =>
                  have h1 := HIT.out
                  have h2 := (Mid.print HIT1.out HP1.out.buf HS1.out hpB HPR.out).it
                  simp only [World.iterPos, h2, h1]
                  omega
            · have tf : (f == 0) = false := by simp [hf]
              clear hf
              go_wp2_with (first | (go_at_call 17; (with_reducible refine H17.out.mono ?_); rintro e w1 ⟨rfl, rfl⟩) | (go_at_call 18; (with_reducible refine H18.out.mono ?_); rintro e w1 ⟨rfl, rfl⟩) | (go_at_call 19; refine (esc19_bs p (cs.set 15 v1) v1 (zs ++ outK false (nums s) 0) 45 _ _ _ HP1.out HC.out.1 HC.out.2 (by have := outK_len false (nums s) 0; have := HL.out; simp; omega) HX.out).mono ?_; rintro e w2 ⟨rfl, hpr⟩; have HPR := Lib.hid hpr; clear hpr))
              go_roundw
              case rel => exact ⟨0 + 1, by omega, by have h9 := Mid.print HIT1.out HP1.out.buf HS1.out hpB HPR.out; simpa [HK.out] using h9⟩
              case measure =>
                have h1 := HIT.out
                have h2 := (Mid.print HIT1.out HP1.out.buf HS1.out hpB HPR.out).it
                simp only [World.iterPos, h2, h1]
                omega
          · have t0 : ((k : Int) == 0) = false := by simp; omega
            have HK := Lib.hid (outK_plain (st := false) (zs := nums s) (k := k) (by unfold escB; rw [HN.out]; simp [HV.out]; try omega))
            rw [HN.out] at HK
            by_cases hf : f = 0
            · have tf : (f == 0) = true := by simp [hf]
              clear hf
              go_wp2_with (first | (go_at_call 17; (with_reducible refine H17.out.mono ?_); rintro e w1 ⟨rfl, rfl⟩) | (go_at_call 18; (with_reducible refine H18.out.mono ?_); rintro e w1 ⟨rfl, rfl⟩) | (go_at_call 19; refine (esc19_no p (cs.set 15 v1) v1 (zs ++ outK false (nums s) k) c _ _ _ HP1.out HC.out.1 HC.out.2 (by have := outK_len false (nums s) k; have := HL.out; simp; omega)).mono ?_; rintro e w2 ⟨rfl, hpr⟩; have HPR := Lib.hid hpr; clear hpr))
              go_roundw
              case rel => exact ⟨k + 1, by omega, by have h9 := Mid.print HIT1.out HP1.out.buf HS1.out hpB HPR.out; simpa [HK.out] using h9⟩
              case measure =>
                have h1 := HIT.out
                have h2 := (Mid.print HIT1.out HP1.out.buf HS1.out hpB HPR.out).it
                simp only [World.iterPos, h2, h1]
                omega
            · have tf : (f == 0) = false := by simp [hf]
              clear hf
              go_wp2_with (first | (go_at_call 17; (with_reducible refine H17.out.mono ?_); rintro e w1 ⟨rfl, rfl⟩) | (go_at_call 18; (with_reducible refine H18.out.mono ?_); rintro e w1 ⟨rfl, rfl⟩) | (go_at_call 19; refine (esc19_no p (cs.set 15 v1) v1 (zs ++ outK false (nums s) k) c _ _ _ HP1.out HC.out.1 HC.out.2 (by have := outK_len false (nums s) k; have := HL.out; simp; omega)).mono ?_; rintro e w2 ⟨rfl, hpr⟩; have HPR := Lib.hid hpr; clear hpr))
              go_roundw
              case rel => exact ⟨k + 1, by omega, by have h9 := Mid.print HIT1.out HP1.out.buf HS1.out hpB HPR.out; simpa [HK.out] using h9⟩
              case measure =>
                have h1 := HIT.out
                have h2 := (Mid.print HIT1.out HP1.out.buf HS1.out hpB HPR.out).it
                simp only [World.iterPos, h2, h1]
                omega
    · have hnx : ∀ ty, (Instr.next (.pointer (some ⟨w.heap.size, 0, none⟩)) true ty).run Tryf.prog wr = .ok (.tuple #[.bool false]) wr := fun ty => next_end hit hlt ty
      obtain rfl : k = s.size := by omega
      clear hit
      go_wp2_with fail
      go_end0
      obtain ⟨v', h1, h2⟩ := HMD.out.pr
      exact ⟨rfl, v', h1, h2⟩
end Go.Proofs.YtmhiekokjogkhaaFmt.IdE
