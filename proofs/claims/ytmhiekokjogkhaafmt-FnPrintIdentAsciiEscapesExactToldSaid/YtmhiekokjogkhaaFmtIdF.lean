/- FnPrintIdentAsciiEscapesExact: printIdent, the other way. -/
import Derived.Test.YtmhiekokjogkhaaFmtRows
import Derived.Test.YtmhiekokjogkhaaFmtMem
import Derived.Test.YtmhiekokjogkhaaFmtSl
import Derived.Test.YtmhiekokjogkhaaFmtIdE
import Derived.Great.BuildSlice
import Derived.Deep.RegionLaw
import Derived.WalkMore
import Derived.ScopeJumps
import Derived.Laws.RangeAny
import Derived.WalkKit
import Derived.ProofKit
import Derived.OpenShut
import Derived.Below
import Derived.WalkLawsBesides
import Derived.Lib.Hide
import Derived.Outline
import Derived.RegionTactic
import Derived.Deep.QuietTactic
import Derived.BigQuiet
import Derived.WalkSpells
import Derived.Deep.OwnRows
import Derived.IntWalk
import Derived.Deep.DeepMust
namespace Go.Proofs.YtmhiekokjogkhaaFmt.IdF
open Go.RowKit Mem Sl
set_option linter.unusedVariables false
open Prn Pru Idn Str IdA IdB IdC IdD IdE Own Dec

set_option maxRecDepth 100000 in
set_option maxHeartbeats 16000000 in
theorem id13_ok (p : Nat) (cs : List Value) (v : Value) (zs : List Int) (s : ByteArray) (f : Int) (ao : Bool) (w : World) (h : Pr w p 61 15 5 cs v zs) (hao : cs[7]? = some (.bool ao)) (hs : s.size ≤ 1048576) (hb : zs.length ≤ 1048576) (hD : Dom s) (hst : startB (nums s) = true) (hall : ∀ k, k < s.size → nameB ((nums s).getD k 0) = true) :
    Calls Tryf.prog 13 #[.pointer (some ⟨p, 0, none⟩), .string s, .int .u8 0, .int .u8 f] w fun e w' => e = .returned (.tuple #[]) ∧ Printed w p 61 15 5 cs v (zs ++ outK true (nums s) s.size) w' := by
  have HL := Lib.hid hb
  have HAO := Lib.hid hao
  have HDOM := Lib.hid hD
  have HX0 := Lib.hid h
  have hpB : p < w.heap.size := h.row.lt
  have hBw : w.heap.size ≤ w.heap.size := Nat.le_refl _
  have H16 := Lib.hid (would16 s w hs hD)
  rw [hst] at H16
  have HGD := Lib.hid hall
  have HALL := Lib.hid ((outK_all (nums s) s.size (by rw [nums_length]; exact Nat.le_refl _) hall).trans (by rw [← nums_length, List.take_length]))
  obtain ⟨i0, hi, hz0, hz1, hz2⟩ := info_parts info5
  clear hst hall h hb hao hD
  go_enter Tryf.func13, Tryf.ntmps13
  go_wp2_with (first | (go_at_call 16; (with_reducible refine H16.out.mono ?_); rintro e w1 ⟨rfl, rfl⟩))
  go_step3
  go_wp2_with fail
  go_loop [11] (fun i => ∃ k : Nat, k ≤ s.size ∧ i = .int .i64 k) (fun i => s.size - (intOf i).toNat)
  case atStart => exact ⟨0, Nat.zero_le _, rfl⟩
  case round =>
    obtain ⟨k, hk, rfl⟩ := hrel
    by_cases hlt : k < s.size
    · obtain ⟨b, hb, hnb⟩ := byte_at s k hlt
      have hdm := HDOM.out.1 k hlt
      rw [hnb] at hdm
      have hgd := HGD.out k hlt
      rw [hnb] at hgd
      generalize hc : (b.toNat : Int) = c at hnb hdm hgd
      have H17 := Lib.hid (con17 c w hdm.1 hdm.2.1)
      have t128 : decide (128 ≤ c) = false := by simp; omega
      have hq0 : 0 ≤ c := by omega
      have hq1 : c ≤ 127 := by omega
      rw [hgd] at H17
      clear hdm hgd hnb
      go_wp2_with (first | (go_at_call 17; (with_reducible refine H17.out.mono ?_); rintro e w1 ⟨rfl, rfl⟩))
      go_round
      case rel => exact ⟨k + 1, by omega, by go_num⟩
      case measure => simp [intOf]; omega
    · obtain rfl : k = s.size := by omega
      obtain ⟨A0, cc0, hv0⟩ := HX0.out.buf.form
      generalize hn0 : zs.length = n0 at hv0
      subst hv0
      have c15 := HX0.out.row.at_ HX0.out.at_
      have HLS := Lib.hid (show zs.length + s.size ≤ 1000000000 by have := HL.out; omega)
      clear hn0
      go_wp2_with (at_builtin; refine wpList_append_str _ rfl (.tmp 102) (.tmp 103) 22 9 rfl 5 i0 Tryf.underlying22 Tryf.underlying9 hi hz0 hz1 hz2 (.slice A0 n0 cc0) zs rfl HX0.out.buf s rfl HLS.out ?_; intro A1 n1 cp1 w1 hbuf hgr hat; obtain ⟨k1, k2, k3, k4⟩ := HX0.out.store (by decide) hbuf (.of_grown hgr hat) hgr; have K1 := Lib.hid k1; have K2 := Lib.hid k2; clear k1 k2 hbuf hgr hat)
      refine bodyPost_ret (results_none rfl _ _ _) rfl ⟨rfl, _, ?_, K2.out⟩
      have h9 := K1.out
      rwa [show nums s = outK true (nums s) s.size from (HALL.out).symm] at h9

set_option maxRecDepth 100000 in
set_option maxHeartbeats 16000000 in
theorem id13_t (p : Nat) (cs : List Value) (v : Value) (zs : List Int) (s : ByteArray) (f : Int) (ao : Bool) (w : World) (h : Pr w p 61 15 5 cs v zs) (hao : cs[7]? = some (.bool ao)) (hs : s.size ≤ 1048576) (hb : zs.length ≤ 1048576) (hD : Dom s) (hst : startB (nums s) = true) (m : Nat) (hm : m < s.size) (hgd0 : ∀ k, (k < m → nameB ((nums s).getD k 0) = true) ∧ (k = m → nameB ((nums s).getD k 0) = false)) :
    Calls Tryf.prog 13 #[.pointer (some ⟨p, 0, none⟩), .string s, .int .u8 0, .int .u8 f] w fun e w' => e = .returned (.tuple #[]) ∧ Printed w p 61 15 5 cs v (zs ++ outK true (nums s) s.size) w' := by
  have HL := Lib.hid hb
  have HAO := Lib.hid hao
  have HDOM := Lib.hid hD
  have HX0 := Lib.hid h
  have hpB : p < w.heap.size := h.row.lt
  have hBw : w.heap.size ≤ w.heap.size := Nat.le_refl _
  have H16 := Lib.hid (would16 s w hs hD)
  rw [hst] at H16
  have HGD := Lib.hid hgd0
  have HM0 := Lib.hid (mid0 (s := s) h)
  clear hst hgd0 h hb hao hD
  go_enter Tryf.func13, Tryf.ntmps13
  go_wp2_with (first | (go_at_call 16; (with_reducible refine H16.out.mono ?_); rintro e w1 ⟨rfl, rfl⟩))
  refine wp_scope_jumps 0 (fun a' w' => w' = w ∧ ∃ (u11 u12 u82 u83 u84 u85 u86 u87 u88 u89 u90 u91 u92 u93 u94 u95 u96 u97 : Value), a' = { tmps := #[.pointer (some ⟨p, 0, none⟩), .string s, .int .u8 0, .int .u8 f, undef, undef, undef, undef, .int .i64 (s.size : Int), .int .u8 0, undef, u11, u12, undef, undef, undef, undef, .string s, .int .i64 (s.size : Int), .int .u8 0, .bool true, .bool true, .string s, .bool true, .bool false, undef, undef, undef, undef, undef, undef, undef, undef, undef, undef, undef, undef, undef, undef, undef, undef, undef, undef, undef, undef, undef, undef, undef, undef, undef, undef, undef, undef, undef, undef, undef, undef, undef, undef, undef, undef, undef, undef, undef, undef, undef, undef, undef, undef, undef, undef, undef, undef, undef, undef, undef, undef, undef, undef, undef, .int .u8 0, .bool true, u82, u83, u84, u85, u86, u87, u88, u89, u90, u91, u92, u93, u94, u95, u96, u97, undef, undef, undef, undef, undef, undef, undef, undef, undef, undef, undef, undef, undef, undef, undef, undef, undef, undef, undef, undef, undef, undef, undef, undef, undef, undef, undef, undef, undef, undef, undef, undef, undef, undef, undef, undef, undef, undef, undef, undef, undef, undef, undef, undef, undef, undef, undef, undef, undef, undef, undef, undef, undef, undef, undef, undef, undef, undef, undef, undef, undef, undef, undef, undef, undef, undef, undef, undef, undef, undef], defers := [] }) (fun _ _ => 0) rfl ?_ ?_
  · go_wp2_with fail
    go_loop [11] (fun i => ∃ k : Nat, k ≤ s.size ∧ i = .int .i64 k ∧ k ≤ m) (fun i => s.size - (intOf i).toNat)
    case atStart => exact ⟨0, Nat.zero_le _, rfl, Nat.zero_le _⟩
    case round =>
      obtain ⟨k, hk, rfl, hkm⟩ := hrel
      by_cases hlt : k < s.size
      · obtain ⟨b, hb, hnb⟩ := byte_at s k hlt
        have hdm := HDOM.out.1 k hlt
        rw [hnb] at hdm
        have hgd := HGD.out k 
        rw [hnb] at hgd
        generalize hc : (b.toNat : Int) = c at hnb hdm hgd
        have H17 := Lib.hid (con17 c w hdm.1 hdm.2.1)
        have t128 : decide (128 ≤ c) = false := by simp; omega
        have hq0 : 0 ≤ c := by omega
        have hq1 : c ≤ 127 := by omega
        by_cases hkm2 : k < m
        · rw [hgd.1 hkm2] at H17
          clear hdm hgd hnb
          go_wp2_with (first | (go_at_call 17; (with_reducible refine H17.out.mono ?_); rintro e w1 ⟨rfl, rfl⟩))
          go_round
          case rel => exact ⟨k + 1, by omega, by go_num, by omega⟩
          case measure => simp [intOf]; omega
        · rw [hgd.2 (by omega)] at H17
          clear hdm hgd hnb
          go_wp2_with (first | (go_at_call 17; (with_reducible refine H17.out.mono ?_); rintro e w1 ⟨rfl, rfl⟩))
          go_step3
          exact ⟨rfl, rfl, _, _, _, _, _, _, _, _, _, _, _, _, _, _, _, _, _, _, rfl⟩
      · exfalso; omega
  · rintro a' w' ⟨hw, u11, u12, u82, u83, u84, u85, u86, u87, u88, u89, u90, u91, u92, u93, u94, u95, u96, u97, rfl⟩
    rw [hw]
    clear hw
    go_wp2_with fail
    simp only [Exit.jump]
    go_wp2_with fail
    go_loopw [13] (fun x wr => ∃ k : Nat, k ≤ s.size ∧ Mid w w.heap.size p v cs s k (zs ++ outK true (nums s) k) wr) (fun _ wr => s.size - wr.iterPos w.heap.size)
    case atStart => exact ⟨0, Nat.zero_le _, HM0.out⟩
    case round =>
      obtain ⟨k, hk, hmid⟩ := hrel
      have hit := hmid.it
      have HIT := Lib.hid hit
      have HMD := Lib.hid hmid
      clear hmid
      by_cases hlt : k < s.size
      · obtain ⟨W', hnx, hit', hg', hsz'⟩ := next_at (P := Tryf.prog) hit hlt
        obtain ⟨b, hb, hnb⟩ := byte_at s k hlt
        have hdm := HDOM.out.1 k hlt
        rw [hnb] at hdm
        have hby : by_ s k = b.toNat := by rw [by_at s k hlt, hb]
        rw [dec1 s k (by rw [hby]; omega), hby] at hnx hit'
        simp only at hnx hit'
        generalize hc : (b.toNat : Int) = c at hnb hdm hnx
        have HN := Lib.hid hnb
        have HC := Lib.hid (show 0 ≤ c ∧ c < 128 by omega)
        have H17 := Lib.hid (con17 c W' hdm.1 hdm.2.1)
        have H18 := Lib.hid (len18 c W' (by omega) hdm.2.1)
        have hmid1 := HMD.out.next hBw hpB hit' hg'
        have HIT1 := Lib.hid hmid1.it
        obtain ⟨v1, hp1, hs1⟩ := hmid1.pr
        have c7 : W'.cell? ⟨p, 7, none⟩ = some (.bool ao) := hp1.row.at_ (by rw [List.getElem?_set_ne (by decide)]; exact HAO.out)
        have HP1 := Lib.hid hp1
        have HS1 := Lib.hid hs1
        have t128 : decide (128 ≤ c) = false := by simp; omega
        have t13 : (c == 13) = false := by simp; omega
        have t10 : (c == 10) = false := by simp; omega
        have t12 : (c == 12) = false := by simp; omega
        have tfe : (c == 65279) = false := by simp; omega
        have HDG := Lib.hid (show k = 0 → digB c = false from fun h => by subst h; have := HDOM.out.2 (by omega); rwa [HN.out] at this)
        clear hit hit' hg' hsz' hnb hdm hmid1 hp1 hs1 hb hc hby
        cases hv : nameB c
        · rw [hv] at H17
          have HV := Lib.hid hv
          have HX := Lib.hid (nohex_nm hv)
          clear hv
          cases ao
          · skip
            by_cases h0 : k = 0
            · subst h0
              have HK := Lib.hid (outK_esc (st := true) (zs := nums s) (k := 0) (by unfold escB; rw [HN.out]; simp [HV.out]; try omega))
              rw [HN.out] at HK
              by_cases hf : f = 0
              · have tf : (f == 0) = true := by simp [hf]
                clear hf
                by_cases hn : 0 + 1 = s.size
                · have tn : ((0 : Int) + 1 == (s.size : Int)) = true := by simp; omega
                  have tn0 : ((0 : Int) + 1 == (s.size : Int)) = true ∨ True := .inr trivial
                  go_wp2_with (first | (go_at_call 17; (with_reducible refine H17.out.mono ?_); rintro e w1 ⟨rfl, rfl⟩) | (go_at_call 18; (with_reducible refine H18.out.mono ?_); rintro e w1 ⟨rfl, rfl⟩) | (go_at_call 19; refine (esc19_bs p (cs.set 15 v1) v1 (zs ++ outK true (nums s) 0) c _ _ _ HP1.out HC.out.1 HC.out.2 (by have := outK_len true (nums s) 0; have := HL.out; simp; omega) HX.out).mono ?_; rintro e w2 ⟨rfl, hpr⟩; have HPR := Lib.hid hpr; clear hpr))
                  go_roundw
                  case rel => exact ⟨0 + 1, by omega, by have h9 := Mid.print HIT1.out HP1.out.buf HS1.out hpB HPR.out; simpa [HK.out] using h9⟩
                  case measure =>
                    have h1 := HIT.out
                    have h2 := (Mid.print HIT1.out HP1.out.buf HS1.out hpB HPR.out).it
                    simp only [World.iterPos, h2, h1]
                    omega
                · have tn : ((0 : Int) + 1 == (s.size : Int)) = false := by simp; omega
                  go_wp2_with (first | (go_at_call 17; (with_reducible refine H17.out.mono ?_); rintro e w1 ⟨rfl, rfl⟩) | (go_at_call 18; (with_reducible refine H18.out.mono ?_); rintro e w1 ⟨rfl, rfl⟩) | (go_at_call 19; refine (esc19_bs p (cs.set 15 v1) v1 (zs ++ outK true (nums s) 0) c _ _ _ HP1.out HC.out.1 HC.out.2 (by have := outK_len true (nums s) 0; have := HL.out; simp; omega) HX.out).mono ?_; rintro e w2 ⟨rfl, hpr⟩; have HPR := Lib.hid hpr; clear hpr))
                  go_roundw
                  case rel => exact ⟨0 + 1, by omega, by have h9 := Mid.print HIT1.out HP1.out.buf HS1.out hpB HPR.out; simpa [HK.out] using h9⟩
                  case measure =>
                    have h1 := HIT.out
                    have h2 := (Mid.print HIT1.out HP1.out.buf HS1.out hpB HPR.out).it
                    simp only [World.iterPos, h2, h1]
                    omega
              · have tf : (f == 0) = false := by simp [hf]
                clear hf
                go_wp2_with (first | (go_at_call 17; (with_reducible refine H17.out.mono ?_); rintro e w1 ⟨rfl, rfl⟩) | (go_at_call 18; (with_reducible refine H18.out.mono ?_); rintro e w1 ⟨rfl, rfl⟩) | (go_at_call 19; refine (esc19_bs p (cs.set 15 v1) v1 (zs ++ outK true (nums s) 0) c _ _ _ HP1.out HC.out.1 HC.out.2 (by have := outK_len true (nums s) 0; have := HL.out; simp; omega) HX.out).mono ?_; rintro e w2 ⟨rfl, hpr⟩; have HPR := Lib.hid hpr; clear hpr))
                go_roundw
                case rel => exact ⟨0 + 1, by omega, by have h9 := Mid.print HIT1.out HP1.out.buf HS1.out hpB HPR.out; simpa [HK.out] using h9⟩
                case measure =>
                  have h1 := HIT.out
                  have h2 := (Mid.print HIT1.out HP1.out.buf HS1.out hpB HPR.out).it
                  simp only [World.iterPos, h2, h1]
                  omega
            · have t0 : ((k : Int) == 0) = false := by simp; omega
              have HK := Lib.hid (outK_esc (st := true) (zs := nums s) (k := k) (by unfold escB; rw [HN.out]; simp [HV.out]; try omega))
              rw [HN.out] at HK
              by_cases hf : f = 0
              · have tf : (f == 0) = true := by simp [hf]
                clear hf
                by_cases hn : k + 1 = s.size
                · have tn : ((k : Int) + 1 == (s.size : Int)) = true := by simp; omega
                  have tn0 : ((0 : Int) + 1 == (s.size : Int)) = true ∨ True := .inr trivial
                  go_wp2_with (first | (go_at_call 17; (with_reducible refine H17.out.mono ?_); rintro e w1 ⟨rfl, rfl⟩) | (go_at_call 18; (with_reducible refine H18.out.mono ?_); rintro e w1 ⟨rfl, rfl⟩) | (go_at_call 19; refine (esc19_bs p (cs.set 15 v1) v1 (zs ++ outK true (nums s) k) c _ _ _ HP1.out HC.out.1 HC.out.2 (by have := outK_len true (nums s) k; have := HL.out; simp; omega) HX.out).mono ?_; rintro e w2 ⟨rfl, hpr⟩; have HPR := Lib.hid hpr; clear hpr))
                  go_roundw
                  case rel => exact ⟨k + 1, by omega, by have h9 := Mid.print HIT1.out HP1.out.buf HS1.out hpB HPR.out; simpa [HK.out] using h9⟩
                  case measure =>
                    have h1 := HIT.out
                    have h2 := (Mid.print HIT1.out HP1.out.buf HS1.out hpB HPR.out).it
                    simp only [World.iterPos, h2, h1]
                    omega
                · have tn : ((k : Int) + 1 == (s.size : Int)) = false := by simp; omega
                  go_wp2_with (first | (go_at_call 17; (with_reducible refine H17.out.mono ?_); rintro e w1 ⟨rfl, rfl⟩) | (go_at_call 18; (with_reducible refine H18.out.mono ?_); rintro e w1 ⟨rfl, rfl⟩) | (go_at_call 19; refine (esc19_bs p (cs.set 15 v1) v1 (zs ++ outK true (nums s) k) c _ _ _ HP1.out HC.out.1 HC.out.2 (by have := outK_len true (nums s) k; have := HL.out; simp; omega) HX.out).mono ?_; rintro e w2 ⟨rfl, hpr⟩; have HPR := Lib.hid hpr; clear hpr))
                  go_roundw
                  case rel => exact ⟨k + 1, by omega, by have h9 := Mid.print HIT1.out HP1.out.buf HS1.out hpB HPR.out; simpa [HK.out] using h9⟩
                  case measure =>
                    have h1 := HIT.out
                    have h2 := (Mid.print HIT1.out HP1.out.buf HS1.out hpB HPR.out).it
                    simp only [World.iterPos, h2, h1]
                    omega
              · have tf : (f == 0) = false := by simp [hf]
                clear hf
                go_wp2_with (first | (go_at_call 17; (with_reducible refine H17.out.mono ?_); rintro e w1 ⟨rfl, rfl⟩) | (go_at_call 18; (with_reducible refine H18.out.mono ?_); rintro e w1 ⟨rfl, rfl⟩) | (go_at_call 19; refine (esc19_bs p (cs.set 15 v1) v1 (zs ++ outK true (nums s) k) c _ _ _ HP1.out HC.out.1 HC.out.2 (by have := outK_len true (nums s) k; have := HL.out; simp; omega) HX.out).mono ?_; rintro e w2 ⟨rfl, hpr⟩; have HPR := Lib.hid hpr; clear hpr))
                go_roundw
                case rel => exact ⟨k + 1, by omega, by have h9 := Mid.print HIT1.out HP1.out.buf HS1.out hpB HPR.out; simpa [HK.out] using h9⟩
                case measure =>
                  have h1 := HIT.out
                  have h2 := (Mid.print HIT1.out HP1.out.buf HS1.out hpB HPR.out).it
                  simp only [World.iterPos, h2, h1]
                  omega
          · skip
            by_cases h0 : k = 0
            · subst h0
              have HK := Lib.hid (outK_esc (st := true) (zs := nums s) (k := 0) (by unfold escB; rw [HN.out]; simp [HV.out]; try omega))
              rw [HN.out] at HK
              by_cases hf : f = 0
              · have tf : (f == 0) = true := by simp [hf]
                clear hf
                by_cases hn : 0 + 1 = s.size
                · have tn : ((0 : Int) + 1 == (s.size : Int)) = true := by simp; omega
                  have tn0 : ((0 : Int) + 1 == (s.size : Int)) = true ∨ True := .inr trivial
                  go_wp2_with (first | (go_at_call 17; (with_reducible refine H17.out.mono ?_); rintro e w1 ⟨rfl, rfl⟩) | (go_at_call 18; (with_reducible refine H18.out.mono ?_); rintro e w1 ⟨rfl, rfl⟩) | (go_at_call 19; refine (esc19_bs p (cs.set 15 v1) v1 (zs ++ outK true (nums s) 0) c _ _ _ HP1.out HC.out.1 HC.out.2 (by have := outK_len true (nums s) 0; have := HL.out; simp; omega) HX.out).mono ?_; rintro e w2 ⟨rfl, hpr⟩; have HPR := Lib.hid hpr; clear hpr))
                  go_roundw
                  case rel => exact ⟨0 + 1, by omega, by have h9 := Mid.print HIT1.out HP1.out.buf HS1.out hpB HPR.out; simpa [HK.out] using h9⟩
                  case measure =>
                    have h1 := HIT.out
                    have h2 := (Mid.print HIT1.out HP1.out.buf HS1.out hpB HPR.out).it
                    simp only [World.iterPos, h2, h1]
                    omega
                · have tn : ((0 : Int) + 1 == (s.size : Int)) = false := by simp; omega
                  go_wp2_with (first | (go_at_call 17; (with_reducible refine H17.out.mono ?_); rintro e w1 ⟨rfl, rfl⟩) | (go_at_call 18; (with_reducible refine H18.out.mono ?_); rintro e w1 ⟨rfl, rfl⟩) | (go_at_call 19; refine (esc19_bs p (cs.set 15 v1) v1 (zs ++ outK true (nums s) 0) c _ _ _ HP1.out HC.out.1 HC.out.2 (by have := outK_len true (nums s) 0; have := HL.out; simp; omega) HX.out).mono ?_; rintro e w2 ⟨rfl, hpr⟩; have HPR := Lib.hid hpr; clear hpr))
                  go_roundw
                  case rel => exact ⟨0 + 1, by omega, by have h9 := Mid.print HIT1.out HP1.out.buf HS1.out hpB HPR.out; simpa [HK.out] using h9⟩
                  case measure =>
                    have h1 := HIT.out
                    have h2 := (Mid.print HIT1.out HP1.out.buf HS1.out hpB HPR.out).it
                    simp only [World.iterPos, h2, h1]
                    omega
              · have tf : (f == 0) = false := by simp [hf]
                clear hf
                go_wp2_with (first | (go_at_call 17; (with_reducible refine H17.out.mono ?_); rintro e w1 ⟨rfl, rfl⟩) | (go_at_call 18; (with_reducible refine H18.out.mono ?_); rintro e w1 ⟨rfl, rfl⟩) | (go_at_call 19; refine (esc19_bs p (cs.set 15 v1) v1 (zs ++ outK true (nums s) 0) c _ _ _ HP1.out HC.out.1 HC.out.2 (by have := outK_len true (nums s) 0; have := HL.out; simp; omega) HX.out).mono ?_; rintro e w2 ⟨rfl, hpr⟩; have HPR := Lib.hid hpr; clear hpr))
                go_roundw
                case rel => exact ⟨0 + 1, by omega, by have h9 := Mid.print HIT1.out HP1.out.buf HS1.out hpB HPR.out; simpa [HK.out] using h9⟩
                case measure =>
                  have h1 := HIT.out
                  have h2 := (Mid.print HIT1.out HP1.out.buf HS1.out hpB HPR.out).it
                  simp only [World.iterPos, h2, h1]
                  omega
            · have t0 : ((k : Int) == 0) = false := by simp; omega
              have HK := Lib.hid (outK_esc (st := true) (zs := nums s) (k := k) (by unfold escB; rw [HN.out]; simp [HV.out]; try omega))
              rw [HN.out] at HK
              by_cases hf : f = 0
              · have tf : (f == 0) = true := by simp [hf]
                clear hf
                by_cases hn : k + 1 = s.size
                · have tn : ((k : Int) + 1 == (s.size : Int)) = true := by simp; omega
                  have tn0 : ((0 : Int) + 1 == (s.size : Int)) = true ∨ True := .inr trivial
                  go_wp2_with (first | (go_at_call 17; (with_reducible refine H17.out.mono ?_); rintro e w1 ⟨rfl, rfl⟩) | (go_at_call 18; (with_reducible refine H18.out.mono ?_); rintro e w1 ⟨rfl, rfl⟩) | (go_at_call 19; refine (esc19_bs p (cs.set 15 v1) v1 (zs ++ outK true (nums s) k) c _ _ _ HP1.out HC.out.1 HC.out.2 (by have := outK_len true (nums s) k; have := HL.out; simp; omega) HX.out).mono ?_; rintro e w2 ⟨rfl, hpr⟩; have HPR := Lib.hid hpr; clear hpr))
                  go_roundw
                  case rel => exact ⟨k + 1, by omega, by have h9 := Mid.print HIT1.out HP1.out.buf HS1.out hpB HPR.out; simpa [HK.out] using h9⟩
                  case measure =>
                    have h1 := HIT.out
                    have h2 := (Mid.print HIT1.out HP1.out.buf HS1.out hpB HPR.out).it
                    simp only [World.iterPos, h2, h1]
                    omega
                · have tn : ((k : Int) + 1 == (s.size : Int)) = false := by simp; omega
                  go_wp2_with (first | (go_at_call 17; (with_reducible refine H17.out.mono ?_); rintro e w1 ⟨rfl, rfl⟩) | (go_at_call 18; (with_reducible refine H18.out.mono ?_); rintro e w1 ⟨rfl, rfl⟩) | (go_at_call 19; refine (esc19_bs p (cs.set 15 v1) v1 (zs ++ outK true (nums s) k) c _ _ _ HP1.out HC.out.1 HC.out.2 (by have := outK_len true (nums s) k; have := HL.out; simp; omega) HX.out).mono ?_; rintro e w2 ⟨rfl, hpr⟩; have HPR := Lib.hid hpr; clear hpr))
                  go_roundw
                  case rel => exact ⟨k + 1, by omega, by have h9 := Mid.print HIT1.out HP1.out.buf HS1.out hpB HPR.out; simpa [HK.out] using h9⟩
                  case measure =>
                    have h1 := HIT.out
                    have h2 := (Mid.print HIT1.out HP1.out.buf HS1.out hpB HPR.out).it
                    simp only [World.iterPos, h2, h1]
                    omega
              · have tf : (f == 0) = false := by simp [hf]
                clear hf
                go_wp2_with (first | (go_at_call 17; (with_reducible refine H17.out.mono ?_); rintro e w1 ⟨rfl, rfl⟩) | (go_at_call 18; (with_reducible refine H18.out.mono ?_); rintro e w1 ⟨rfl, rfl⟩) | (go_at_call 19; refine (esc19_bs p (cs.set 15 v1) v1 (zs ++ outK true (nums s) k) c _ _ _ HP1.out HC.out.1 HC.out.2 (by have := outK_len true (nums s) k; have := HL.out; simp; omega) HX.out).mono ?_; rintro e w2 ⟨rfl, hpr⟩; have HPR := Lib.hid hpr; clear hpr))
                go_roundw
                case rel => exact ⟨k + 1, by omega, by have h9 := Mid.print HIT1.out HP1.out.buf HS1.out hpB HPR.out; simpa [HK.out] using h9⟩
                case measure =>
                  have h1 := HIT.out
                  have h2 := (Mid.print HIT1.out HP1.out.buf HS1.out hpB HPR.out).it
                  simp only [World.iterPos, h2, h1]
                  omega
        · rw [hv] at H17
          have HV := Lib.hid hv
          clear hv
          cases ao
          · skip
            by_cases h0 : k = 0
            · subst h0
              have HK := Lib.hid (outK_plain (st := true) (zs := nums s) (k := 0) (by unfold escB; rw [HN.out]; simp [HV.out]; try omega))
              rw [HN.out] at HK
              by_cases hf : f = 0
              · have tf : (f == 0) = true := by simp [hf]
                clear hf
                go_wp2_with (first | (go_at_call 17; (with_reducible refine H17.out.mono ?_); rintro e w1 ⟨rfl, rfl⟩) | (go_at_call 18; (with_reducible refine H18.out.mono ?_); rintro e w1 ⟨rfl, rfl⟩) | (go_at_call 19; refine (esc19_no p (cs.set 15 v1) v1 (zs ++ outK true (nums s) 0) c _ _ _ HP1.out HC.out.1 HC.out.2 (by have := outK_len true (nums s) 0; have := HL.out; simp; omega)).mono ?_; rintro e w2 ⟨rfl, hpr⟩; have HPR := Lib.hid hpr; clear hpr))
                go_roundw
                case rel => exact ⟨0 + 1, by omega, by have h9 := Mid.print HIT1.out HP1.out.buf HS1.out hpB HPR.out; simpa [HK.out] using h9⟩
                case measure =>
                  have h1 := HIT.out
                  have h2 := (Mid.print HIT1.out HP1.out.buf HS1.out hpB HPR.out).it
                  simp only [World.iterPos, h2, h1]
                  omega
              · have tf : (f == 0) = false := by simp [hf]
                clear hf
                go_wp2_with (first | (go_at_call 17; (with_reducible refine H17.out.mono ?_); rintro e w1 ⟨rfl, rfl⟩) | (go_at_call 18; (with_reducible refine H18.out.mono ?_); rintro e w1 ⟨rfl, rfl⟩) | (go_at_call 19; refine (esc19_no p (cs.set 15 v1) v1 (zs ++ outK true (nums s) 0) c _ _ _ HP1.out HC.out.1 HC.out.2 (by have := outK_len true (nums s) 0; have := HL.out; simp; omega)).mono ?_; rintro e w2 ⟨rfl, hpr⟩; have HPR := Lib.hid hpr; clear hpr))
                go_roundw
                case rel => exact ⟨0 + 1, by omega, by have h9 := Mid.print HIT1.out HP1.out.buf HS1.out hpB HPR.out; simpa [HK.out] using h9⟩
                case measure =>
                  have h1 := HIT.out
                  have h2 := (Mid.print HIT1.out HP1.out.buf HS1.out hpB HPR.out).it
                  simp only [World.iterPos, h2, h1]
                  omega
            · have t0 : ((k : Int) == 0) = false := by simp; omega
              have HK := Lib.hid (outK_plain (st := true) (zs := nums s) (k := k) (by unfold escB; rw [HN.out]; simp [HV.out]; try omega))
              rw [HN.out] at HK
              by_cases hf : f = 0
              · have tf : (f == 0) = true := by simp [hf]
                clear hf
                go_wp2_with (first | (go_at_call 17; (with_reducible refine H17.out.mono ?_); rintro e w1 ⟨rfl, rfl⟩) | (go_at_call 18; (with_reducible refine H18.out.mono ?_); rintro e w1 ⟨rfl, rfl⟩) | (go_at_call 19; refine (esc19_no p (cs.set 15 v1) v1 (zs ++ outK true (nums s) k) c _ _ _ HP1.out HC.out.1 HC.out.2 (by have := outK_len true (nums s) k; have := HL.out; simp; omega)).mono ?_; rintro e w2 ⟨rfl, hpr⟩; have HPR := Lib.hid hpr; clear hpr))
                go_roundw
                case rel => exact ⟨k + 1, by omega, by have h9 := Mid.print HIT1.out HP1.out.buf HS1.out hpB HPR.out; simpa [HK.out] using h9⟩
                case measure =>
                  have h1 := HIT.out
                  have h2 := (Mid.print HIT1.out HP1.out.buf HS1.out hpB HPR.out).it
                  simp only [World.iterPos, h2, h1]
                  omega
              · have tf : (f == 0) = false := by simp [hf]
                clear hf
                go_wp2_with (first | (go_at_call 17; (with_reducible refine H17.out.mono ?_); rintro e w1 ⟨rfl, rfl⟩) | (go_at_call 18; (with_reducible refine H18.out.mono ?_); rintro e w1 ⟨rfl, rfl⟩) | (go_at_call 19; refine (esc19_no p (cs.set 15 v1) v1 (zs ++ outK true (nums s) k) c _ _ _ HP1.out HC.out.1 HC.out.2 (by have := outK_len true (nums s) k; have := HL.out; simp; omega)).mono ?_; rintro e w2 ⟨rfl, hpr⟩; have HPR := Lib.hid hpr; clear hpr))
                go_roundw
                case rel => exact ⟨k + 1, by omega, by have h9 := Mid.print HIT1.out HP1.out.buf HS1.out hpB HPR.out; simpa [HK.out] using h9⟩
                case measure =>
                  have h1 := HIT.out
                  have h2 := (Mid.print HIT1.out HP1.out.buf HS1.out hpB HPR.out).it
                  simp only [World.iterPos, h2, h1]
                  omega
          · skip
            by_cases h0 : k = 0
            · subst h0
              have HK := Lib.hid (outK_plain (st := true) (zs := nums s) (k := 0) (by unfold escB; rw [HN.out]; simp [HV.out]; try omega))
              rw [HN.out] at HK
              by_cases hf : f = 0
              · have tf : (f == 0) = true := by simp [hf]
                clear hf
                go_wp2_with (first | (go_at_call 17; (with_reducible refine H17.out.mono ?_); rintro e w1 ⟨rfl, rfl⟩) | (go_at_call 18; (with_reducible refine H18.out.mono ?_); rintro e w1 ⟨rfl, rfl⟩) | (go_at_call 19; refine (esc19_no p (cs.set 15 v1) v1 (zs ++ outK true (nums s) 0) c _ _ _ HP1.out HC.out.1 HC.out.2 (by have := outK_len true (nums s) 0; have := HL.out; simp; omega)).mono ?_; rintro e w2 ⟨rfl, hpr⟩; have HPR := Lib.hid hpr; clear hpr))
                go_roundw
                case rel => exact ⟨0 + 1, by omega, by have h9 := Mid.print HIT1.out HP1.out.buf HS1.out hpB HPR.out; simpa [HK.out] using h9⟩
                case measure =>
                  have h1 := HIT.out
                  have h2 := (Mid.print HIT1.out HP1.out.buf HS1.out hpB HPR.out).it
                  simp only [World.iterPos, h2, h1]
                  omega
              · have tf : (f == 0) = false := by simp [hf]
                clear hf
                go_wp2_with (first | (go_at_call 17; (with_reducible refine H17.out.mono ?_); rintro e w1 ⟨rfl, rfl⟩) | (go_at_call 18; (with_reducible refine H18.out.mono ?_); rintro e w1 ⟨rfl, rfl⟩) | (go_at_call 19; refine (esc19_no p (cs.set 15 v1) v1 (zs ++ outK true (nums s) 0) c _ _ _ HP1.out HC.out.1 HC.out.2 (by have := outK_len true (nums s) 0; have := HL.out; simp; omega)).mono ?_; rintro e w2 ⟨rfl, hpr⟩; have HPR := Lib.hid hpr; clear hpr))
                go_roundw
                case rel => exact ⟨0 + 1, by omega, by have h9 := Mid.print HIT1.out HP1.out.buf HS1.out hpB HPR.out; simpa [HK.out] using h9⟩
                case measure =>
                  have h1 := HIT.out
                  have h2 := (Mid.print HIT1.out HP1.out.buf HS1.out hpB HPR.out).it
                  simp only [World.iterPos, h2, h1]
                  omega
            · have t0 : ((k : Int) == 0) = false := by simp; omega
              have HK := Lib.hid (outK_plain (st := true) (zs := nums s) (k := k) (by unfold escB; rw [HN.out]; simp [HV.out]; try omega))
              rw [HN.out] at HK
              by_cases hf : f = 0
              · have tf : (f == 0) = true := by simp [hf]
                clear hf
                go_wp2_with (first | (go_at_call 17; (with_reducible refine H17.out.mono ?_); rintro e w1 ⟨rfl, rfl⟩) | (go_at_call 18; (with_reducible refine H18.out.mono ?_); rintro e w1 ⟨rfl, rfl⟩) | (go_at_call 19; refine (esc19_no p (cs.set 15 v1) v1 (zs ++ outK true (nums s) k) c _ _ _ HP1.out HC.out.1 HC.out.2 (by have := outK_len true (nums s) k; have := HL.out; simp; omega)).mono ?_; rintro e w2 ⟨rfl, hpr⟩; have HPR := Lib.hid hpr; clear hpr))
                go_roundw
                case rel => exact ⟨k + 1, by omega, by have h9 := Mid.print HIT1.out HP1.out.buf HS1.out hpB HPR.out; simpa [HK.out] using h9⟩
                case measure =>
                  have h1 := HIT.out
                  have h2 := (Mid.print HIT1.out HP1.out.buf HS1.out hpB HPR.out).it
                  simp only [World.iterPos, h2, h1]
                  omega
              · have tf : (f == 0) = false := by simp [hf]
                clear hf
                go_wp2_with (first | (go_at_call 17; (with_reducible refine H17.out.mono ?_); rintro e w1 ⟨rfl, rfl⟩) | (go_at_call 18; (with_reducible refine H18.out.mono ?_); rintro e w1 ⟨rfl, rfl⟩) | (go_at_call 19; refine (esc19_no p (cs.set 15 v1) v1 (zs ++ outK true (nums s) k) c _ _ _ HP1.out HC.out.1 HC.out.2 (by have := outK_len true (nums s) k; have := HL.out; simp; omega)).mono ?_; rintro e w2 ⟨rfl, hpr⟩; have HPR := Lib.hid hpr; clear hpr))
                go_roundw
                case rel => exact ⟨k + 1, by omega, by have h9 := Mid.print HIT1.out HP1.out.buf HS1.out hpB HPR.out; simpa [HK.out] using h9⟩
                case measure =>
                  have h1 := HIT.out
                  have h2 := (Mid.print HIT1.out HP1.out.buf HS1.out hpB HPR.out).it
                  simp only [World.iterPos, h2, h1]
                  omega
      · have hnx : ∀ ty, (Instr.next (.pointer (some ⟨w.heap.size, 0, none⟩)) true ty).run Tryf.prog wr = .ok (.tuple #[.bool false]) wr := fun ty => next_end hit hlt ty
        obtain rfl : k = s.size := by omega
        clear hit
        go_wp2_with fail
        go_end0
        obtain ⟨v', h1, h2⟩ := HMD.out.pr
        exact ⟨rfl, v', h1, h2⟩
end Go.Proofs.YtmhiekokjogkhaaFmt.IdF
