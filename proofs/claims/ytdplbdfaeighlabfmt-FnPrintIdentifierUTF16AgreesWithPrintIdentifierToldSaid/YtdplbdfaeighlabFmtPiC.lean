/- FnPrintIdentifierUTF16AgreesWithPrintIdentifier: the law's own UTF-8. -/
import Derived.Test.YtdplbdfaeighlabFmtRows
import Derived.Test.YtdplbdfaeighlabFmtMem
import Derived.Test.YtdplbdfaeighlabFmtSl
import Derived.Test.YtdplbdfaeighlabFmtPiB
import Derived.Laws.BitsLemmas
import Derived.Great.BuildSlice
import Derived.Deep.RegionLaw
import Derived.WalkKit
import Derived.ProofKit
import Derived.OpenShut
import Derived.Below
import Derived.WalkLawsBesides
import Derived.Lib.Hide
import Derived.Outline
import Derived.RegionTactic
import Derived.Deep.QuietTactic
import Derived.BigQuiet
import Derived.WalkSpells
import Derived.Deep.OwnRows
import Derived.IntWalk
import Derived.Deep.DeepMust
namespace Go.Proofs.YtdplbdfaeighlabFmt.PiC
open Go.RowKit Mem Sl
set_option linter.unusedVariables false
open Prn Pru Own Owg Args PiA PiB

theorem i_and63 (x : Int) (h0 : 0 ≤ x) (h1 : x < 2147483648) : bits .and .i32 x 63 = x % 64 := bits_mask .i32 31 (by decide) wraps_i32 6 (by decide) x h0 h1
theorem i_and15 (x : Int) (h0 : 0 ≤ x) (h1 : x < 2147483648) : bits .and .i32 x 15 = x % 16 := bits_mask .i32 31 (by decide) wraps_i32 4 (by decide) x h0 h1
theorem i_or128 (y : Int) (h0 : 0 ≤ y) (h1 : y < 64) : bits .or .i32 128 y = 128 + y := bits_join .i32 31 (by decide) wraps_i32 6 128 y (by decide) (by decide) (by decide) h0 h1 (by omega)
theorem i_or192 (y : Int) (h0 : 0 ≤ y) (h1 : y < 32) : bits .or .i32 192 y = 192 + y := bits_join .i32 31 (by decide) wraps_i32 5 192 y (by decide) (by decide) (by decide) h0 h1 (by omega)
theorem i_or224 (y : Int) (h0 : 0 ≤ y) (h1 : y < 16) : bits .or .i32 224 y = 224 + y := bits_join .i32 31 (by decide) wraps_i32 4 224 y (by decide) (by decide) (by decide) h0 h1 (by omega)
theorem i_or240 (y : Int) (h0 : 0 ≤ y) (h1 : y < 8) : bits .or .i32 240 y = 240 + y := bits_join .i32 31 (by decide) wraps_i32 3 240 y (by decide) (by decide) (by decide) h0 h1 (by omega)
/-- What the law's appendUTF8 leaves. -/
def App (B : Nat) (Z : List Int) (c : Int) (w : World) (e : Ending) (w' : World) : Prop := ∃ v', e = .returned v' ∧ Own w' B 5 .u8 v' (Z ++ enc8 c) ∧ Below B w w'

set_option maxHeartbeats 2000000 in
theorem app16_1 (B : Nat) (A : Option Addr) (m cp : Nat) (Z : List Int) (c : Int) (w : World) (ho : Own w B 5 .u8 (.slice A m cp) Z) (hB : B ≤ w.heap.size) (hl : Z.length ≤ 8000000) (h0 : 0 ≤ c) (h1 : c < 128) :
    Calls Tryf.prog 16 #[.slice A m cp, .int .i32 c] w (App B Z c w) := by
  have HE := Lib.hid (show enc8 c = [c] by unfold enc8; rw [if_pos (by omega)])
  have HO := Lib.hid (ho.alloc (.cells #[.int .u8 (c)] 5))
  have HR := Lib.hid (Row.newArr w 5 #[.int .u8 (c)])
  have HBB := Lib.hid ((Below.refl B w).alloc hB (.cells #[.int .u8 (c)] 5))
  have t1 : decide (c < 128) = true := by simp; omega
  have cm : c % 256 = c := by omega
  clear ho
  go_enter Tryf.func16, Tryf.ntmps16
  go_wp2_with (at_builtin; refine wpList_append_ints _ rfl (.tmp 7) (.tmp 10) 27 rfl B 5 .u8 1 Tryf.underlying27 info5 (by decide) (.slice A m cp) Z rfl HO.out w.heap.size 0 1 1 [c] rfl rfl (fun j hj => by rw [Nat.zero_add]; rcases (show j = 0 by omega) with rfl <;> exact HR.out.at_ rfl) (by omega) (by simp; omega) ?_; intro v' w1 hown1 hbel1; have HO1 := Lib.hid hown1; have HB1 := Lib.hid (HBB.out.trans hbel1); clear hown1 hbel1)
  go_ret
  exact ⟨_, rfl, by rw [HE.out]; exact HO1.out, HB1.out⟩

set_option maxHeartbeats 2000000 in
theorem app16_2 (B : Nat) (A : Option Addr) (m cp : Nat) (Z : List Int) (c : Int) (w : World) (ho : Own w B 5 .u8 (.slice A m cp) Z) (hB : B ≤ w.heap.size) (hl : Z.length ≤ 8000000) (h0 : 128 ≤ c) (h1 : c < 2048) :
    Calls Tryf.prog 16 #[.slice A m cp, .int .i32 c] w (App B Z c w) := by
  have HE := Lib.hid (show enc8 c = [192 + c / 64, 128 + c % 64] by unfold enc8; rw [if_neg (by omega)]; rw [if_pos (by omega)])
  have HO := Lib.hid (ho.alloc (.cells #[.int .u8 (192 + c / 64), .int .u8 (128 + c % 64)] 5))
  have HR := Lib.hid (Row.newArr w 5 #[.int .u8 (192 + c / 64), .int .u8 (128 + c % 64)])
  have HBB := Lib.hid ((Below.refl B w).alloc hB (.cells #[.int .u8 (192 + c / 64), .int .u8 (128 + c % 64)] 5))
  have t1 : decide (c < 128) = false := by simp; omega
  have t2 : decide (c < 2048) = true := by simp; omega
  have q0 : bits .and .i32 c 63 = c % 64 := i_and63 _ (by omega) (by omega)
  have o1 : bits .or .i32 192 (c / 64) = 192 + c / 64 := i_or192 _ (by omega) (by omega)
  have o1m : (192 + c / 64) % 256 = 192 + c / 64 := by omega
  have o2 : bits .or .i32 128 (c % 64) = 128 + c % 64 := i_or128 _ (by omega) (by omega)
  have o2m : (128 + c % 64) % 256 = 128 + c % 64 := by omega
  clear ho
  go_enter Tryf.func16, Tryf.ntmps16
  go_wp2_with (at_builtin; refine wpList_append_ints _ rfl (.tmp 14) (.tmp 23) 27 rfl B 5 .u8 1 Tryf.underlying27 info5 (by decide) (.slice A m cp) Z rfl HO.out w.heap.size 0 2 2 [192 + c / 64, 128 + c % 64] rfl rfl (fun j hj => by rw [Nat.zero_add]; rcases (show j = 0 ∨ j = 1 by omega) with rfl | rfl <;> exact HR.out.at_ rfl) (by omega) (by simp; omega) ?_; intro v' w1 hown1 hbel1; have HO1 := Lib.hid hown1; have HB1 := Lib.hid (HBB.out.trans hbel1); clear hown1 hbel1)
  go_ret
  exact ⟨_, rfl, by rw [HE.out]; exact HO1.out, HB1.out⟩

set_option maxHeartbeats 2000000 in
theorem app16_3 (B : Nat) (A : Option Addr) (m cp : Nat) (Z : List Int) (c : Int) (w : World) (ho : Own w B 5 .u8 (.slice A m cp) Z) (hB : B ≤ w.heap.size) (hl : Z.length ≤ 8000000) (h0 : 2048 ≤ c) (h1 : c < 65536) :
    Calls Tryf.prog 16 #[.slice A m cp, .int .i32 c] w (App B Z c w) := by
  have HE := Lib.hid (show enc8 c = [224 + c / 4096, 128 + c / 64 % 64, 128 + c % 64] by unfold enc8; rw [if_neg (by omega)]; rw [if_neg (by omega)]; rw [if_pos (by omega)])
  have HO := Lib.hid (ho.alloc (.cells #[.int .u8 (224 + c / 4096), .int .u8 (128 + c / 64 % 64), .int .u8 (128 + c % 64)] 5))
  have HR := Lib.hid (Row.newArr w 5 #[.int .u8 (224 + c / 4096), .int .u8 (128 + c / 64 % 64), .int .u8 (128 + c % 64)])
  have HBB := Lib.hid ((Below.refl B w).alloc hB (.cells #[.int .u8 (224 + c / 4096), .int .u8 (128 + c / 64 % 64), .int .u8 (128 + c % 64)] 5))
  have t1 : decide (c < 128) = false := by simp; omega
  have t2 : decide (c < 2048) = false := by simp; omega
  have t3 : decide (c < 65536) = true := by simp; omega
  have q0 : bits .and .i32 c 63 = c % 64 := i_and63 _ (by omega) (by omega)
  have q6 : bits .and .i32 (c / 64) 63 = c / 64 % 64 := i_and63 _ (by omega) (by omega)
  have o1 : bits .or .i32 224 (c / 4096) = 224 + c / 4096 := i_or224 _ (by omega) (by omega)
  have o1m : (224 + c / 4096) % 256 = 224 + c / 4096 := by omega
  have o2 : bits .or .i32 128 (c / 64 % 64) = 128 + c / 64 % 64 := i_or128 _ (by omega) (by omega)
  have o2m : (128 + c / 64 % 64) % 256 = 128 + c / 64 % 64 := by omega
  have o3 : bits .or .i32 128 (c % 64) = 128 + c % 64 := i_or128 _ (by omega) (by omega)
  have o3m : (128 + c % 64) % 256 = 128 + c % 64 := by omega
  clear ho
  go_enter Tryf.func16, Tryf.ntmps16
  go_wp2_with (at_builtin; refine wpList_append_ints _ rfl (.tmp 27) (.tmp 41) 27 rfl B 5 .u8 1 Tryf.underlying27 info5 (by decide) (.slice A m cp) Z rfl HO.out w.heap.size 0 3 3 [224 + c / 4096, 128 + c / 64 % 64, 128 + c % 64] rfl rfl (fun j hj => by rw [Nat.zero_add]; rcases (show j = 0 ∨ j = 1 ∨ j = 2 by omega) with rfl | rfl | rfl <;> exact HR.out.at_ rfl) (by omega) (by simp; omega) ?_; intro v' w1 hown1 hbel1; have HO1 := Lib.hid hown1; have HB1 := Lib.hid (HBB.out.trans hbel1); clear hown1 hbel1)
  go_ret
  exact ⟨_, rfl, by rw [HE.out]; exact HO1.out, HB1.out⟩

set_option maxHeartbeats 2000000 in
theorem app16_4 (B : Nat) (A : Option Addr) (m cp : Nat) (Z : List Int) (c : Int) (w : World) (ho : Own w B 5 .u8 (.slice A m cp) Z) (hB : B ≤ w.heap.size) (hl : Z.length ≤ 8000000) (h0 : 65536 ≤ c) (h1 : c ≤ 1114111) :
    Calls Tryf.prog 16 #[.slice A m cp, .int .i32 c] w (App B Z c w) := by
  have HE := Lib.hid (show enc8 c = [240 + c / 262144, 128 + c / 4096 % 64, 128 + c / 64 % 64, 128 + c % 64] by unfold enc8; rw [if_neg (by omega)]; rw [if_neg (by omega)]; rw [if_neg (by omega)])
  have HO := Lib.hid (ho.alloc (.cells #[.int .u8 (240 + c / 262144), .int .u8 (128 + c / 4096 % 64), .int .u8 (128 + c / 64 % 64), .int .u8 (128 + c % 64)] 5))
  have HR := Lib.hid (Row.newArr w 5 #[.int .u8 (240 + c / 262144), .int .u8 (128 + c / 4096 % 64), .int .u8 (128 + c / 64 % 64), .int .u8 (128 + c % 64)])
  have HBB := Lib.hid ((Below.refl B w).alloc hB (.cells #[.int .u8 (240 + c / 262144), .int .u8 (128 + c / 4096 % 64), .int .u8 (128 + c / 64 % 64), .int .u8 (128 + c % 64)] 5))
  have t1 : decide (c < 128) = false := by simp; omega
  have t2 : decide (c < 2048) = false := by simp; omega
  have t3 : decide (c < 65536) = false := by simp; omega
  have q0 : bits .and .i32 c 63 = c % 64 := i_and63 _ (by omega) (by omega)
  have q6 : bits .and .i32 (c / 64) 63 = c / 64 % 64 := i_and63 _ (by omega) (by omega)
  have q12 : bits .and .i32 (c / 4096) 63 = c / 4096 % 64 := i_and63 _ (by omega) (by omega)
  have o1 : bits .or .i32 240 (c / 262144) = 240 + c / 262144 := i_or240 _ (by omega) (by omega)
  have o1m : (240 + c / 262144) % 256 = 240 + c / 262144 := by omega
  have o2 : bits .or .i32 128 (c / 4096 % 64) = 128 + c / 4096 % 64 := i_or128 _ (by omega) (by omega)
  have o2m : (128 + c / 4096 % 64) % 256 = 128 + c / 4096 % 64 := by omega
  have o3 : bits .or .i32 128 (c / 64 % 64) = 128 + c / 64 % 64 := i_or128 _ (by omega) (by omega)
  have o3m : (128 + c / 64 % 64) % 256 = 128 + c / 64 % 64 := by omega
  have o4 : bits .or .i32 128 (c % 64) = 128 + c % 64 := i_or128 _ (by omega) (by omega)
  have o4m : (128 + c % 64) % 256 = 128 + c % 64 := by omega
  clear ho
  go_enter Tryf.func16, Tryf.ntmps16
  go_wp2_with (at_builtin; refine wpList_append_ints _ rfl (.tmp 43) (.tmp 62) 27 rfl B 5 .u8 1 Tryf.underlying27 info5 (by decide) (.slice A m cp) Z rfl HO.out w.heap.size 0 4 4 [240 + c / 262144, 128 + c / 4096 % 64, 128 + c / 64 % 64, 128 + c % 64] rfl rfl (fun j hj => by rw [Nat.zero_add]; rcases (show j = 0 ∨ j = 1 ∨ j = 2 ∨ j = 3 by omega) with rfl | rfl | rfl | rfl <;> exact HR.out.at_ rfl) (by omega) (by simp; omega) ?_; intro v' w1 hown1 hbel1; have HO1 := Lib.hid hown1; have HB1 := Lib.hid (HBB.out.trans hbel1); clear hown1 hbel1)
  go_ret
  exact ⟨_, rfl, by rw [HE.out]; exact HO1.out, HB1.out⟩

theorem app16 (B : Nat) (v : Value) (Z : List Int) (c : Int) (w : World) (ho : Own w B 5 .u8 v Z) (hB : B ≤ w.heap.size) (hl : Z.length ≤ 8000000) (hc : Scalar c) :
    Calls Tryf.prog 16 #[v, .int .i32 c] w (App B Z c w) := by
  obtain ⟨A, cp, rfl⟩ := ho.form
  obtain ⟨h0, h1, _⟩ := hc
  by_cases c1 : c < 128
  · exact app16_1 B A _ cp Z c w ho hB hl h0 c1
  by_cases c2 : c < 2048
  · exact app16_2 B A _ cp Z c w ho hB hl (by omega) c2
  by_cases c3 : c < 65536
  · exact app16_3 B A _ cp Z c w ho hB hl (by omega) c3
  · exact app16_4 B A _ cp Z c w ho hB hl (by omega) (by omega)

/-- At the head of a round: the code points P of the first k units are written. -/
def R8 (w : World) (U : List Int) (n : Nat) (v i : Value) (wr : World) : Prop := ∃ (k : Nat) (P : List Int) (wv : World), wv = wr ∧ k ≤ n ∧ P.length ≤ k ∧ i = .int .i64 (k : Int) ∧ Seen U k P ∧ Own wr w.heap.size 5 .u8 v (bytes8 P) ∧ Below w.heap.size w wr
/-- What zzUTF16ToUTF8 gives. -/
def Utf (U : List Int) (w : World) (e : Ending) (w' : World) : Prop := ∃ v, e = .returned v ∧ Own w' w.heap.size 5 .u8 v (bytes8 (cps U)) ∧ Below w.heap.size w w'
theorem seen_next {U P : List Int} {k : Nat} {x : Int} {t : List Int} (h : Seen U k P) (hw : Wf U) (e : cps (U.drop k) = x :: t) : Scalar x := by
  apply hw
  rw [h.1, e]
  simp
set_option maxRecDepth 100000 in
set_option maxHeartbeats 8000000 in
theorem utf8 (A : Option Addr) (n c : Nat) (U : List Int) (w : World) (h : IsInts .u16 w A n c U) (hn : n ≤ 1048576) (hw : Wf U) : Calls Tryf.prog 8 #[.slice A n c] w (Utf U w) := by
  have hU := Lib.hid (u16_of h)
  have HLN := Lib.hid h.2.2.1
  have HI := Lib.hid h
  have HW := Lib.hid hw
  clear h hw
  go_enter Tryf.func8, Tryf.ntmps8
  go_wp2_with fail
  go_loopw [3, 4] (fun v i wr => R8 w U n v i wr) (fun _ i _ => n - (intOf i).toNat)
  case atStart => exact ⟨0, [], _, rfl, Nat.zero_le _, Nat.zero_le _, rfl, seen0 U, own_nil _ _ _ _, Below.refl _ _⟩
  case round =>
    obtain ⟨k, P, wx, rfl, hk, hpk, rfl, hP, hown, hbel⟩ := hrel
    have HP := Lib.hid hP
    have HOW := Lib.hid hown
    have HBQ := Lib.hid hbel
    have hlen : (bytes8 P).length ≤ 8000000 := by have := bytes8_len P; omega
    have hsz := hbel.size
    clear hP hown hbel
    by_cases hlt : k < n
    · obtain ⟨b, o, ha, hb, hc⟩ := (HI.out.later HBQ.out).read k hlt
      subst ha
      have hkl : k < U.length := by have := HLN.out; omega
      obtain ⟨z0, z1⟩ := hU.out.at_ k hkl
      obtain ⟨x, hx⟩ : ∃ x, x = U.getD k 0 := ⟨_, rfl⟩
      rw [← hx] at hc z0 z1
      have HX := Lib.hid hx
      have HKL := Lib.hid hkl
      clear hx hkl hb
      by_cases hpair : k + 1 < n ∧ hi x = true ∧ lo (U.getD (k + 1) 0) = true
      · obtain ⟨h2, h1, h3⟩ := hpair
        obtain ⟨b', o', ha', hb', hc'⟩ := (HI.out.later HBQ.out).read (k + 1) h2
        injection ha' with ha'
        injection ha' with e1 e2
        subst e1 e2
        obtain ⟨y0, y1⟩ := hU.out.at_ (k + 1) (by have := HLN.out; omega)
        obtain ⟨y, hy⟩ : ∃ y, y = U.getD (k + 1) 0 := ⟨_, rfl⟩
        rw [← hy] at hc' y0 y1 h3
        have HY := Lib.hid hy
        clear hy hb'
        have tl : decide ((k : Int) + 1 < (n : Int)) = true := by simp; omega
        have hS := HP.out.pair (by have := HLN.out; omega) (by rw [← HX.out]; exact h1) (by rw [← HY.out]; exact h3)
        rw [← HX.out, ← HY.out] at hS
        have HS := Lib.hid hS
        have hj := (join_scalar h1 h3).1
        have g1 := hi_true.1 h1
        have g2 := lo_true.1 h3
        obtain ⟨J, hJ⟩ : ∃ J, J = join2 x y := ⟨_, rfl⟩
        rw [← hJ] at hj
        have HJ := Lib.hid hJ
        have eJ : 65536 + (x - 55296) * 1024 + (y - 56320) = J := hJ.symm
        have K16 := Lib.hid (fun q => app16 w.heap.size _ _ J (wx.drewN q) (HOW.out.drewN q) hsz hlen hj)
        clear hS hj hJ
        obtain ⟨g1a, g1b⟩ := g1
        obtain ⟨g2a, g2b⟩ := g2
        obtain ⟨A0, c0, rfl⟩ := HOW.out.form
        go_wp2_with (first | (go_at_call 14; (with_reducible refine (hi14 _ _ ‹_› ‹_›).mono ?_); rintro e w9 ⟨rfl, rfl⟩) | (go_at_call 15; (with_reducible refine (lo15 _ _ ‹_› ‹_›).mono ?_); rintro e w9 ⟨rfl, rfl⟩) | (go_at_call 16; (with_reducible refine K16.out.mono ?_); rintro e w8 ⟨v8, rfl, ho8, hb8⟩; have HO8 := Lib.hid ho8; have HB8 := Lib.hid hb8; clear ho8 hb8))
        have v1 : IntKind.i32.wrap x = x := IntWalk.i32_in _ (by omega)
        have v2 : IntKind.i32.wrap (x - 55296) = x - 55296 := IntWalk.i32_in _ (by omega)
        have v3 : IntKind.i32.wrap ((x - 55296) * 1024) = (x - 55296) * 1024 := IntWalk.i32_in _ (by omega)
        have v4 : IntKind.i32.wrap (65536 + (x - 55296) * 1024) = 65536 + (x - 55296) * 1024 := IntWalk.i32_in _ (by omega)
        have v5 : IntKind.i32.wrap y = y := IntWalk.i32_in _ (by omega)
        have v6 : IntKind.i32.wrap (y - 56320) = y - 56320 := IntWalk.i32_in _ (by omega)
        have v7 : IntKind.i32.wrap (65536 + (x - 55296) * 1024 + (y - 56320)) = J := by rw [IntWalk.i32_in _ (by omega)]; exact eJ
        have v8 : IntKind.i64.wrap ((k : Int) + 1) = (k : Int) + 1 := IntWalk.i64_in _ (by omega)
        have v9 : (0 : Int) ≤ (k : Int) + 1 := by omega
        have va : ((k : Int) + 1).toNat = k + 1 := by omega
        clear eJ
        go_quiet (fail)
        clear v1 v2 v3 v4 v5 v6 v7 v8 va
        go_wp2_with (first | (go_at_call 14; (with_reducible refine (hi14 _ _ ‹_› ‹_›).mono ?_); rintro e w9 ⟨rfl, rfl⟩) | (go_at_call 15; (with_reducible refine (lo15 _ _ ‹_› ‹_›).mono ?_); rintro e w9 ⟨rfl, rfl⟩) | (go_at_call 16; (with_reducible refine (K16.out _).mono ?_); rintro e w8 ⟨v8, rfl, ho8, hb8⟩; have HO8 := Lib.hid ho8; have HB8 := Lib.hid hb8; clear ho8 hb8))
        go_roundw
        case rel => exact ⟨k + 2, _, _, rfl, by omega, by simp; omega, by go_num, HS.out, by rw [bytes8_snoc, ← HJ.out]; exact HO8.out, HBQ.out.trans ⟨HB8.out.os, HB8.out.tape, HB8.out.output, HB8.out.size, HB8.out.block⟩⟩
        case measure => simp [intOf]; omega
      · have e1 := cps_one (U := U) (i := k) (by have := HLN.out; omega) (by rw [HLN.out, ← HX.out]; exact hpair)
        rw [← HX.out] at e1
        have hsx := seen_next HP.out HW.out e1
        have hS : Seen U (k + 1) (P ++ [x]) := ⟨by rw [HP.out.1, e1]; simp, fun z hz => by
          rcases List.mem_append.1 hz with hz | hz
          · exact HP.out.2 z hz
          · obtain rfl : z = x := by simpa using hz
            exact hsx⟩
        have HS := Lib.hid hS
        have K16 := Lib.hid (app16 w.heap.size _ _ x wx HOW.out hsz hlen hsx)
        have f1 : hi x = false := hi_false.2 (by obtain ⟨_, _, h⟩ := hsx; omega)
        have f2 : lo x = false := lo_false.2 (by obtain ⟨_, _, h⟩ := hsx; omega)
        have v1 : IntKind.i32.wrap x = x := IntWalk.i32_in _ (by omega)
        clear e1 hsx hS hpair
        obtain ⟨A0, c0, rfl⟩ := HOW.out.form
        go_wp2_with (first | (go_at_call 14; (with_reducible refine (hi14 _ _ ‹_› ‹_›).mono ?_); rintro e w9 ⟨rfl, rfl⟩) | (go_at_call 15; (with_reducible refine (lo15 _ _ ‹_› ‹_›).mono ?_); rintro e w9 ⟨rfl, rfl⟩) | (go_at_call 16; (with_reducible refine K16.out.mono ?_); rintro e w8 ⟨v8, rfl, ho8, hb8⟩; have HO8 := Lib.hid ho8; have HB8 := Lib.hid hb8; clear ho8 hb8))
        go_roundw
        case rel => exact ⟨k + 1, _, _, rfl, by omega, by simp; omega, by go_num, HS.out, by rw [bytes8_snoc]; exact HO8.out, HBQ.out.trans HB8.out⟩
        case measure => simp [intOf]; omega
    · obtain rfl : k = n := by omega
      have hp := HP.out
      rw [← HLN.out] at hp
      have hC : cps U = P := by rw [hp.1, cps_end, List.append_nil]
      have HC := Lib.hid hC
      clear hp hC
      go_wp2_with fail
      go_ret
      exact ⟨_, rfl, by rw [HC.out]; exact HOW.out, HBQ.out⟩
end Go.Proofs.YtdplbdfaeighlabFmt.PiC
