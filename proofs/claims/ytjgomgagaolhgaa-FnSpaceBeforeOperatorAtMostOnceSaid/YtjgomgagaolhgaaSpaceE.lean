/- printSpaceBeforeOperator. -/
import Derived.Test.YtjgomgagaolhgaaRows
import Derived.Test.YtjgomgagaolhgaaMem
import Derived.Test.YtjgomgagaolhgaaSl
import Derived.Test.YtjgomgagaolhgaaSpace
import Derived.Test.YtjgomgagaolhgaaPrint
import Derived.WalkKit
import Derived.ProofKit
import Derived.OpenShut
import Derived.Below
import Derived.WalkLawsBesides
import Derived.Lib.Hide
import Derived.Outline
import Derived.RegionTactic
import Derived.Deep.QuietTactic
import Derived.BigQuiet
import Derived.WalkSpells
import Derived.Deep.OwnRows
import Derived.IntWalk
import Derived.Deep.DeepMust
namespace Go.Proofs.Ytjgomgagaolhgaa.Space
open Go.RowKit Mem Sl
set_option linter.unusedVariables false
open Prn

set_option maxRecDepth 100000 in
set_option maxHeartbeats 1000000 in
theorem p9_19 (p : Nat) (cs : List Value) (v : Value) (zs : List Int) (prev nx : Int) (w : World) (h : Pr w p 100 9 5 cs v zs) (hf : Fl cs zs.length prev) (hn : zs.length ≤ 1048577) (hp : prev = 9) (hx : nx = 19) :
    Calls Try.prog 42 #[.pointer (some ⟨p, 0, none⟩), .int .u8 nx] w (Out w p cs v zs true) := by
  obtain ⟨A, c, hv⟩ := h.buf.form
  obtain ⟨n, hlen⟩ : ∃ n, zs.length = n := ⟨_, rfl⟩
  have HLEN := Lib.hid hlen
  rw [hlen] at hv hf hn
  subst hv
  have c1 := h.row.at_ h.at_
  have c2 := h.row.at_ hf.c65
  have c3 := h.row.at_ hf.c137
  have H := Lib.hid h
  have e1 : ((n : Int) == (n : Int)) = true := by simp
  have HC := Lib.hid (fun q => Print.pr48 p cs (.slice A n c) zs ⟨#[32]⟩ (w.drewN q) ⟨H.out.row.drewN q, H.out.at_, H.out.buf.drewN q⟩ (by rw [HLEN.out]; simp [ByteArray.size]; omega))
  subst hp hx
  clear h hf hlen
  go_enter Try.func42, Try.ntmps42
  go_wp2_with fail
  go_quiet (fail)
  go_wp2_with fail
  simp only [List.append]
  go_quiet (fail)
  go_wp2_with fail
  refine (HC.out _).mono ?_
  rintro e w1 ⟨rfl, v', hp, hs⟩
  rw [nums1] at hp
  have HP := Lib.hid hp
  have HS := Lib.hid hs
  clear hp hs
  go_wp2_with fail
  go_end0
  exact ⟨rfl, .inl ⟨rfl, v', HP.out, (Step.of_below (below_drewN (Below.refl _ _) _) (Nat.le_refl _)).trans HS.out⟩⟩

set_option maxRecDepth 100000 in
set_option maxHeartbeats 1000000 in
theorem p9_no (p : Nat) (cs : List Value) (v : Value) (zs : List Int) (prev nx : Int) (w : World) (h : Pr w p 100 9 5 cs v zs) (hf : Fl cs zs.length prev) (hn : zs.length ≤ 1048577) (hp : prev = 9) (hx : nx ≠ 19) :
    Calls Try.prog 42 #[.pointer (some ⟨p, 0, none⟩), .int .u8 nx] w (Out w p cs v zs false) := by
  obtain ⟨A, c, hv⟩ := h.buf.form
  obtain ⟨n, hlen⟩ : ∃ n, zs.length = n := ⟨_, rfl⟩
  have HLEN := Lib.hid hlen
  rw [hlen] at hv hf hn
  subst hv
  have c1 := h.row.at_ h.at_
  have c2 := h.row.at_ hf.c65
  have c3 := h.row.at_ hf.c137
  have H := Lib.hid h
  have e1 : ((n : Int) == (n : Int)) = true := by simp
  have HC := Lib.hid (fun q => Print.pr48 p cs (.slice A n c) zs ⟨#[32]⟩ (w.drewN q) ⟨H.out.row.drewN q, H.out.at_, H.out.buf.drewN q⟩ (by rw [HLEN.out]; simp [ByteArray.size]; omega))
  subst hp
  have qnx19 : (nx == 19) = false := by simp; omega
  clear h hf hlen
  go_enter Try.func42, Try.ntmps42
  go_wp2_with fail
  go_quiet (fail)
  go_wp2_with fail
  simp only [List.append]
  go_quiet (fail)
  go_wp2_with fail
  go_end0
  exact ⟨rfl, .inr ⟨rfl, _, World.drewN_drewN _ _ _⟩⟩

set_option maxRecDepth 100000 in
set_option maxHeartbeats 1000000 in
theorem p3_no (p : Nat) (cs : List Value) (v : Value) (zs : List Int) (prev nx : Int) (w : World) (h : Pr w p 100 9 5 cs v zs) (hf : Fl cs zs.length prev) (hn : zs.length ≤ 1048577) (hp : prev = 3) (hx : nx ≠ 7) :
    Calls Try.prog 42 #[.pointer (some ⟨p, 0, none⟩), .int .u8 nx] w (Out w p cs v zs false) := by
  obtain ⟨A, c, hv⟩ := h.buf.form
  obtain ⟨n, hlen⟩ : ∃ n, zs.length = n := ⟨_, rfl⟩
  have HLEN := Lib.hid hlen
  rw [hlen] at hv hf hn
  subst hv
  have c1 := h.row.at_ h.at_
  have c2 := h.row.at_ hf.c65
  have c3 := h.row.at_ hf.c137
  have H := Lib.hid h
  have e1 : ((n : Int) == (n : Int)) = true := by simp
  have HC := Lib.hid (fun q => Print.pr48 p cs (.slice A n c) zs ⟨#[32]⟩ (w.drewN q) ⟨H.out.row.drewN q, H.out.at_, H.out.buf.drewN q⟩ (by rw [HLEN.out]; simp [ByteArray.size]; omega))
  subst hp
  have qnx7 : (nx == 7) = false := by simp; omega
  clear h hf hlen
  go_enter Try.func42, Try.ntmps42
  go_wp2_with fail
  go_quiet (fail)
  go_wp2_with fail
  simp only [List.append]
  go_quiet (fail)
  go_wp2_with fail
  go_end0
  exact ⟨rfl, .inr ⟨rfl, _, World.drewN_drewN _ _ _⟩⟩

set_option maxRecDepth 100000 in
set_option maxHeartbeats 1000000 in
theorem p3_short (p : Nat) (cs : List Value) (v : Value) (zs : List Int) (prev nx : Int) (w : World) (h : Pr w p 100 9 5 cs v zs) (hf : Fl cs zs.length prev) (hn : zs.length ≤ 1048577) (hp : prev = 3) (hx : nx = 7) (hs : zs.length ≤ 1) :
    Calls Try.prog 42 #[.pointer (some ⟨p, 0, none⟩), .int .u8 nx] w (Out w p cs v zs false) := by
  obtain ⟨A, c, hv⟩ := h.buf.form
  obtain ⟨n, hlen⟩ : ∃ n, zs.length = n := ⟨_, rfl⟩
  have HLEN := Lib.hid hlen
  rw [hlen] at hv hf hn
  subst hv
  have c1 := h.row.at_ h.at_
  have c2 := h.row.at_ hf.c65
  have c3 := h.row.at_ hf.c137
  have H := Lib.hid h
  have e1 : ((n : Int) == (n : Int)) = true := by simp
  have HC := Lib.hid (fun q => Print.pr48 p cs (.slice A n c) zs ⟨#[32]⟩ (w.drewN q) ⟨H.out.row.drewN q, H.out.at_, H.out.buf.drewN q⟩ (by rw [HLEN.out]; simp [ByteArray.size]; omega))
  subst hp hx
  have hs' : decide (1 < (n : Int)) = false := by rw [hlen] at hs; simp; omega
  rw [hlen] at hs
  clear h hf hlen
  go_enter Try.func42, Try.ntmps42
  go_wp2_with fail
  go_quiet (fail)
  go_wp2_with fail
  simp only [List.append]
  go_quiet (fail)
  go_wp2_with fail
  go_end0
  exact ⟨rfl, .inr ⟨rfl, _, World.drewN_drewN _ _ _⟩⟩

set_option maxRecDepth 100000 in
set_option maxHeartbeats 1000000 in
theorem p3_yes (p : Nat) (cs : List Value) (v : Value) (zs : List Int) (prev nx : Int) (w : World) (h : Pr w p 100 9 5 cs v zs) (hf : Fl cs zs.length prev) (hn : zs.length ≤ 1048577) (hp : prev = 3) (hx : nx = 7) (hs : 1 < zs.length) (hy : (zs.getD (zs.length - 2) 0 == 60) = true) :
    Calls Try.prog 42 #[.pointer (some ⟨p, 0, none⟩), .int .u8 nx] w (Out w p cs v zs true) := by
  obtain ⟨A, c, hv⟩ := h.buf.form
  have hwf : ∃ b off, A = some ⟨b, off, none⟩ ∧ w.cell? ⟨b, off + (zs.length - 2), none⟩ = some (.int .u8 (zs.getD (zs.length - 2) 0)) := by
    rcases h.buf.2 with ⟨h0, h00⟩ | ⟨g, cap, cur, h0, _, hh, _, _, _, htk⟩
    · omega
    · rw [hv] at h0
      injection h0 with h0
      refine ⟨g, 0, h0, ?_⟩
      rw [Nat.zero_add, cell_of_row w g _ cur 5 (0, 0) hh]
      have h1 : (cur.toList.take (zs.length * 1))[zs.length - 2]? = (iv .u8 zs)[zs.length - 2]? := by rw [htk]
      rw [iv_at .u8 zs _ (by omega), List.getElem?_take, if_pos (by omega)] at h1
      simpa using h1
  obtain ⟨b, off, rfl, hcell⟩ := hwf
  obtain ⟨x, hxx⟩ : ∃ x, x = zs.getD (zs.length - 2) 0 := ⟨_, rfl⟩
  rw [← hxx] at hcell hy
  clear hxx
  obtain ⟨n, hlen⟩ : ∃ n, zs.length = n := ⟨_, rfl⟩
  have HLEN := Lib.hid hlen
  rw [hlen] at hv hf hn
  subst hv
  have c1 := h.row.at_ h.at_
  have c2 := h.row.at_ hf.c65
  have c3 := h.row.at_ hf.c137
  have H := Lib.hid h
  have e1 : ((n : Int) == (n : Int)) = true := by simp
  have HC := Lib.hid (fun q => Print.pr48 p cs (.slice (some ⟨b, off, none⟩) n c) zs ⟨#[32]⟩ (w.drewN q) ⟨H.out.row.drewN q, H.out.at_, H.out.buf.drewN q⟩ (by rw [HLEN.out]; simp [ByteArray.size]; omega))
  subst hp hx
  rw [hlen] at hs hcell
  have hs' : decide (1 < (n : Int)) = true := by simp; omega
  have i1 : IntKind.i64.wrap ((n : Int) - 2) = (n : Int) - 2 := IntWalk.i64_in _ (by omega)
  have i2 : 0 ≤ (n : Int) - 2 := by omega
  have i4 : (n : Int) - 2 < n := by omega
  have i3 : ((n : Int) - 2).toNat = n - 2 := by omega
  clear h hf hlen
  go_enter Try.func42, Try.ntmps42
  go_wp2_with fail
  go_quiet (fail)
  go_wp2_with fail
  simp only [List.append]
  go_quiet (fail)
  go_wp2_with fail
  refine (HC.out _).mono ?_
  rintro e w1 ⟨rfl, v', hp, hs⟩
  rw [nums1] at hp
  have HP := Lib.hid hp
  have HS := Lib.hid hs
  clear hp hs
  go_wp2_with fail
  go_end0
  exact ⟨rfl, .inl ⟨rfl, v', HP.out, (Step.of_below (below_drewN (Below.refl _ _) _) (Nat.le_refl _)).trans HS.out⟩⟩

set_option maxRecDepth 100000 in
set_option maxHeartbeats 1000000 in
theorem p3_n (p : Nat) (cs : List Value) (v : Value) (zs : List Int) (prev nx : Int) (w : World) (h : Pr w p 100 9 5 cs v zs) (hf : Fl cs zs.length prev) (hn : zs.length ≤ 1048577) (hp : prev = 3) (hx : nx = 7) (hs : 1 < zs.length) (hy : (zs.getD (zs.length - 2) 0 == 60) = false) :
    Calls Try.prog 42 #[.pointer (some ⟨p, 0, none⟩), .int .u8 nx] w (Out w p cs v zs false) := by
  obtain ⟨A, c, hv⟩ := h.buf.form
  have hwf : ∃ b off, A = some ⟨b, off, none⟩ ∧ w.cell? ⟨b, off + (zs.length - 2), none⟩ = some (.int .u8 (zs.getD (zs.length - 2) 0)) := by
    rcases h.buf.2 with ⟨h0, h00⟩ | ⟨g, cap, cur, h0, _, hh, _, _, _, htk⟩
    · omega
    · rw [hv] at h0
      injection h0 with h0
      refine ⟨g, 0, h0, ?_⟩
      rw [Nat.zero_add, cell_of_row w g _ cur 5 (0, 0) hh]
      have h1 : (cur.toList.take (zs.length * 1))[zs.length - 2]? = (iv .u8 zs)[zs.length - 2]? := by rw [htk]
      rw [iv_at .u8 zs _ (by omega), List.getElem?_take, if_pos (by omega)] at h1
      simpa using h1
  obtain ⟨b, off, rfl, hcell⟩ := hwf
  obtain ⟨x, hxx⟩ : ∃ x, x = zs.getD (zs.length - 2) 0 := ⟨_, rfl⟩
  rw [← hxx] at hcell hy
  clear hxx
  obtain ⟨n, hlen⟩ : ∃ n, zs.length = n := ⟨_, rfl⟩
  have HLEN := Lib.hid hlen
  rw [hlen] at hv hf hn
  subst hv
  have c1 := h.row.at_ h.at_
  have c2 := h.row.at_ hf.c65
  have c3 := h.row.at_ hf.c137
  have H := Lib.hid h
  have e1 : ((n : Int) == (n : Int)) = true := by simp
  have HC := Lib.hid (fun q => Print.pr48 p cs (.slice (some ⟨b, off, none⟩) n c) zs ⟨#[32]⟩ (w.drewN q) ⟨H.out.row.drewN q, H.out.at_, H.out.buf.drewN q⟩ (by rw [HLEN.out]; simp [ByteArray.size]; omega))
  subst hp hx
  rw [hlen] at hs hcell
  have hs' : decide (1 < (n : Int)) = true := by simp; omega
  have i1 : IntKind.i64.wrap ((n : Int) - 2) = (n : Int) - 2 := IntWalk.i64_in _ (by omega)
  have i2 : 0 ≤ (n : Int) - 2 := by omega
  have i4 : (n : Int) - 2 < n := by omega
  have i3 : ((n : Int) - 2).toNat = n - 2 := by omega
  clear h hf hlen
  go_enter Try.func42, Try.ntmps42
  go_wp2_with fail
  go_quiet (fail)
  go_wp2_with fail
  simp only [List.append]
  go_quiet (fail)
  go_wp2_with fail
  go_end0
  exact ⟨rfl, .inr ⟨rfl, _, World.drewN_drewN _ _ _⟩⟩

set_option maxRecDepth 100000 in
set_option maxHeartbeats 1000000 in
theorem other (p : Nat) (cs : List Value) (v : Value) (zs : List Int) (prev nx : Int) (w : World) (h : Pr w p 100 9 5 cs v zs) (hf : Fl cs zs.length prev) (hn : zs.length ≤ 1048577) (hp : prev ≠ 11 ∧ prev ≠ 0 ∧ prev ≠ 12 ∧ prev ≠ 1 ∧ prev ≠ 9 ∧ prev ≠ 3) :
    Calls Try.prog 42 #[.pointer (some ⟨p, 0, none⟩), .int .u8 nx] w (Out w p cs v zs false) := by
  obtain ⟨A, c, hv⟩ := h.buf.form
  obtain ⟨n, hlen⟩ : ∃ n, zs.length = n := ⟨_, rfl⟩
  have HLEN := Lib.hid hlen
  rw [hlen] at hv hf hn
  subst hv
  have c1 := h.row.at_ h.at_
  have c2 := h.row.at_ hf.c65
  have c3 := h.row.at_ hf.c137
  have H := Lib.hid h
  have e1 : ((n : Int) == (n : Int)) = true := by simp
  have HC := Lib.hid (fun q => Print.pr48 p cs (.slice A n c) zs ⟨#[32]⟩ (w.drewN q) ⟨H.out.row.drewN q, H.out.at_, H.out.buf.drewN q⟩ (by rw [HLEN.out]; simp [ByteArray.size]; omega))
  obtain ⟨y1, y2, y3, y4, y5, y6⟩ := hp
  have qprev11 : (prev == 11) = false := by simp; omega
  have qprev0 : (prev == 0) = false := by simp; omega
  have qprev12 : (prev == 12) = false := by simp; omega
  have qprev1 : (prev == 1) = false := by simp; omega
  have qprev9 : (prev == 9) = false := by simp; omega
  have qprev3 : (prev == 3) = false := by simp; omega
  clear h hf hlen
  go_enter Try.func42, Try.ntmps42
  go_wp2_with fail
  go_quiet (fail)
  go_wp2_with fail
  simp only [List.append]
  go_quiet (fail)
  go_wp2_with fail
  go_end0
  exact ⟨rfl, .inr ⟨rfl, _, World.drewN_drewN _ _ _⟩⟩

end Go.Proofs.Ytjgomgagaolhgaa.Space
