/- printSpaceBeforeOperator. -/
import Derived.Test.YtjgomgagaolhgaaRows
import Derived.Test.YtjgomgagaolhgaaMem
import Derived.Test.YtjgomgagaolhgaaSl
import Derived.Test.YtjgomgagaolhgaaSpace
import Derived.Test.YtjgomgagaolhgaaPrint
import Derived.WalkKit
import Derived.ProofKit
import Derived.OpenShut
import Derived.Below
import Derived.WalkLawsBesides
import Derived.Lib.Hide
import Derived.Outline
import Derived.RegionTactic
import Derived.Deep.QuietTactic
import Derived.BigQuiet
import Derived.WalkSpells
import Derived.Deep.OwnRows
import Derived.IntWalk
import Derived.Deep.DeepMust
namespace Go.Proofs.Ytjgomgagaolhgaa.Space
open Go.RowKit Mem Sl
set_option linter.unusedVariables false
open Prn

set_option maxRecDepth 100000 in
set_option maxHeartbeats 1000000 in
theorem p11_11 (p : Nat) (cs : List Value) (v : Value) (zs : List Int) (prev nx : Int) (w : World) (h : Pr w p 100 9 5 cs v zs) (hf : Fl cs zs.length prev) (hn : zs.length ≤ 1048577) (hp : prev = 11) (hx : nx = 11) :
    Calls Try.prog 42 #[.pointer (some ⟨p, 0, none⟩), .int .u8 nx] w (Out w p cs v zs true) := by
  obtain ⟨A, c, hv⟩ := h.buf.form
  obtain ⟨n, hlen⟩ : ∃ n, zs.length = n := ⟨_, rfl⟩
  have HLEN := Lib.hid hlen
  rw [hlen] at hv hf hn
  subst hv
  have c1 := h.row.at_ h.at_
  have c2 := h.row.at_ hf.c65
  have c3 := h.row.at_ hf.c137
  have H := Lib.hid h
  have e1 : ((n : Int) == (n : Int)) = true := by simp
  have HC := Lib.hid (fun q => Print.pr48 p cs (.slice A n c) zs ⟨#[32]⟩ (w.drewN q) ⟨H.out.row.drewN q, H.out.at_, H.out.buf.drewN q⟩ (by rw [HLEN.out]; simp [ByteArray.size]; omega))
  subst hp hx
  clear h hf hlen
  go_enter Try.func42, Try.ntmps42
  go_wp2_with fail
  go_quiet (fail)
  go_wp2_with fail
  simp only [List.append]
  go_quiet (fail)
  go_wp2_with fail
  refine (HC.out _).mono ?_
  rintro e w1 ⟨rfl, v', hp, hs⟩
  rw [nums1] at hp
  have HP := Lib.hid hp
  have HS := Lib.hid hs
  clear hp hs
  go_wp2_with fail
  go_end0
  exact ⟨rfl, .inl ⟨rfl, v', HP.out, (Step.of_below (below_drewN (Below.refl _ _) _) (Nat.le_refl _)).trans HS.out⟩⟩

set_option maxRecDepth 100000 in
set_option maxHeartbeats 1000000 in
theorem p11_0 (p : Nat) (cs : List Value) (v : Value) (zs : List Int) (prev nx : Int) (w : World) (h : Pr w p 100 9 5 cs v zs) (hf : Fl cs zs.length prev) (hn : zs.length ≤ 1048577) (hp : prev = 11) (hx : nx = 0) :
    Calls Try.prog 42 #[.pointer (some ⟨p, 0, none⟩), .int .u8 nx] w (Out w p cs v zs true) := by
  obtain ⟨A, c, hv⟩ := h.buf.form
  obtain ⟨n, hlen⟩ : ∃ n, zs.length = n := ⟨_, rfl⟩
  have HLEN := Lib.hid hlen
  rw [hlen] at hv hf hn
  subst hv
  have c1 := h.row.at_ h.at_
  have c2 := h.row.at_ hf.c65
  have c3 := h.row.at_ hf.c137
  have H := Lib.hid h
  have e1 : ((n : Int) == (n : Int)) = true := by simp
  have HC := Lib.hid (fun q => Print.pr48 p cs (.slice A n c) zs ⟨#[32]⟩ (w.drewN q) ⟨H.out.row.drewN q, H.out.at_, H.out.buf.drewN q⟩ (by rw [HLEN.out]; simp [ByteArray.size]; omega))
  subst hp hx
  clear h hf hlen
  go_enter Try.func42, Try.ntmps42
  go_wp2_with fail
  go_quiet (fail)
  go_wp2_with fail
  simp only [List.append]
  go_quiet (fail)
  go_wp2_with fail
  refine (HC.out _).mono ?_
  rintro e w1 ⟨rfl, v', hp, hs⟩
  rw [nums1] at hp
  have HP := Lib.hid hp
  have HS := Lib.hid hs
  clear hp hs
  go_wp2_with fail
  go_end0
  exact ⟨rfl, .inl ⟨rfl, v', HP.out, (Step.of_below (below_drewN (Below.refl _ _) _) (Nat.le_refl _)).trans HS.out⟩⟩

set_option maxRecDepth 100000 in
set_option maxHeartbeats 1000000 in
theorem p11_8 (p : Nat) (cs : List Value) (v : Value) (zs : List Int) (prev nx : Int) (w : World) (h : Pr w p 100 9 5 cs v zs) (hf : Fl cs zs.length prev) (hn : zs.length ≤ 1048577) (hp : prev = 11) (hx : nx = 8) :
    Calls Try.prog 42 #[.pointer (some ⟨p, 0, none⟩), .int .u8 nx] w (Out w p cs v zs true) := by
  obtain ⟨A, c, hv⟩ := h.buf.form
  obtain ⟨n, hlen⟩ : ∃ n, zs.length = n := ⟨_, rfl⟩
  have HLEN := Lib.hid hlen
  rw [hlen] at hv hf hn
  subst hv
  have c1 := h.row.at_ h.at_
  have c2 := h.row.at_ hf.c65
  have c3 := h.row.at_ hf.c137
  have H := Lib.hid h
  have e1 : ((n : Int) == (n : Int)) = true := by simp
  have HC := Lib.hid (fun q => Print.pr48 p cs (.slice A n c) zs ⟨#[32]⟩ (w.drewN q) ⟨H.out.row.drewN q, H.out.at_, H.out.buf.drewN q⟩ (by rw [HLEN.out]; simp [ByteArray.size]; omega))
  subst hp hx
  clear h hf hlen
  go_enter Try.func42, Try.ntmps42
  go_wp2_with fail
  go_quiet (fail)
  go_wp2_with fail
  simp only [List.append]
  go_quiet (fail)
  go_wp2_with fail
  refine (HC.out _).mono ?_
  rintro e w1 ⟨rfl, v', hp, hs⟩
  rw [nums1] at hp
  have HP := Lib.hid hp
  have HS := Lib.hid hs
  clear hp hs
  go_wp2_with fail
  go_end0
  exact ⟨rfl, .inl ⟨rfl, v', HP.out, (Step.of_below (below_drewN (Below.refl _ _) _) (Nat.le_refl _)).trans HS.out⟩⟩

set_option maxRecDepth 100000 in
set_option maxHeartbeats 1000000 in
theorem p11_no (p : Nat) (cs : List Value) (v : Value) (zs : List Int) (prev nx : Int) (w : World) (h : Pr w p 100 9 5 cs v zs) (hf : Fl cs zs.length prev) (hn : zs.length ≤ 1048577) (hp : prev = 11) (hx : nx ≠ 11 ∧ nx ≠ 0 ∧ nx ≠ 8) :
    Calls Try.prog 42 #[.pointer (some ⟨p, 0, none⟩), .int .u8 nx] w (Out w p cs v zs false) := by
  obtain ⟨A, c, hv⟩ := h.buf.form
  obtain ⟨n, hlen⟩ : ∃ n, zs.length = n := ⟨_, rfl⟩
  have HLEN := Lib.hid hlen
  rw [hlen] at hv hf hn
  subst hv
  have c1 := h.row.at_ h.at_
  have c2 := h.row.at_ hf.c65
  have c3 := h.row.at_ hf.c137
  have H := Lib.hid h
  have e1 : ((n : Int) == (n : Int)) = true := by simp
  have HC := Lib.hid (fun q => Print.pr48 p cs (.slice A n c) zs ⟨#[32]⟩ (w.drewN q) ⟨H.out.row.drewN q, H.out.at_, H.out.buf.drewN q⟩ (by rw [HLEN.out]; simp [ByteArray.size]; omega))
  subst hp
  obtain ⟨x1, x2, x3⟩ := hx
  have qnx11 : (nx == 11) = false := by simp; omega
  have qnx0 : (nx == 0) = false := by simp; omega
  have qnx8 : (nx == 8) = false := by simp; omega
  clear h hf hlen
  go_enter Try.func42, Try.ntmps42
  go_wp2_with fail
  go_quiet (fail)
  go_wp2_with fail
  simp only [List.append]
  go_quiet (fail)
  go_wp2_with fail
  go_end0
  exact ⟨rfl, .inr ⟨rfl, _, World.drewN_drewN _ _ _⟩⟩

end Go.Proofs.Ytjgomgagaolhgaa.Space
