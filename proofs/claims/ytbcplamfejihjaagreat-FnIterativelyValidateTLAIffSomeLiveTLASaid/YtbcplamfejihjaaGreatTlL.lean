/- FnIterativelyValidateTLAIffSomeLiveTLA: for all flags and edges of a module graph, iterativelyValidateTLA answers true exactly if some ok module has a live top-level await. -/
import Derived.Test.YtbcplamfejihjaaGreatRows
import Derived.Test.YtbcplamfejihjaaGreatMem
import Derived.Test.YtbcplamfejihjaaGreatSl
import Derived.Test.YtbcplamfejihjaaGreatTlM
import Derived.Great.BuildSlice
import Derived.Deep.RegionLaw
import Derived.Deep.RegionHeld3
import Derived.Laws.EntriesVeiled
import Derived.Maps.AppendAt
import Derived.WalkKit
import Derived.ProofKit
import Derived.OpenShut
import Derived.Below
import Derived.WalkLawsBesides
import Derived.Lib.Hide
import Derived.Outline
import Derived.RegionTactic
import Derived.Deep.QuietTactic
import Derived.BigQuiet
import Derived.WalkSpells
import Derived.Deep.OwnRows
import Derived.IntWalk
import Derived.Deep.DeepMust
namespace Go.Proofs.YtbcplamfejihjaaGreat.TlL
open Go.RowKit Mem Sl
set_option linter.unusedVariables false
open Args Fvs TlA TlP TlD TlF TlB TlN TlI TlM

theorem int_u32 {z : List Int} (h : ∀ x ∈ z, (Lit.int .u32 x).wf = true) (i : Nat) : 0 ≤ z.getD i 0 ∧ z.getD i 0 ≤ 4294967295 := by
  by_cases hi : i < z.length
  · have := h _ (List.getElem_mem hi)
    have e : z.getD i 0 = z[i] := by simp [List.getD, hi]
    rw [e]
    generalize z[i] = y at *
    have hm := this
    simp [Lit.wf, IntKind.min, IntKind.max, IntKind.bits, IntKind.signed] at hm
    omega
  · have e : z.getD i 0 = 0 := by simp [List.getD, hi]
    omega
theorem int_u8 {z : List Int} (h : ∀ x ∈ z, (Lit.int .u8 x).wf = true) (i : Nat) : 0 ≤ z.getD i 0 ∧ z.getD i 0 ≤ 255 := by
  by_cases hi : i < z.length
  · have := h _ (List.getElem_mem hi)
    have e : z.getD i 0 = z[i] := by simp [List.getD, hi]
    rw [e]
    generalize z[i] = y at *
    have hm := this
    simp [Lit.wf, IntKind.min, IntKind.max, IntKind.bits, IntKind.signed] at hm
    omega
  · have e : z.getD i 0 = 0 := by simp [List.getD, hi]
    omega
theorem nil_n {k : IntKind} {w : World} {A : Option Addr} {n c : Nat} {z : List Int} (h : Args.IsInts k w A n c z) : A = none → n = 0 := fun e => by
  have := h.1
  have := h.2.2.2.2.1 e
  omega
theorem nil_b {w : World} {A : Option Addr} {n c : Nat} {z : List Bool} (h : Args.IsBools w A n c z) : A = none → n = 0 := fun e => by
  have := h.1
  have := h.2.2.2.1 e
  omega
theorem info9 : (Tryz.prog.info? 9).map (fun i => (i.zero, i.size, i.bytes)) = some (some (.string ByteArray.empty), 1, 16) := by kernel_rfl
theorem fm_below {w0 w w' : World} {R : Nat} (h0 : Below w0.heap.size w0 w) (h : Fm R R w w') (hR : w0.heap.size ≤ R) : Below w0.heap.size w0 w' :=
  ⟨h.os.trans h0.os, h.tape.trans h0.tape, h.output.trans h0.output, Nat.le_trans h0.size h.size, fun k hk => (h.block k (Nat.lt_of_lt_of_le hk h0.size) (by omega) (by omega)).trans (h0.block k hk)⟩
set_option maxRecDepth 100000 in
set_option maxHeartbeats 4000000 in
theorem law (A0 : Option Addr) (n0 c0 : Nat) (z0 : List Bool) (A1 : Option Addr) (n1 c1 : Nat) (z1 : List Bool) (A2 : Option Addr) (n2 c2 : Nat) (z2 : List Int) (A3 : Option Addr) (n3 c3 : Nat) (z3 : List Int) (A4 : Option Addr) (n4 c4 : Nat) (z4 : List Int) (w : World) (w0 : Args.IsBools w A0 n0 c0 z0) (w1 : Args.IsBools w A1 n1 c1 z1) (w2 : Args.IsInts .u32 w A2 n2 c2 z2) (w3 : Args.IsInts .u32 w A3 n3 c3 z3) (w4 : Args.IsInts .u8 w A4 n4 c4 z4) :
    Calls Tryz.prog 3 #[.slice A0 n0 c0, .slice A1 n1 c1, .slice A2 n2 c2, .slice A3 n3 c3, .slice A4 n4 c4] w fun e w' => e = .returned (.bool true) ∧ Below w.heap.size w w' := by
  have m0 : n0 ≤ maxLen := Nat.le_trans w0.1 w0.2.1
  have m1 : n1 ≤ maxLen := Nat.le_trans w1.1 w1.2.1
  have m2 : n2 ≤ maxLen := Nat.le_trans w2.1 w2.2.1
  have m3 : n3 ≤ maxLen := Nat.le_trans w3.1 w3.2.1
  have m4 : n4 ≤ maxLen := Nat.le_trans w4.1 w4.2.1
  have BY := Lib.hid (bytes4 A0 n0 c0 A1 n1 c1 A2 n2 c2 A3 n3 c3 A4 n4 c4 w m0 m1 m2 m3 m4)
  unfold maxLen at m0 m1 m2 m3 m4
  have R0 := Lib.hid (show Rs w A0 n0 (fun i => .bool (z0.getD i false)) from Rs.of_bools w0)
  have R1 := Lib.hid (show Rs w A1 n1 (fun i => .bool (z1.getD i false)) from Rs.of_bools w1)
  have R2 := Lib.hid (show Rs w A2 n2 (fun i => .int .u32 (z2.getD i 0)) from Rs.of_ints w2)
  have R3 := Lib.hid (show Rs w A3 n3 (fun i => .int .u32 (z3.getD i 0)) from Rs.of_ints w3)
  have R4 := Lib.hid (show Rs w A4 n4 (fun i => .int .u8 (z4.getD i 0)) from Rs.of_ints w4)
  have N0 := Lib.hid (nil_b w0)
  have N1 := Lib.hid (nil_b w1)
  have N2 := Lib.hid (nil_n w2)
  have N3 := Lib.hid (nil_n w3)
  have N4 := Lib.hid (nil_n w4)
  have U2 := Lib.hid (int_u32 w2.2.2.2.1)
  have U3 := Lib.hid (int_u32 w3.2.2.2.1)
  have U4 := Lib.hid (int_u8 w4.2.2.2.1)
  clear w0 w1 w2 w3 w4
  have HB := Lib.hid (Below.refl w.heap.size w)
  obtain ⟨ok, hok⟩ : ∃ f : Nat → Bool, f = fun i => z0.getD i false := ⟨_, rfl⟩
  obtain ⟨tla, htla⟩ : ∃ f : Nat → Bool, f = fun i => z1.getD i false := ⟨_, rfl⟩
  obtain ⟨fr, hfr⟩ : ∃ f : Nat → Int, f = fun i => z2.getD i 0 := ⟨_, rfl⟩
  obtain ⟨t, ht⟩ : ∃ f : Nat → Int, f = fun i => z3.getD i 0 := ⟨_, rfl⟩
  obtain ⟨kk, hkk⟩ : ∃ f : Nat → Int, f = fun i => z4.getD i 0 := ⟨_, rfl⟩
  replace R0 := Lib.hid (show Rs w A0 n0 (fun i => .bool (ok i)) from by rw [hok]; exact R0.out)
  replace R1 := Lib.hid (show Rs w A1 n1 (fun i => .bool (tla i)) from by rw [htla]; exact R1.out)
  replace R2 := Lib.hid (show Rs w A2 n2 (fun i => .int .u32 (fr i)) from by rw [hfr]; exact R2.out)
  replace R3 := Lib.hid (show Rs w A3 n3 (fun i => .int .u32 (t i)) from by rw [ht]; exact R3.out)
  replace R4 := Lib.hid (show Rs w A4 n4 (fun i => .int .u8 (kk i)) from by rw [hkk]; exact R4.out)
  replace U2 := Lib.hid (show ∀ i, 0 ≤ fr i ∧ fr i ≤ 4294967295 from by rw [hfr]; exact U2.out)
  replace U3 := Lib.hid (show ∀ i, 0 ≤ t i ∧ t i ≤ 4294967295 from by rw [ht]; exact U3.out)
  replace U4 := Lib.hid (show ∀ i, 0 ≤ kk i ∧ kk i ≤ 255 from by rw [hkk]; exact U4.out)
  clear hok htla hfr ht hkk
  generalize decide (n0 + n1 + n2 + n3 + n4 ≤ 1048576) = q0 at BY
  go_enter Tryz.func3, Tryz.ntmps3
  go_wp2_with fail
  refine BY.out.mono ?_
  rintro e wx ⟨rfl, rfl⟩
  cases q0
  · go_wp2_with fail
    go_ret
    exact ⟨rfl, Below.refl _ _⟩
  by_cases q0 : 256 < n0
  · have g0 : decide ((256 : Int) < (n0 : Int)) = true := by simp; omega
    go_wp2_with fail
    go_ret
    exact ⟨rfl, Below.refl _ _⟩
  have g0 : decide ((256 : Int) < (n0 : Int)) = false := by simp; omega
  by_cases q1 : 256 < n1
  · have g1 : decide ((256 : Int) < (n1 : Int)) = true := by simp; omega
    go_wp2_with fail
    go_ret
    exact ⟨rfl, Below.refl _ _⟩
  have g1 : decide ((256 : Int) < (n1 : Int)) = false := by simp; omega
  by_cases q2 : 4096 < n2
  · have g2 : decide ((4096 : Int) < (n2 : Int)) = true := by simp; omega
    go_wp2_with fail
    go_ret
    exact ⟨rfl, Below.refl _ _⟩
  have g2 : decide ((4096 : Int) < (n2 : Int)) = false := by simp; omega
  by_cases q3 : 4096 < n3
  · have g3 : decide ((4096 : Int) < (n3 : Int)) = true := by simp; omega
    go_wp2_with fail
    go_ret
    exact ⟨rfl, Below.refl _ _⟩
  have g3 : decide ((4096 : Int) < (n3 : Int)) = false := by simp; omega
  by_cases q4 : 4096 < n4
  · have g4 : decide ((4096 : Int) < (n4 : Int)) = true := by simp; omega
    go_wp2_with fail
    go_ret
    exact ⟨rfl, Below.refl _ _⟩
  have g4 : decide ((4096 : Int) < (n4 : Int)) = false := by simp; omega
  by_cases e0 : n0 = n1
  case neg =>
    have f0 : ((n1 : Int) != (n0 : Int)) = true := by simp; omega
    go_wp2_with fail
    go_ret
    exact ⟨rfl, Below.refl _ _⟩
  subst e0
  have f0 : ((n0 : Int) != (n0 : Int)) = false := by simp
  by_cases e1 : n2 = n3
  case neg =>
    have f1 : ((n3 : Int) != (n2 : Int)) = true := by simp; omega
    go_wp2_with fail
    go_ret
    exact ⟨rfl, Below.refl _ _⟩
  subst e1
  have f1 : ((n2 : Int) != (n2 : Int)) = false := by simp
  by_cases e2 : n2 = n4
  case neg =>
    have f2 : ((n4 : Int) != (n2 : Int)) = true := by simp; omega
    go_wp2_with fail
    go_ret
    exact ⟨rfl, Below.refl _ _⟩
  subst e2
  have f2 : ((n2 : Int) != (n2 : Int)) = false := by simp
  go_wp2_with fail
  refine (edges5 n0 A2 n2 c2 A3 c3 fr t w R2.out R3.out (fun i _ => U2.out i) (fun i _ => U3.out i) (by omega) (by omega)).mono ?_
  rintro e wx ⟨b, rfl, hedge, rfl⟩
  clear BY g0 g1 g2 g3 g4 f0 f1 f2
  cases b with
  | false =>
    go_wp2_with fail
    go_ret
    exact ⟨rfl, Below.refl _ _⟩
  | true =>
    have HE := Lib.hid (hedge rfl)
    clear hedge
    go_wp2_with fail
    refine (copy6 A0 n0 c0 ok w R0.out (by omega) N0.out).mono ?_
    rintro e u1 ⟨D0, d0, rfl, hr, hb⟩
    have S0 := Lib.hid hr
    have B1 := Lib.hid hb
    clear hr hb R0 N0 HB
    go_wp2_with fail
    refine (copy6 A1 n0 c1 tla u1 (R1.out.later B1.out) (by omega) N1.out).mono ?_
    rintro e u2 ⟨D1, d1, rfl, hr, hb⟩
    replace S0 := Lib.hid (S0.out.later hb)
    have S1 := Lib.hid hr
    have B2 := Lib.hid (B1.out.trans (hb.mono B1.out.size))
    clear hr hb R1 N1 B1
    go_wp2_with fail
    refine (copy7 A2 n2 c2 fr u2 (R2.out.later B2.out) (by omega) N2.out).mono ?_
    rintro e u3 ⟨D2, d2, rfl, hr, hb⟩
    replace S0 := Lib.hid (S0.out.later hb)
    replace S1 := Lib.hid (S1.out.later hb)
    have S2 := Lib.hid hr
    have B3 := Lib.hid (B2.out.trans (hb.mono B2.out.size))
    clear hr hb R2 N2 B2
    go_wp2_with fail
    refine (copy7 A3 n2 c3 t u3 (R3.out.later B3.out) (by omega) N3.out).mono ?_
    rintro e u4 ⟨D3, d3, rfl, hr, hb⟩
    replace S0 := Lib.hid (S0.out.later hb)
    replace S1 := Lib.hid (S1.out.later hb)
    replace S2 := Lib.hid (S2.out.later hb)
    have S3 := Lib.hid hr
    have B4 := Lib.hid (B3.out.trans (hb.mono B3.out.size))
    clear hr hb R3 N3 B3
    go_wp2_with fail
    refine (copy8 A4 n2 c4 kk u4 (R4.out.later B4.out) (by omega) N4.out).mono ?_
    rintro e u5 ⟨D4, d4, rfl, hr, hb⟩
    replace S0 := Lib.hid (S0.out.later hb)
    replace S1 := Lib.hid (S1.out.later hb)
    replace S2 := Lib.hid (S2.out.later hb)
    replace S3 := Lib.hid (S3.out.later hb)
    have S4 := Lib.hid hr
    have B5 := Lib.hid (B4.out.trans (hb.mono B4.out.size))
    clear hr hb R4 N4 B4
    have hmk := run_make_row' (P := Tryz.prog) 30 9 (.string ByteArray.empty) 16 Tryz.underlying30 info9 rfl .i64 .i64 n0 (by omega) (by omega) u5
    have hb : Below u5.heap.size u5 (u5.alloc (.cells (madeCells #[.string ByteArray.empty] n0) 9)) := (Below.refl _ _).alloc (Nat.le_refl _) _
    have hr := Rs.of_fv (fv_made u5 9 (.string ByteArray.empty) n0)
    replace S0 := Lib.hid (S0.out.later hb)
    replace S1 := Lib.hid (S1.out.later hb)
    replace S2 := Lib.hid (S2.out.later hb)
    replace S3 := Lib.hid (S3.out.later hb)
    replace S4 := Lib.hid (S4.out.later hb)
    have B6 := Lib.hid (B5.out.trans (hb.mono B5.out.size))
    obtain ⟨u6, hu6⟩ : ∃ x, x = u5.alloc (.cells (madeCells #[.string ByteArray.empty] n0) 9) := ⟨_, rfl⟩
    obtain ⟨bb, hbb⟩ : ∃ x, x = u5.heap.size := ⟨_, rfl⟩
    rw [← hu6] at hmk hr S0 S1 S2 S3 S4 B6
    rw [← hbb] at hmk hr
    have S5 := Lib.hid hr
    clear hb hr hu6 B5 hbb
    go_wp2_with fail
    clear hmk
    refine (kinds10 D4 n2 d4 kk u6 S4.out (fun i _ => U4.out i) (by omega)).mono ?_
    rintro e u7 ⟨D5, d5, rfl, hr, hb⟩
    replace S0 := Lib.hid (S0.out.later hb)
    replace S1 := Lib.hid (S1.out.later hb)
    replace S2 := Lib.hid (S2.out.later hb)
    replace S3 := Lib.hid (S3.out.later hb)
    replace S5 := Lib.hid (S5.out.later hb)
    have S6 := Lib.hid hr
    have B7 := Lib.hid (B6.out.trans (hb.mono B6.out.size))
    clear hr hb B6 S4
    go_wp2_with fail
    refine (new9 n0 n2 ok tla fr t (fun i => kd (kk i)) D0 D1 D2 D3 D5 (some ⟨bb, 0, none⟩) (some ⟨bb, 0, none⟩) d0 d1 d2 d3 d5 n0 n0 u7 ⟨S0.out, S1.out, S2.out, S3.out, S6.out, S5.out, S5.out⟩ (by omega) (by omega) (fun i hi => ⟨(U2.out i).1, (HE.out i hi).1⟩) (fun i hi => ⟨(U3.out i).1, (HE.out i hi).2⟩) (fun i hi => by unfold kd; split <;> (try split) <;> omega)).mono ?_
    rintro e u8 ⟨g, hgn, hgo, hgt, rfl, hfine, hps, hgR, hb⟩
    replace S0 := Lib.hid (S0.out.later hb)
    replace S1 := Lib.hid (S1.out.later hb)
    have B8 := Lib.hid (B7.out.trans (hb.mono B7.out.size))
    have HI := Lib.hid (iter11 g hfine _ u8 hps)
    have HR := Lib.hid (Nat.le_trans B7.out.size hgR)
    have HLV := Lib.hid (show Live g ↔ ∃ i, i < n0 ∧ ok i = true ∧ tla i = true from by unfold Live; rw [hgn, hgo, hgt])
    obtain ⟨gS, hgS⟩ : ∃ x, x = g.S := ⟨_, rfl⟩
    rw [← hgS] at HI ⊢
    clear hgn hgo hgt hfine hps hgR hb S2 S3 S5 S6 B7 HE U2 U3 U4 hgS
    go_wp2_with fail
    go_loop [13, 14] (fun t13 t14 => ∃ (k : Nat) (b : Bool), k ≤ n0 ∧ t14 = .int .i64 k ∧ t13 = .bool b ∧ (b = true ↔ ∃ i, i < k ∧ ok i = true ∧ tla i = true)) (fun _ t14 => n0 - (intOf t14).toNat)
    case atStart => exact ⟨0, false, Nat.zero_le _, rfl, rfl, ⟨fun h => absurd h (by decide), fun ⟨i, hi, _⟩ => absurd hi (Nat.not_lt_zero i)⟩⟩
    case round =>
      obtain ⟨k, b, hk, rfl, rfl, hiff⟩ := hrel
      by_cases hlt : k < n0
      · obtain ⟨b0, o0, ha0, hb0, hc0⟩ := S0.out k hlt
        obtain ⟨b1, o1, ha1, hb1, hc1⟩ := S1.out k hlt
        subst ha0 ha1
        clear hb0 hb1
        obtain ⟨x, hx⟩ : ∃ x, x = ok k := ⟨_, rfl⟩
        obtain ⟨y, hy⟩ : ∃ y, y = tla k := ⟨_, rfl⟩
        simp only [← hx] at hc0
        simp only [← hy] at hc1
        have HS := Lib.hid (show ((if (x && y) = true then true else b) = true ↔ ∃ i, i < k + 1 ∧ ok i = true ∧ tla i = true) from by
          constructor
          · intro h
            by_cases hxy : (x && y) = true
            · simp only [Bool.and_eq_true] at hxy
              exact ⟨k, by omega, by rw [← hx]; exact hxy.1, by rw [← hy]; exact hxy.2⟩
            · rw [if_neg hxy] at h
              obtain ⟨i, hi, h1, h2⟩ := hiff.1 h
              exact ⟨i, by omega, h1, h2⟩
          · rintro ⟨i, hi, h1, h2⟩
            by_cases e : i = k
            · subst e
              rw [if_pos (by rw [hx, hy, h1, h2]; rfl)]
            · split
              · rfl
              · exact hiff.2 ⟨i, by omega, h1, h2⟩)
        clear hx hy hiff
        cases x <;> cases y
        all_goals
          go_wp2
          go_round
          case rel => exact ⟨k + 1, _, by omega, by go_num, rfl, HS.out⟩
          case measure => simp [intOf]; omega
      · obtain rfl : k = n0 := by omega
        have HW := Lib.hid hiff
        clear hiff
        go_wp2_with fail
        refine HI.out.mono ?_
        rintro e u9 ⟨r, rfl, hr, hfm⟩
        have hrb : r = b := by
          have h9 := hr.trans (HLV.out.trans HW.out.symm)
          cases r <;> cases b <;> simp at h9 ⊢
        subst hrb
        have HFB := Lib.hid (fm_below B8.out hfm HR.out)
        have heq : (r == r) = true := by simp
        clear hr hfm
        go_wp2_with fail
        go_ret
        exact ⟨rfl, HFB.out⟩
end Go.Proofs.YtbcplamfejihjaaGreat.TlL
