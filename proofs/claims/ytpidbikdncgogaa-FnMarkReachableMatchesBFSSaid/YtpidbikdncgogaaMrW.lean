/- FnMarkReachableMatchesBFS: lkB1WellFormed. -/
import Derived.Test.YtpidbikdncgogaaRows
import Derived.Test.YtpidbikdncgogaaMem
import Derived.Test.YtpidbikdncgogaaSl
import Derived.Test.YtpidbikdncgogaaMrA
import Derived.Carry
import Derived.Deep.DeepCutAuto
import Derived.WalkKit
import Derived.ProofKit
import Derived.OpenShut
import Derived.Below
import Derived.WalkLawsBesides
import Derived.Lib.Hide
import Derived.Outline
import Derived.RegionTactic
import Derived.Deep.QuietTactic
import Derived.BigQuiet
import Derived.WalkSpells
import Derived.Deep.OwnRows
import Derived.IntWalk
import Derived.Deep.DeepMust
namespace Go.Proofs.Ytpidbikdncgogaa.MrW
open Go.RowKit Mem Sl
set_option linter.unusedVariables false
open Args Fvs Argn MrI MrA

/-- The first m files point inside. -/
def Good (m n : Nat) (d : Dat) : Prop := ∀ i, i < m → -1 ≤ d.css i ∧ d.css i < (n : Int) ∧ (∀ j, j < d.rl i → -1 ≤ d.rt i j ∧ d.rt i j < (n : Int)) ∧ ∀ j, j < d.pl i → ∀ k, k < d.dl i j → d.df i j k < (n : Int)
def Fit (n : Nat) (d : Dat) (w : World) (e : Ending) (w' : World) : Prop := ∃ b, e = .returned (.bool b) ∧ (b = true → Good n n d) ∧ Below w.heap.size w w'
theorem wf_i32 {x : Int} (h : (Lit.int .i32 x).wf = true) : -2147483648 ≤ x ∧ x ≤ 2147483647 := by simp [Lit.wf, IntKind.min, IntKind.max, IntKind.bits, IntKind.signed] at h; omega
theorem wf_u32 {x : Int} (h : (Lit.int .u32 x).wf = true) : 0 ≤ x ∧ x ≤ 4294967295 := by simp [Lit.wf, IntKind.min, IntKind.max, IntKind.bits, IntKind.signed] at h; omega
theorem good_next {m n : Nat} {d : Dat} (h : Good m n d) (h1 : -1 ≤ d.css m) (h2 : d.css m < (n : Int)) (h3 : ∀ j, j < d.rl m → -1 ≤ d.rt m j ∧ d.rt m j < (n : Int)) (h4 : ∀ j, j < d.pl m → ∀ k, k < d.dl m j → d.df m j k < (n : Int)) : Good (m + 1) n d := fun i hi => by
  by_cases e : i = m
  · subst e; exact ⟨h1, h2, h3, h4⟩
  · exact h i (by omega)
theorem fit_no {n : Nat} {d : Dat} {w w' : World} (h : Below w.heap.size w w') : Fit n d w (.returned (.bool false)) w' := ⟨false, rfl, (fun h => by cases h), h⟩
set_option maxRecDepth 100000 in
set_option maxHeartbeats 8000000 in
theorem well6 (A : Option Addr) (n c : Nat) (d : Dat) (h : Hdr) (w : World) (hf : Fs w A n d h) (hn : n ≤ 256) (hl : Lens n d) (hw : Wf n d) :
    Calls Try.prog 6 #[.slice A n c] w (Fit n d w) := by
  have H := Lib.hid hf
  have HL := Lib.hid hl
  have HW := Lib.hid hw
  have B0 := Lib.hid (Below.refl w.heap.size w)
  clear hf hl hw
  go_enter Try.func6, Try.ntmps6
  go_wp2
  go_loopw [4] (fun i wr => ∃ k : Nat, k ≤ n ∧ i = .int .i64 k ∧ Good k n d ∧ Below w.heap.size w wr) (fun i _ => n - (intOf i).toNat)
  case atStart => exact ⟨0, Nat.zero_le _, rfl, fun i hi => absurd hi (Nat.not_lt_zero i), B0.out⟩
  case round =>
    obtain ⟨k, hk, rfl, hgood, hbr⟩ := hrel
    have HG := Lib.hid hgood
    obtain ⟨wo, hwo⟩ : ∃ wo, wo = wr := ⟨_, rfl⟩
    rw [← hwo] at hbr ⊢
    have BR := Lib.hid hbr
    clear hgood hwo
    by_cases hlt : k < n
    · have HFS := Lib.hid (H.out.later hbr)
      obtain ⟨b, o, ha, hb, c0, c1, c2, c3, c4⟩ := HFS.out.file k hlt
      obtain ⟨hm1, hm2, hm3⟩ := HL.out k hlt
      subst ha
      obtain ⟨cs, hcs⟩ : ∃ x, x = d.css k := ⟨_, rfl⟩
      obtain ⟨u, hu⟩ : ∃ x, x = d.rl k := ⟨_, rfl⟩
      obtain ⟨v, hv⟩ : ∃ x, x = d.pl k := ⟨_, rfl⟩
      have hcw := wf_i32 (HW.out.css k hlt)
      rw [← hcs] at c0 hcw
      rw [← hu] at c3 hm1
      rw [← hv] at c4 hm2 hm3
      obtain ⟨hcw1, hcw2⟩ := hcw
      obtain ⟨RA, hRA⟩ : ∃ x, x = h.RA k := ⟨_, rfl⟩
      obtain ⟨PA, hPA⟩ : ∃ x, x = h.PA k := ⟨_, rfl⟩
      rw [← hRA] at c3
      rw [← hPA] at c4
      have HRA := Lib.hid hRA
      have HPA := Lib.hid hPA
      have HPL := Lib.hid hm3
      have HCS := Lib.hid hcs
      have HU := Lib.hid hu
      have HV := Lib.hid hv
      have HLT := Lib.hid hlt
      clear hu hv hcs hm3 hbr hRA hPA hb
      have rg := Row.newArr wo 68 #[.int .i32 cs, .bool (d.se k), .bool (d.lv k), .slice RA u (h.RC k), .slice PA v (h.PC k)]
      have ba : Below wo.heap.size wo (wo.alloc (.cells #[.int .i32 cs, .bool (d.se k), .bool (d.lv k), .slice RA u (h.RC k), .slice PA v (h.PC k)] 68)) := (Below.refl _ _).alloc (Nat.le_refl _) _
      go_upto_region 6 with fail
      obtain ⟨g, hg⟩ : ∃ g, g = wo.heap.size := ⟨_, rfl⟩
      obtain ⟨w1, hw1⟩ : ∃ w1, w1 = wo.alloc (.cells #[.int .i32 cs, .bool (d.se k), .bool (d.lv k), .slice RA u (h.RC k), .slice PA v (h.PC k)] 68) := ⟨_, rfl⟩
      rw [← hw1] at rg ba ⊢
      rw [← hg] at rg ba ⊢
      have g0 := rg.at_ (i := 0) rfl
      have g3 := rg.at_ (i := 3) rfl
      have g4 := rg.at_ (i := 4) rfl
      have hgl := rg.lt
      have BA := Lib.hid (show Below w.heap.size w w1 from BR.out.trans (ba.mono (by rw [hg]; exact BR.out.size)))
      have F1 := Lib.hid (HFS.out.later (by rw [hg] at ba; exact ba))
      clear hw1 rg ba c0 c1 c2 c3 c4 hg
      by_cases p0 : -1 ≤ cs
      case neg =>
        have t0 : decide (cs < -1) = true := by simp; omega
        go_wp2
        go_ret
        exact fit_no BA.out
      by_cases p1 : cs < (n : Int)
      case neg =>
        have t0 : decide (cs < -1) = false := by simp; omega
        have t1 : decide ((n : Int) ≤ cs) = true := by simp; omega
        go_wp2
        go_ret
        exact fit_no BA.out
      have t0 : decide (cs < -1) = false := by simp; omega
      have t1 : decide ((n : Int) ≤ cs) = false := by simp; omega
      go_wp2
      clear t0 t1 g0
      go_loop [6] (fun i => ∃ j : Nat, j ≤ u ∧ i = .int .i64 j ∧ ∀ x, x < j → -1 ≤ d.rt k x ∧ d.rt k x < (n : Int)) (fun i => u - (intOf i).toNat)
      case atStart => exact ⟨0, Nat.zero_le _, rfl, fun i hi => absurd hi (Nat.not_lt_zero i)⟩
      case round =>
        obtain ⟨j, hj, rfl, hall⟩ := hrel
        have HJ := Lib.hid hall
        clear hall
        by_cases hlj : j < u
        · obtain ⟨b2, o2, ha2, hb2, e0, _, _⟩ := F1.out.rcd k HLT.out j (by rw [← HU.out]; exact hlj)
          have tw := wf_i32 (HW.out.rt k HLT.out j (by rw [← HU.out]; exact hlj))
          rw [← HRA.out] at ha2
          subst ha2
          obtain ⟨t, ht⟩ : ∃ x, x = d.rt k j := ⟨_, rfl⟩
          rw [← ht] at e0 tw
          obtain ⟨tw1, tw2⟩ := tw
          have HT := Lib.hid ht
          clear ht hb2
          by_cases q0 : -1 ≤ t
          case neg =>
            have t0 : decide (t < -1) = true := by simp; omega
            go_wp2
            go_ret
            exact fit_no BA.out
          by_cases q1 : t < (n : Int)
          case neg =>
            have t0 : decide (t < -1) = false := by simp; omega
            have t1 : decide ((n : Int) ≤ t) = true := by simp; omega
            go_wp2
            go_ret
            exact fit_no BA.out
          have t0 : decide (t < -1) = false := by simp; omega
          have t1 : decide ((n : Int) ≤ t) = false := by simp; omega
          have HJ2 := Lib.hid (show ∀ x, x < j + 1 → -1 ≤ d.rt k x ∧ d.rt k x < (n : Int) from fun x hx => by
            by_cases e : x = j
            · subst e; rw [← HT.out]; exact ⟨q0, q1⟩
            · exact HJ.out x (by omega))
          go_wp2
          go_round
          case rel => first | exact ⟨j + 1, by omega, by go_num, HJ2.out⟩ | exact hrel
          case measure => simp [intOf]; omega
        · obtain rfl : u = j := by omega
          have HJR := Lib.hid (show ∀ x, x < d.rl k → -1 ≤ d.rt k x ∧ d.rt k x < (n : Int) from fun x hx => HJ.out x (by rw [HU.out]; exact hx))
          have L1 := Lib.hid (Below.refl w1.heap.size w1)
          go_wp2
          go_loopw [8] (fun i wr => ∃ j : Nat, j ≤ v ∧ i = .int .i64 j ∧ Below w1.heap.size w1 wr ∧ ∀ x, x < j → ∀ y, y < d.dl k x → d.df k x y < (n : Int)) (fun i _ => v - (intOf i).toNat)
          case atStart => exact ⟨0, Nat.zero_le _, rfl, L1.out, fun i hi => absurd hi (Nat.not_lt_zero i)⟩
          case round =>
            clear L1
            obtain ⟨j, hj, rfl, hb1, hall⟩ := hrel
            have HQ := Lib.hid hall
            obtain ⟨w2, hw2⟩ : ∃ w2, w2 = wr := ⟨_, rfl⟩
            rw [← hw2] at hb1 ⊢
            have F2 := Lib.hid (F1.out.later hb1)
            have B2 := Lib.hid (BA.out.trans (hb1.mono BA.out.size))
            have k3 := cell_later hb1 g3
            have k4 := cell_later hb1 g4
            have B12 := Lib.hid hb1
            have hgl2 := Nat.lt_of_lt_of_le hgl hb1.size
            clear hall hw2 hb1
            by_cases hlj : j < v
            · obtain ⟨b2, o2, ha2, hb2, e0, e1, e2, e3⟩ := F2.out.part k HLT.out j (by rw [← HV.out]; exact hlj)
              obtain ⟨hm3, hm4⟩ := HPL.out j hlj
              rw [← HPA.out] at ha2
              subst ha2
              obtain ⟨x, hx⟩ : ∃ z, z = d.ql k j := ⟨_, rfl⟩
              obtain ⟨y, hy⟩ : ∃ z, z = d.dl k j := ⟨_, rfl⟩
              obtain ⟨QA, hQA⟩ : ∃ z, z = h.QA k j := ⟨_, rfl⟩
              obtain ⟨DA, hDA⟩ : ∃ z, z = h.DA k j := ⟨_, rfl⟩
              rw [← hx, ← hQA] at e0
              rw [← hy, ← hDA] at e1
              rw [← hx] at hm3
              rw [← hy] at hm4
              have HX := Lib.hid hx
              have HY := Lib.hid hy
              have HQA := Lib.hid hQA
              have HDA := Lib.hid hDA
              have HLJ := Lib.hid hlj
              clear hx hy hQA hDA hb2
              have r2 := Row.newArr w2 71 #[.slice QA x (h.QC k j), .slice DA y (h.DC k j), .bool (d.cb k j), .bool (d.ft k j)]
              have b3 : Below w2.heap.size w2 (w2.alloc (.cells #[.slice QA x (h.QC k j), .slice DA y (h.DC k j), .bool (d.cb k j), .bool (d.ft k j)] 71)) := (Below.refl _ _).alloc (Nat.le_refl _) _
              go_upto_region 18 with fail
              obtain ⟨g2, hg2⟩ : ∃ z, z = w2.heap.size := ⟨_, rfl⟩
              obtain ⟨w3, hw3⟩ : ∃ z, z = w2.alloc (.cells #[.slice QA x (h.QC k j), .slice DA y (h.DC k j), .bool (d.cb k j), .bool (d.ft k j)] 71) := ⟨_, rfl⟩
              rw [← hw3] at r2 b3 ⊢
              have F3 := Lib.hid (F2.out.later b3)
              have B3 := Lib.hid (B2.out.trans (b3.mono B2.out.size))
              have l3 := cell_later b3 k3
              have B13 := Lib.hid (B12.out.trans (b3.mono B12.out.size))
              rw [← hg2] at r2 ⊢
              have m0 := r2.at_ (i := 0) rfl
              have m1 := r2.at_ (i := 1) rfl
              clear hw3 r2 b3 hg2 e0 e1 e2 e3 k3 k4
              have L3 := Lib.hid (Below.refl w3.heap.size w3)
              go_wp2
              go_loopw [10] (fun i wr => ∃ k : Nat, k ≤ x ∧ i = .int .i64 k ∧ Below w3.heap.size w3 wr) (fun i _ => x - (intOf i).toNat)
              case atStart => exact ⟨0, Nat.zero_le _, rfl, L3.out⟩
              case round =>
                clear L3
                obtain ⟨q, hq, rfl, hb4⟩ := hrel
                have F4 := Lib.hid (F3.out.later hb4)
                have B4 := Lib.hid (B3.out.trans (hb4.mono B3.out.size))
                have B34 := Lib.hid hb4
                have m0' := cell_later hb4 m0
                have m1' := cell_later hb4 m1
                have l3' := cell_later hb4 l3
                clear hb4
                by_cases hlq : q < x
                · obtain ⟨b5, o5, ha5, hb5, e5⟩ := F4.out.qr k HLT.out j (by rw [← HV.out]; exact HLJ.out) q (by rw [← HX.out]; exact hlq)
                  have qw := wf_u32 (HW.out.qv k HLT.out j (by rw [← HV.out]; exact HLJ.out) q (by rw [← HX.out]; exact hlq))
                  rw [← HQA.out] at ha5
                  subst ha5
                  obtain ⟨z, hz⟩ : ∃ z, z = d.qv k j q := ⟨_, rfl⟩
                  rw [← hz] at e5 qw
                  obtain ⟨qw1, qw2⟩ := qw
                  clear hz hb5
                  by_cases p : z < (u : Int)
                  · have t0 : decide ((u : Int) ≤ z) = false := by simp; omega
                    go_wp2_with fail
                    go_quiet (fail)
                    go_wp2_with fail
                    go_roundw
                    case rel => first | exact ⟨q + 1, by omega, by go_num, below_drewN B34.out _⟩ | exact hrel
                    case measure => simp [intOf]; omega
                  · have t0 : decide ((u : Int) ≤ z) = true := by simp; omega
                    go_wp2_with fail
                    go_quiet (fail)
                    go_wp2_with fail
                    go_ret
                    exact fit_no (below_drewN B4.out _)
                · obtain rfl : x = q := by omega
                  obtain ⟨w4, hw4⟩ : ∃ z, z = wr := ⟨_, rfl⟩
                  rw [← hw4] at F4 B4 B34 m0' m1' l3' ⊢
                  clear hw4 m0 m1 l3
                  have L4 := Lib.hid (Below.refl w4.heap.size w4)
                  go_wp2
                  go_loopw [11] (fun i wr => ∃ q : Nat, q ≤ y ∧ i = .int .i64 q ∧ Below w4.heap.size w4 wr ∧ ∀ z, z < q → d.df k j z < (n : Int)) (fun i _ => y - (intOf i).toNat)
                  case atStart => exact ⟨0, Nat.zero_le _, rfl, L4.out, fun i hi => absurd hi (Nat.not_lt_zero i)⟩
                  case round =>
                    clear L4
                    obtain ⟨q, hq, rfl, hb5, hall⟩ := hrel
                    have HD := Lib.hid hall
                    have F5 := Lib.hid (F4.out.later hb5)
                    have B5 := Lib.hid (B4.out.trans (hb5.mono B4.out.size))
                    have B45 := Lib.hid hb5
                    have m1 := cell_later hb5 m1'
                    clear hall hb5
                    by_cases hlq : q < y
                    · obtain ⟨b6, o6, ha6, hb6, e6, e7⟩ := F5.out.dep k HLT.out j (by rw [← HV.out]; exact HLJ.out) q (by rw [← HY.out]; exact hlq)
                      have fw := wf_u32 (HW.out.df k HLT.out j (by rw [← HV.out]; exact HLJ.out) q (by rw [← HY.out]; exact hlq))
                      have pw := wf_u32 (HW.out.dp k HLT.out j (by rw [← HV.out]; exact HLJ.out) q (by rw [← HY.out]; exact hlq))
                      rw [← HDA.out] at ha6
                      subst ha6
                      obtain ⟨f, hfz⟩ : ∃ z, z = d.df k j q := ⟨_, rfl⟩
                      obtain ⟨p, hpz⟩ : ∃ z, z = d.dp k j q := ⟨_, rfl⟩
                      rw [← hfz] at e6 fw
                      rw [← hpz] at e7 pw
                      obtain ⟨fw1, fw2⟩ := fw
                      obtain ⟨pw1, pw2⟩ := pw
                      have HF := Lib.hid hfz
                      clear hfz hpz hb6
                      have ra := Row.newArr wr 75 #[.int .u32 f, .int .u32 p]
                      have b7 : Below wr.heap.size wr (wr.alloc (.cells #[.int .u32 f, .int .u32 p] 75)) := (Below.refl _ _).alloc (Nat.le_refl _) _
                      have B7 := Lib.hid (B5.out.trans (b7.mono B5.out.size))
                      have B47 := Lib.hid (B45.out.trans (b7.mono B45.out.size))
                      have a0 := ra.at_ (i := 0) rfl
                      have a1 := ra.at_ (i := 1) rfl
                      by_cases p0 : f < (n : Int)
                      case neg =>
                        have t0 : decide ((n : Int) ≤ f) = true := by simp; omega
                        clear ra b7
                        go_wp2
                        go_ret
                        exact fit_no B7.out
                      have t0 : decide ((n : Int) ≤ f) = false := by simp; omega
                      obtain ⟨fi, hfi⟩ : ∃ fi : Nat, f = (fi : Int) := ⟨f.toNat, by omega⟩
                      subst hfi
                      have hfin : fi < n := by omega
                      have F7 := F5.out.later b7
                      obtain ⟨b8, o8, ha8, hb8, _, _, _, _, c8⟩ := F7.file fi hfin
                      injection ha8 with ha8
                      injection ha8 with ha8 ha9
                      subst ha8 ha9
                      obtain ⟨x8, hx8⟩ : ∃ z, z = d.pl fi := ⟨_, rfl⟩
                      have l8 : d.pl fi ≤ 1048576 := (HL.out fi hfin).2.1
                      rw [← hx8] at c8 l8
                      have HD2 := Lib.hid (show ∀ z, z < q + 1 → d.df k j z < (n : Int) from fun z hz => by
                        by_cases e : z = q
                        · subst e; rw [← HF.out]; exact p0
                        · exact HD.out z (by omega))
                      clear ra b7 F7 hx8 hb8
                      by_cases p1 : p < (x8 : Int)
                      · have t1 : decide ((x8 : Int) ≤ p) = false := by simp; omega
                        go_wp2_with fail
                        go_quiet (fail)
                        go_wp2_with fail
                        go_roundw
                        case rel => first | exact ⟨q + 1, by omega, by go_num, below_drewN B47.out _, HD2.out⟩ | exact hrel
                        case measure => simp [intOf]; omega
                      · have t1 : decide ((x8 : Int) ≤ p) = true := by simp; omega
                        go_wp2_with fail
                        go_quiet (fail)
                        go_wp2_with fail
                        go_ret
                        exact fit_no (below_drewN B7.out _)
                    · obtain rfl : y = q := by omega
                      have HQ2 := Lib.hid (show ∀ z, z < j + 1 → ∀ y, y < d.dl k z → d.df k z y < (n : Int) from fun z hz y' hy' => by
                        by_cases e : z = j
                        · subst e; exact HD.out y' (by rw [HY.out]; exact hy')
                        · exact HQ.out z (by omega) y' hy')
                      have BF := Lib.hid (B13.out.trans ((B34.out.trans (B45.out.mono B34.out.size)).mono B13.out.size))
                      go_wp2
                      go_roundw
                      case rel => first | exact ⟨j + 1, by omega, by go_num, BF.out, HQ2.out⟩ | exact hrel
                      case measure => simp [intOf]; omega
            · obtain rfl : v = j := by omega
              have HG2 := Lib.hid (good_next HG.out (by rw [← HCS.out]; exact p0) (by rw [← HCS.out]; exact p1) HJR.out (fun z hz => HQ.out z (by rw [HV.out]; exact hz)))
              go_wp2
              go_roundw
              case rel => first | exact ⟨k + 1, by omega, by go_num, HG2.out, B2.out⟩ | exact hrel
              case measure => simp [intOf]; omega
    · obtain rfl : n = k := by omega
      go_wp2
      go_ret
      exact ⟨true, rfl, fun _ => HG.out, hbr⟩
end Go.Proofs.Ytpidbikdncgogaa.MrW
