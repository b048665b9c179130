/- FnMarkReachableMatchesBFS: the visit. -/
import Derived.Test.YtpidbikdncgogaaRows
import Derived.Test.YtpidbikdncgogaaMem
import Derived.Test.YtpidbikdncgogaaSl
import Derived.Test.YtpidbikdncgogaaMrV
import Derived.Test.YtpidbikdncgogaaMrW
import Derived.Carry
import Derived.Deep.DeepCutAuto
import Derived.Great.BuildSlice
import Derived.Deep.MidRow
import Derived.Laws.Rows
import Derived.WalkKit
import Derived.ProofKit
import Derived.OpenShut
import Derived.Below
import Derived.WalkLawsBesides
import Derived.Lib.Hide
import Derived.Outline
import Derived.RegionTactic
import Derived.Deep.QuietTactic
import Derived.BigQuiet
import Derived.WalkSpells
import Derived.Deep.OwnRows
import Derived.IntWalk
import Derived.Deep.DeepMust
namespace Go.Proofs.Ytpidbikdncgogaa.MrX
open Go.RowKit Mem Sl
set_option linter.unusedVariables false
open Args Fvs Fxs Argn Tab MrI MrA MrC MrS MrB MrG MrE MrV MrW
open MrP (INF Gr Path Sound Rel Chain Vis Mid Bfs)

section
variable {n bit s : Nat} {d : Dat} {H : Nat → Fh} {O c q : Nat} {cs : Bool}
theorem flp_ne {t : Int} (h4 : t < 4294967295) : (flp t != 0) = decide (0 ≤ t) := by
  rcases Int.lt_or_le t 0 with h | h
  · rw [show flp t = 0 from if_pos h]
    have : decide (0 ≤ t) = false := by simp; omega
    rw [this]; rfl
  · rw [show flp t = 4294967295 - t from if_neg (by omega)]
    have : decide (0 ≤ t) = true := by simpa using h
    rw [this]
    simp
    omega
/-- The records before j, and css. -/
def Pr (d : Dat) (u j : Nat) (x : Nat) : Prop := d.css u = (x : Int) ∨ ∃ i, i < j ∧ d.rt u i = (x : Int)
/-- All but the parts from j on. -/
def Pq (d : Dat) (u j : Nat) (x : Nat) : Prop := d.css u = (x : Int) ∨ (∃ i, i < d.rl u ∧ d.rt u i = (x : Int)) ∨ ∃ i k, i < j ∧ k < d.dl u i ∧ d.df u i k = (x : Int) ∧ x ≠ u
def Ps (d : Dat) (u j k : Nat) (x : Nat) : Prop := Pq d u j x ∨ ∃ i, i < k ∧ d.df u j i = (x : Int) ∧ x ≠ u
theorem ps_next {d : Dat} {u j k y : Nat} (h : Ps d u j (k + 1) y) : Ps d u j k y ∨ (d.df u j k = (y : Int) ∧ y ≠ u) := by
  rcases h with h | ⟨i, hi, hh⟩
  · exact .inl (.inl h)
  · by_cases e : i = k
    · subst e; exact .inr hh
    · exact .inl (.inr ⟨i, by omega, hh⟩)
theorem pq_next {d : Dat} {u j y : Nat} (h : Pq d u (j + 1) y) : Ps d u j (d.dl u j) y := by
  rcases h with h | h | ⟨i, k, hi, hh⟩
  · exact .inl (.inl h)
  · exact .inl (.inr (.inl h))
  · by_cases e : i = j
    · subst e; exact .inr ⟨k, hh⟩
    · exact .inl (.inr (.inr ⟨i, k, by omega, hh⟩))
theorem pr_zero {d : Dat} {u y : Nat} (h : Pr d u 0 y) : d.css u = (y : Int) := by
  rcases h with h | ⟨i, hi, _⟩
  · exact h
  · omega
theorem pr_next {d : Dat} {u j y : Nat} (h : Pr d u (j + 1) y) : Pr d u j y ∨ d.rt u j = (y : Int) := by
  rcases h with h | ⟨i, hi, hh⟩
  · exact .inl (.inl h)
  · by_cases e : i = j
    · subst e; exact .inr hh
    · exact .inl (.inr ⟨i, by omega, hh⟩)
set_option maxRecDepth 100000 in
set_option maxHeartbeats 16000000 in
theorem mark18 (hn : n ≤ 256) (hbit : bit < 256) (hgd : MrW.Good n n d) (hwf : Wf n d) (hl : Lens n d) (geo : Geo n d H O c q) : ∀ (N : Nat) (w : World) (D : Nat → Nat) (dd u : Nat), Gs n d H O c q cs w → Ds n bit H O D w → MrP.sum D n ≤ N → u < n → Chain n dd D → Sound (gr n d) s D → (∀ v, D v ≤ INF) → (d.lv u = true → Path (gr n d) s dd u) →
    Calls Try.prog 18 #[.pointer (some ⟨c, 0, none⟩), .int .u32 (u : Int), .int .u64 (bit : Int), .int .u32 (dd : Int)] w (Mk n bit d H O c q cs s D dd u w) := by
  intro N
  have GD := Lib.hid hgd
  have WF := Lib.hid hwf
  have GE := Lib.hid geo
  have HLN := Lib.hid hl
  clear hgd hwf geo hl
  induction N with
  | zero =>
    intro w D dd u hg hd hN hu hc hs hle hp
    refine early18 hn hbit w D dd u hg hd hu (Nat.le_trans (MrP.chain_le hc) hn) hs hle (fun _ => ?_)
    rcases Nat.lt_or_ge dd (D u) with h | h
    · have := MrP.sum_up (D := D) (u := u) (d := dd) (n := n) hu h; omega
    · exact h
  | succ N ih =>
    intro w D dd u hg hd hN hu hc hs hle hp
    have hdd : dd ≤ 256 := Nat.le_trans (MrP.chain_le hc) hn
    cases hlv : d.lv u
    case false => exact early18 hn hbit w D dd u hg hd hu hdd hs hle (fun h => by rw [hlv] at h; cases h)
    rcases Nat.lt_or_ge dd (D u) with hlt | hge
    case inr => exact early18 hn hbit w D dd u hg hd hu hdd hs hle (fun _ => hge)
    have IH := Lib.hid ih
    have LE := Lib.hid hle
    have CH := Lib.hid hc
    have SN := Lib.hid hN
    have PA := Lib.hid (hp hlv)
    have LT := Lib.hid hlt
    have HU := Lib.hid hu
    have SD := Lib.hid hs
    have hI : dd ≠ INF := by unfold INF; omega
    have HI := Lib.hid hI
    clear ih hle hc hN hp hs hI
    have c10 := hg.c10
    have r := hg.row u hu
    have f0 := r.f0
    have f2 := r.f2
    have f23 := r.f23
    rw [hlv] at f23
    have f20 := hd.dist u hu
    have z20 := hd.fz u hu
    have hun : (u : Int) < (n : Int) := by omega
    obtain ⟨du, hdu⟩ : ∃ x, x = D u := ⟨_, rfl⟩
    rw [← hdu] at f20 hlt
    have HDU := Lib.hid hdu
    have t0 : decide ((dd : Int) < (du : Int)) = true := by simp; omega
    have t1 : decide (dd < du) = true := by simp; omega
    have ass := fun W => assT (some ⟨(H u).R, 0, none⟩) W
    have G0 := Lib.hid hg
    have D0 := Lib.hid hd
    have HLV := Lib.hid hlv
    have HLT := Lib.hid hlt
    have G1 := Lib.hid (hg.dist GE.out hu (.int .u32 (dd : Int)))
    obtain ⟨m, hm⟩ : ∃ m, m = decide (D u ≠ INF) := ⟨_, rfl⟩
    have VE := (hd.bits u hu).far (p := ⟨O, u * 24 + 20, none⟩) (GE.out.EO u hu) (.int .u32 (dd : Int))
    rw [← hm] at VE
    have HVE := Lib.hid VE
    obtain ⟨RR, hRR⟩ : ∃ x, x = (H u).R := ⟨_, rfl⟩
    obtain ⟨EE, hEE⟩ : ∃ x, x = (H u).E := ⟨_, rfl⟩
    rw [← hRR] at f2 ass
    rw [← hEE] at f0
    have HRR := Lib.hid hRR
    have HEE := Lib.hid hEE
    clear hg hd r hdu hlv hlt hm VE hRR hEE hu
    go_enter Try.func18, Try.ntmps18
    go_upto_region 7 with fail
    obtain ⟨w1, hw1⟩ : ∃ w1, w1 = w.setCell ⟨O, u * 24 + 20, none⟩ (.int .u32 (dd : Int)) := ⟨_, rfl⟩
    rw [← hw1] at G1 HVE ⊢
    have f0' := (G1.out.row u HU.out).f0
    have f2' := (G1.out.row u HU.out).f2
    rw [← HRR.out] at f2'
    rw [← HEE.out] at f0'
    have W1 := Lib.hid hw1
    have hbb : (bit == bit) = true := by simp
    clear f0 f2 f20 f23 z20 t0 t1 hw1 c10
    go_cut [53] (fun x53 wx => x53 = .bool false ∧ Below w1.heap.size w1 wx)
    case first =>
      go_wp2_with fail
      refine (has11 EE m bit bit hbit hbit w1 (by rw [HEE.out]; exact HVE.out.cell)).mono ?_
      rintro e w2 ⟨rfl, hb2⟩
      have B2 := Lib.hid hb2
      clear hb2
      cases m
      · go_wp2
        go_meet
        case rel => exact ⟨rfl, B2.out⟩
      · go_wp2
        go_meet
        case rel => exact ⟨rfl, B2.out⟩
    case rest =>
      obtain ⟨rfl, hb2⟩ := hcut
      obtain ⟨w2, hw2⟩ : ∃ w2, w2 = wc := ⟨_, rfl⟩
      rw [← hw2] at hb2 ⊢
      have f0 := cell_later hb2 f0'
      have f2 := cell_later hb2 f2'
      have V2 := Lib.hid (HVE.out.below hb2 HVE.out.lt)
      have B2 := Lib.hid hb2
      clear hb2 f0' f2' hw2
      go_wp2_with fail
      refine (set19 EE m bit hbit w2 (by rw [HEE.out]; exact V2.out)).mono ?_
      rintro e w3 ⟨rfl, hv3, hf3⟩
      have X3 : Fx (fun j => j = (H u).E) w1 w3 := (Fx.of_below B2.out).trans (by rw [← HEE.out]; exact hf3)
      have S3 := Lib.hid (show Sv n bit d H O c q cs s D dd u w (fun _ => False) w3 from
        ⟨MrP.up D u dd, G1.out.bits GE.out HU.out X3, D0.out.mark GE.out HU.out HI.out (by rw [← HEE.out]; exact hv3) (by rw [← W1.out]; exact X3),
          (Fx.setCell (P := Pm n H O) (Fx.refl _ _) (p := ⟨O, u * 24 + 20, none⟩) (.inl rfl) (.int .u32 (dd : Int))).trans (by rw [← W1.out]; exact X3.wider (fun j hj => .inr ⟨u, HU.out, hj⟩)), MrP.mid_start SD.out PA.out⟩)
      have f2 : w3.cell? ⟨O, u * 24 + 2, none⟩ = some (.iface 104 (.pointer (some ⟨RR, 0, none⟩))) := by
        obtain ⟨E, g, _⟩ := S3.out
        rw [HRR.out]; exact (g.row u HU.out).f2
      have r63 : w3.cell? ⟨RR, 63, none⟩ = some (.int .u32 (flp (d.css u))) := by
        obtain ⟨E, g, _⟩ := S3.out
        rw [HRR.out]; exact (g.body u HU.out).r63
      obtain ⟨css, hcss⟩ : ∃ x, x = d.css u := ⟨_, rfl⟩
      rw [← hcss] at r63
      have hcn : css < (n : Int) := by rw [hcss]; exact (GD.out u HU.out).2.1
      have HCS := Lib.hid hcss
      clear hcss X3 hv3 hf3 f0 V2 B2
      go_upto_region 12 with fail
      clear f2 ass
      have hx72 : (flp css != 0) = decide (0 ≤ css) := flp_ne (by omega)
      go_upto_if 72 with (refine (valid20 (flp css) (decide (0 ≤ css)) hx72 w3).mono ?_; rintro e w4 ⟨rfl, hb4⟩; have S4 := Lib.hid (sv_later S3.out hb4); have r63' := cell_later hb4 r63; clear hb4 r63 hx72)
      go_cut [] (fun wx => Sv n bit d H O c q cs s D dd u w (fun x => d.css u = (x : Int)) wx)
      case first =>
        by_cases p0 : css < 0
        · have t0 : decide ((0 : Int) ≤ css) = false := by simp; omega
          have SX := Lib.hid (sv_weaker (p' := fun x => d.css u = (x : Int)) S4.out (fun y hy => by rw [← HCS.out] at hy; omega))
          as_aux_lemma =>
            go_wp2
            go_meet
            case rel => exact SX.out
        · have t0 : decide ((0 : Int) ≤ css) = true := by simp; omega
          have hfl : flp css = 4294967295 - css := if_neg p0
          rw [hfl] at r63'
          clear hfl
          obtain ⟨ci, hci⟩ : ∃ ci : Nat, css = (ci : Int) := ⟨css.toNat, by omega⟩
          subst hci
          have ci4 : ci < 4294967296 := by omega
          have cin : ci < n := by omega
          go_wp2_with fail
          refine (get21 ci ci4 w4).mono ?_
          rintro e w5 ⟨rfl, hb5⟩
          obtain ⟨E, g1, g2, g3, g4⟩ := sv_later S4.out hb5
          obtain ⟨k1, k2, k3, k4, k5⟩ := mid_call hn HU.out LT.out LE.out CH.out SN.out g4 (x := ci) (.inl HCS.out.symm)
          have IHX := Lib.hid (IH.out w5 E (dd + 1) ci g1 g2 k1 cin k2 k3 k4 k5)
          have G3 := Lib.hid g3
          have G4 := Lib.hid g4
          have ec : ((dd + 1 : Nat) : Int) = (dd : Int) + 1 := by omega
          rw [ec] at IHX
          clear hb5 g1 g2 g3 g4 k1 k2 k3 k4 k5 ec r63'
          go_wp2_with fail
          refine IHX.out.mono ?_
          rintro e w6 hm6
          have S6 := Lib.hid (sv_step (p' := fun x => d.css u = (x : Int)) G3.out G4.out hm6 (fun y hy => by right; have := HCS.out; omega))
          obtain ⟨rfl, _⟩ := hm6
          as_aux_lemma =>
            go_wp2
            go_meet
            case rel => exact S6.out
      case rest =>
        have S7 := Lib.hid hcut
        obtain ⟨rl, hrl⟩ : ∃ x, x = d.rl u := ⟨_, rfl⟩
        obtain ⟨rc, hrc⟩ : ∃ x, x = (H u).rc := ⟨_, rfl⟩
        have r35 : wc.cell? ⟨RR, 35, none⟩ = some (.slice (some ⟨rc, 0, none⟩) rl rl) := by
          obtain ⟨E, g, _⟩ := S7.out
          rw [HRR.out, hrl, hrc]; exact (g.body u HU.out).r35
        have hrl1 : rl ≤ 1048576 := by rw [hrl]; exact (HLN.out u HU.out).1
        have HRL := Lib.hid hrl
        have HRC := Lib.hid hrc
        clear hcut hrl hrc
        go_wp2
        clear r35
        go_loopw [88] (fun i wr => ∃ j : Nat, j ≤ rl ∧ i = .int .i64 j ∧ Sv n bit d H O c q cs s D dd u w (Pr d u j) wr) (fun i _ => rl - (intOf i).toNat)
        case atStart => exact ⟨0, Nat.zero_le _, rfl, sv_weaker S7.out (fun y hy => pr_zero hy)⟩
        case round =>
          obtain ⟨j, hj, rfl, hs⟩ := hrel
          obtain ⟨wp, hwp⟩ : ∃ x, x = wr := ⟨_, rfl⟩
          rw [← hwp] at hs ⊢
          have SJ := Lib.hid hs
          clear hs hwp
          by_cases hlj : j < rl
          · obtain ⟨L, hL⟩ : ∃ L, L = (List.range 15).map (recB d u j) := ⟨_, rfl⟩
            have RNG := Lib.hid (show wp.rangeAt rc (j * 15) L from by
              obtain ⟨E, g, _⟩ := SJ.out
              rw [hL, HRC.out]
              exact tb_range (g.body u HU.out).rcd (by rw [← HRL.out]; exact hlj))
            have L1 := Lib.hid (show (Try.prog.info? 90).map (·.size) = some L.length from by rw [hL]; kernel_rfl)
            have L2 := Lib.hid (show (#[.pointer none, .pointer none, .string ⟨#[]⟩, .string ⟨#[]⟩, .string ⟨#[]⟩, .string ⟨#[]⟩, .int .u8 0, .int .i32 0, .int .i32 0, .int .i32 0, .int .u32 0, .int .u32 0, .int .u16 0, .int .u8 0, .int .u8 0] : Array Value).size = L.toArray.size from by rw [hL]; kernel_rfl)
            have L3 := Lib.hid (show L.toArray.all (·.oneCell') = true from by rw [hL]; kernel_rfl)
            have L4 := Lib.hid (show L[10]? = some (.int .u32 (flp (d.rt u j))) from by rw [hL]; kernel_rfl)
            have L5 := Lib.hid (show L[14]? = some (.int .u8 (d.rk u j)) from by rw [hL]; kernel_rfl)
            clear hL
            have HH := Lib.hid (Row.newArr wp 90 #[.pointer none, .pointer none, .string ⟨#[]⟩, .string ⟨#[]⟩, .string ⟨#[]⟩, .string ⟨#[]⟩, .int .u8 0, .int .i32 0, .int .i32 0, .int .i32 0, .int .u32 0, .int .u32 0, .int .u16 0, .int .u8 0, .int .u8 0])
            go_upto_region 17 with (first | (refine wpList_load_mid rfl 90 _ rfl rc (j * 15) rfl L _ RNG.out Try.underlying90 rfl L1.out ?_) | (refine wpList_store_rowTo rfl 90 _ _ rfl rfl wp.heap.size L.toArray rfl rfl 90 _ HH.out L1.out L2.out L3.out ?_))
            obtain ⟨w5, hw5, R5, B5, _⟩ := made_set wp 90 #[.pointer none, .pointer none, .string ⟨#[]⟩, .string ⟨#[]⟩, .string ⟨#[]⟩, .string ⟨#[]⟩, .int .u8 0, .int .i32 0, .int .i32 0, .int .i32 0, .int .u32 0, .int .u32 0, .int .u16 0, .int .u8 0, .int .u8 0] L.toArray
            rw [hw5]
            clear hw5
            obtain ⟨g5, hg5⟩ : ∃ g, g = wp.heap.size := ⟨_, rfl⟩
            have m10 := R5.at_ (i := 10) L4.out
            have m14 := R5.at_ (i := 14) L5.out
            rw [← hg5] at m10 m14 ⊢
            have S5 := Lib.hid (sv_later SJ.out B5)
            clear R5 B5 hg5
            obtain ⟨t, ht⟩ : ∃ x, x = d.rt u j := ⟨_, rfl⟩
            obtain ⟨kd, hkd⟩ : ∃ x, x = d.rk u j := ⟨_, rfl⟩
            rw [← ht] at m10
            rw [← hkd] at m14
            have htn : t < (n : Int) := by rw [ht]; exact ((GD.out u HU.out).2.2.1 j (by rw [← HRL.out]; exact hlj)).2
            have HT := Lib.hid ht
            clear ht hkd
            have hxt : (flp t != 0) = decide (0 ≤ t) := flp_ne (by omega)
            go_cut [100] (fun x wx => x = .bool (decide (0 ≤ t)) ∧ Sv n bit d H O c q cs s D dd u w (Pr d u j) wx ∧ wx.cell? ⟨g5, 10, none⟩ = some (.int .u32 (flp t)))
            case first =>
              by_cases p0 : t < 0
              · have t0 : decide ((0 : Int) ≤ t) = false := by simp; omega
                go_wp2_with fail
                refine (valid20 (flp t) (decide (0 ≤ t)) hxt w5).mono ?_
                rintro e w6 ⟨rfl, hb6⟩
                have S6 := Lib.hid (sv_later S5.out hb6)
                have n10 := Lib.hid (cell_later hb6 m10)
                clear hb6 m10 m14
                as_aux_lemma =>
                  go_wp2
                  go_meet
                  case rel => exact ⟨by rw [t0], S6.out, n10.out⟩
              · have t0 : decide ((0 : Int) ≤ t) = true := by simp; omega
                have hfl : flp t = 4294967295 - t := if_neg p0
                obtain ⟨ti, hti⟩ : ∃ ti : Nat, t = (ti : Int) := ⟨t.toNat, by omega⟩
                have ti4 : ti < 4294967296 := by omega
                have tin : ti < n := by omega
                have HTI := Lib.hid hti
                have HFL := Lib.hid hfl
                clear hti hfl
                go_wp2_with fail
                refine (valid20 (flp t) (decide (0 ≤ t)) hxt w5).mono ?_
                rintro e w6 ⟨rfl, hb6⟩
                have S6 := Lib.hid (sv_later S5.out hb6)
                have n10 := cell_later hb6 m10
                have n14 := cell_later hb6 m14
                have n10' := n10
                rw [HFL.out, HTI.out] at n10'
                have N10 := Lib.hid n10
                clear hb6 m10 m14 hxt n10
                go_wp2_with fail
                refine (ext22 c q g5 O n ti u cs kd hn tin w6 (by obtain ⟨E, g, _⟩ := S6.out; exact g.c0) (by obtain ⟨E, g, _⟩ := S6.out; exact g.q0) n14 n10' (by obtain ⟨E, g, _⟩ := S6.out; exact g.c10) (by obtain ⟨E, g, _⟩ := S6.out; exact (g.row ti tin).f22)).mono ?_
                rintro e w7 ⟨rfl, hb7⟩
                have S7 := Lib.hid (sv_later S6.out hb7)
                have q10 := Lib.hid (cell_later hb7 N10.out)
                clear hb7 n14 n10'
                as_aux_lemma =>
                  go_wp2
                  go_meet
                  case rel => exact ⟨by rw [t0], S7.out, q10.out⟩
            case rest =>
              obtain ⟨rfl, hs7, q10⟩ := hcut
              obtain ⟨w7, hw7⟩ : ∃ w7, w7 = wc := ⟨_, rfl⟩
              rw [← hw7] at hs7 q10 ⊢
              have S7 := Lib.hid hs7
              clear hs7 hw7 m10 m14 hxt
              by_cases p0 : t < 0
              · have t0 : decide ((0 : Int) ≤ t) = false := by simp; omega
                have SN9 := Lib.hid (sv_weaker (p' := Pr d u (j + 1)) S7.out (fun y hy => by
                  rcases pr_next hy with h | h
                  · exact h
                  · rw [← HT.out] at h; omega))
                as_aux_lemma =>
                  go_wp2
                  go_roundw
                  case rel => first | exact ⟨j + 1, by omega, by go_num, SN9.out⟩ | exact hrel
                  case measure => simp [intOf]; omega
              · have t0 : decide ((0 : Int) ≤ t) = true := by simp; omega
                have hfl : flp t = 4294967295 - t := if_neg p0
                obtain ⟨ti, hti⟩ : ∃ ti : Nat, t = (ti : Int) := ⟨t.toNat, by omega⟩
                have ti4 : ti < 4294967296 := by omega
                have tin : ti < n := by omega
                rw [hfl, hti] at q10
                have HTI := Lib.hid hti
                clear hti hfl
                go_wp2_with fail
                refine (get21 ti ti4 w7).mono ?_
                rintro e w8 ⟨rfl, hb8⟩
                obtain ⟨E, g1, g2, g3, g4⟩ := sv_later S7.out hb8
                obtain ⟨k1, k2, k3, k4, k5⟩ := mid_call hn HU.out LT.out LE.out CH.out SN.out g4 (x := ti) (.inr (.inl ⟨j, by rw [← HRL.out]; exact hlj, by rw [← HT.out]; exact HTI.out⟩))
                have IHX := Lib.hid (IH.out w8 E (dd + 1) ti g1 g2 k1 tin k2 k3 k4 k5)
                have G3 := Lib.hid g3
                have G4 := Lib.hid g4
                have ec : ((dd + 1 : Nat) : Int) = (dd : Int) + 1 := by omega
                rw [ec] at IHX
                clear hb8 g1 g2 g3 g4 k1 k2 k3 k4 k5 ec q10
                go_wp2_with fail
                refine IHX.out.mono ?_
                rintro e w9 hm9
                have SN9 := Lib.hid (sv_step (p' := Pr d u (j + 1)) G3.out G4.out hm9 (fun y hy => by
                  rcases pr_next hy with h | h
                  · exact .inl h
                  · right; rw [← HT.out, HTI.out] at h; omega))
                obtain ⟨rfl, _⟩ := hm9
                as_aux_lemma =>
                  go_wp2
                  go_roundw
                  case rel => first | exact ⟨j + 1, by omega, by go_num, SN9.out⟩ | exact hrel
                  case measure => simp [intOf]; omega
          · obtain rfl : rl = j := by omega
            have S8 := Lib.hid (sv_weaker (p' := Pq d u 0) SJ.out (fun y hy => by
              rcases hy with h | ⟨i, hi, h⟩ | ⟨i, k, hi, _⟩
              · exact .inl h
              · exact .inr ⟨i, by rw [HRL.out]; exact hi, h⟩
              · omega))
            obtain ⟨pl, hpl⟩ : ∃ x, x = d.pl u := ⟨_, rfl⟩
            obtain ⟨P, hP⟩ : ∃ x, x = (H u).P := ⟨_, rfl⟩
            have r20 : wp.cell? ⟨RR, 20, none⟩ = some (.slice (some ⟨P, 0, none⟩) pl pl) := by
              obtain ⟨E, g, _⟩ := SJ.out
              rw [HRR.out, hpl, hP]; exact (g.body u HU.out).r20
            have hpl1 : pl ≤ 1048576 := by rw [hpl]; exact (HLN.out u HU.out).2.1
            have HPL := Lib.hid hpl
            have HPP := Lib.hid hP
            clear hpl hP
            go_wp2
            clear r20
            go_loopw [115] (fun i wr => ∃ j : Nat, j ≤ pl ∧ i = .int .i64 j ∧ Sv n bit d H O c q cs s D dd u w (Pq d u j) wr) (fun i _ => pl - (intOf i).toNat)
            case atStart => exact ⟨0, Nat.zero_le _, rfl, S8.out⟩
            case round =>
              obtain ⟨j, hj, rfl, hs⟩ := hrel
              obtain ⟨wp, hwp⟩ : ∃ x, x = wr := ⟨_, rfl⟩
              rw [← hwp] at hs ⊢
              have SJ := Lib.hid hs
              clear hs hwp
              by_cases hlj : j < pl
              · obtain ⟨L, hL⟩ : ∃ L, L = (List.range 11).map (partB d u (H u).I (H u).D j) := ⟨_, rfl⟩
                have RNG := Lib.hid (show wp.rangeAt P (j * 11) L from by
                  obtain ⟨E, g, _⟩ := SJ.out
                  rw [hL, HPP.out]
                  exact tb_range (g.body u HU.out).part (by rw [← HPL.out]; exact hlj))
                obtain ⟨dl, hdl⟩ : ∃ x, x = d.dl u j := ⟨_, rfl⟩
                obtain ⟨Dj, hDj⟩ : ∃ x, x = (H u).D j := ⟨_, rfl⟩
                have L1 := Lib.hid (show (Try.prog.info? 103).map (·.size) = some L.length from by rw [hL]; kernel_rfl)
                have L2 := Lib.hid (show (#[.slice none 0 0, .slice none 0 0, .slice none 0 0, .slice none 0 0, .map none, .map none, .map none, .slice none 0 0, .bool false, .bool false, .bool false] : Array Value).size = L.toArray.size from by rw [hL]; kernel_rfl)
                have L3 := Lib.hid (show L.toArray.all (·.oneCell') = true from by rw [hL]; kernel_rfl)
                have L4 := Lib.hid (show L[7]? = some (.slice (some ⟨Dj, 0, none⟩) dl dl) from by rw [hL, hdl, hDj]; kernel_rfl)
                have hdl1 : dl ≤ 1048576 := by rw [hdl]; exact ((HLN.out u HU.out).2.2 j (by rw [← HPL.out]; exact hlj)).2
                have HDL := Lib.hid hdl
                have HDJ := Lib.hid hDj
                clear hL hdl hDj
                have HH := Lib.hid (Row.newArr wp 103 #[.slice none 0 0, .slice none 0 0, .slice none 0 0, .slice none 0 0, .map none, .map none, .map none, .slice none 0 0, .bool false, .bool false, .bool false])
                go_upto_region 23 with (first | (refine wpList_load_mid rfl 103 _ rfl P (j * 11) rfl L _ RNG.out Try.underlying103 rfl L1.out ?_) | (refine wpList_store_rowTo rfl 103 _ _ rfl rfl wp.heap.size L.toArray rfl rfl 103 _ HH.out L1.out L2.out L3.out ?_))
                obtain ⟨w5, hw5, R5, B5, _⟩ := made_set wp 103 #[.slice none 0 0, .slice none 0 0, .slice none 0 0, .slice none 0 0, .map none, .map none, .map none, .slice none 0 0, .bool false, .bool false, .bool false] L.toArray
                rw [hw5]
                clear hw5
                obtain ⟨g5, hg5⟩ : ∃ g, g = wp.heap.size := ⟨_, rfl⟩
                have m7 := R5.at_ (i := 7) L4.out
                rw [← hg5] at m7 ⊢
                have S5 := Lib.hid (sv_weaker (p' := Ps d u j 0) (sv_later SJ.out B5) (fun y hy => by
                  rcases hy with h | ⟨k, hk, _⟩
                  · exact h
                  · omega))
                clear R5 B5 hg5
                go_wp2
                clear m7
                go_loopw [122] (fun i wr => ∃ k : Nat, k ≤ dl ∧ i = .int .i64 k ∧ Sv n bit d H O c q cs s D dd u w (Ps d u j k) wr) (fun i _ => dl - (intOf i).toNat)
                case atStart => exact ⟨0, Nat.zero_le _, rfl, S5.out⟩
                case round =>
                  obtain ⟨k, hk, rfl, hs⟩ := hrel
                  obtain ⟨wp, hwp⟩ : ∃ x, x = wr := ⟨_, rfl⟩
                  rw [← hwp] at hs ⊢
                  have SK := Lib.hid hs
                  clear hs hwp
                  by_cases hlk : k < dl
                  · obtain ⟨x, hx⟩ : ∃ x, x = d.df u j k := ⟨_, rfl⟩
                    obtain ⟨y, hy⟩ : ∃ x, x = d.dp u j k := ⟨_, rfl⟩
                    have HX := Lib.hid hx
                    have e0 : wp.cell? ⟨Dj, k * 2, none⟩ = some (.int .u32 x) := by
                      obtain ⟨E, g, _⟩ := SK.out
                      rw [hx, HDJ.out]
                      exact ((g.body u HU.out).dep j (by rw [← HPL.out]; exact hlj)).cell k 0 (by rw [← HDL.out]; exact hlk) (by decide)
                    have e1 : wp.cell? ⟨Dj, k * 2 + 1, none⟩ = some (.int .u32 y) := by
                      obtain ⟨E, g, _⟩ := SK.out
                      rw [hy, HDJ.out]
                      exact ((g.body u HU.out).dep j (by rw [← HPL.out]; exact hlj)).cell k 1 (by rw [← HDL.out]; exact hlk) (by decide)
                    clear hx hy
                    have hx0 : 0 ≤ x := by rw [HX.out]; exact (MrW.wf_u32 (WF.out.df u HU.out j (by rw [← HPL.out]; exact hlj) k (by rw [← HDL.out]; exact hlk))).1
                    have hxn : x < (n : Int) := by rw [HX.out]; exact (GD.out u HU.out).2.2.2 j (by rw [← HPL.out]; exact hlj) k (by rw [← HDL.out]; exact hlk)
                    obtain ⟨xi, hxi⟩ : ∃ xi : Nat, x = (xi : Int) := ⟨x.toNat, by omega⟩
                    subst hxi
                    have xin : xi < n := by omega
                    have r2 := Row.newArr wp 95 #[.int .u32 (xi : Int), .int .u32 y]
                    have b5 : Below wp.heap.size wp (wp.alloc (.cells #[.int .u32 (xi : Int), .int .u32 y] 95)) := (Below.refl _ _).alloc (Nat.le_refl _) _
                    go_upto_region 26 with fail
                    obtain ⟨g6, hg6⟩ : ∃ z, z = wp.heap.size := ⟨_, rfl⟩
                    obtain ⟨w6, hw6⟩ : ∃ z, z = wp.alloc (.cells #[.int .u32 (xi : Int), .int .u32 y] 95) := ⟨_, rfl⟩
                    rw [← hw6] at r2 b5 ⊢
                    rw [← hg6] at r2 ⊢
                    have m0 := r2.at_ (i := 0) rfl
                    have S6 := Lib.hid (sv_later SK.out (by rw [hg6] at *; exact b5))
                    clear r2 b5 hg6 hw6 e0 e1
                    by_cases heq : xi = u
                    · have tt : ((xi : Int) != (u : Int)) = false := by simp; omega
                      have SN9 := Lib.hid (sv_weaker (p' := Ps d u j (k + 1)) S6.out (fun z hz => by
                        rcases ps_next hz with h | ⟨h, h2⟩
                        · exact h
                        · rw [← HX.out] at h; omega))
                      as_aux_lemma =>
                        go_wp2
                        go_roundw
                        case rel => first | exact ⟨k + 1, by omega, by go_num, SN9.out⟩ | exact hrel
                        case measure => simp [intOf]; omega
                    · have tt : ((xi : Int) != (u : Int)) = true := by simp; omega
                      obtain ⟨E, g1, g2, g3, g4⟩ := S6.out
                      obtain ⟨k1, k2, k3, k4, k5⟩ := mid_call hn HU.out LT.out LE.out CH.out SN.out g4 (x := xi) (.inr (.inr ⟨j, k, by rw [← HPL.out]; exact hlj, by rw [← HDL.out]; exact hlk, HX.out.symm, heq⟩))
                      have IHX := Lib.hid (IH.out w6 E (dd + 1) xi g1 g2 k1 xin k2 k3 k4 k5)
                      have G3 := Lib.hid g3
                      have G4 := Lib.hid g4
                      have ec : ((dd + 1 : Nat) : Int) = (dd : Int) + 1 := by omega
                      rw [ec] at IHX
                      clear g1 g2 g3 g4 k1 k2 k3 k4 k5 ec
                      go_wp2_with fail
                      refine IHX.out.mono ?_
                      rintro e w9 hm9
                      have SN9 := Lib.hid (sv_step (p' := Ps d u j (k + 1)) G3.out G4.out hm9 (fun z hz => by
                        rcases ps_next hz with h | ⟨h, h2⟩
                        · exact .inl h
                        · right; rw [← HX.out] at h; omega))
                      obtain ⟨rfl, _⟩ := hm9
                      as_aux_lemma =>
                        go_wp2
                        go_roundw
                        case rel => first | exact ⟨k + 1, by omega, by go_num, SN9.out⟩ | exact hrel
                        case measure => simp [intOf]; omega
                  · obtain rfl : dl = k := by omega
                    have SN9 := Lib.hid (sv_weaker (p' := Pq d u (j + 1)) SK.out (fun z hz => by rw [HDL.out]; exact pq_next hz))
                    as_aux_lemma =>
                      go_wp2
                      go_roundw
                      case rel => first | exact ⟨j + 1, by omega, by go_num, SN9.out⟩ | exact hrel
                      case measure => simp [intOf]; omega
              · obtain rfl : pl = j := by omega
                have FIN := Lib.hid (show Mk n bit d H O c q cs s D dd u w (.returned (.tuple #[])) wp from by
                  obtain ⟨E, g1, g2, g3, g4⟩ := SJ.out
                  refine ⟨rfl, E, g1, g2, g3, g4.vis LT.out (fun y hy => ?_), g4.snd⟩
                  rcases hy with h | h | ⟨i, k, hi, h⟩
                  · exact .inl h
                  · exact .inr (.inl h)
                  · exact .inr (.inr ⟨i, k, by rw [HPL.out]; exact hi, h⟩))
                go_wp2
                go_end0
                exact FIN.out
end
end Go.Proofs.Ytpidbikdncgogaa.MrX
