/- FnMarkReachableMatchesBFS: the law. -/
import Derived.Test.YtpidbikdncgogaaRows
import Derived.Test.YtpidbikdncgogaaMem
import Derived.Test.YtpidbikdncgogaaSl
import Derived.Test.YtpidbikdncgogaaMrA
import Derived.Test.YtpidbikdncgogaaMrW
import Derived.Test.YtpidbikdncgogaaMrK
import Derived.Test.YtpidbikdncgogaaMrD
import Derived.Test.YtpidbikdncgogaaMrY
import Derived.Test.YtpidbikdncgogaaMrM
import Derived.Carry
import Derived.Deep.DeepCutAuto
import Derived.WalkKit
import Derived.ProofKit
import Derived.OpenShut
import Derived.Below
import Derived.WalkLawsBesides
import Derived.Lib.Hide
import Derived.Outline
import Derived.RegionTactic
import Derived.Deep.QuietTactic
import Derived.BigQuiet
import Derived.WalkSpells
import Derived.Deep.OwnRows
import Derived.IntWalk
import Derived.Deep.DeepMust
namespace Go.Proofs.Ytpidbikdncgogaa.MrL
open Go.RowKit Mem Sl
set_option linter.unusedVariables false
open Args Fvs Fxs Argn Tab MrI MrA MrC MrS MrB MrG MrW MrK MrD MrY MrQ MrM
open MrP (INF Gr Path Sound Rel Vis Bfs)

/-- What the comparison reads. -/
structure Fi (n bit : Nat) (d : Dat) (H : Nat → Fh) (O Dq : Nat) (D : Nat → Nat) (A : Option Addr) (h : Hdr) (w0 w : World) : Prop where
  row : ∀ i, i < n → Row4 w O i (H i) (d.lv i)
  ds : Ds n bit H O D w
  dq : Fv w Dq n (fun i => .int .u32 (D i : Int))
  fs : Fs w A n d h
  bel : Below w0.heap.size w0 w
theorem Fi.later {n bit : Nat} {d : Dat} {H : Nat → Fh} {O Dq : Nat} {D : Nat → Nat} {A : Option Addr} {h : Hdr} {w0 w w' : World} (f : Fi n bit d H O Dq D A h w0 w) (hb : Below w.heap.size w w') : Fi n bit d H O Dq D A h w0 w' :=
  ⟨fun i hi => ⟨cell_later hb (f.row i hi).f0, cell_later hb (f.row i hi).f2, cell_later hb (f.row i hi).f22, cell_later hb (f.row i hi).f23⟩, f.ds.later hb, f.dq.below hb f.dq.lt, f.fs.later hb, f.bel.trans (hb.mono f.bel.size)⟩
/-- The two searches agree. -/
theorem agree {n s : Nat} {d : Dat} {D E : Nat → Nat} {q : List Nat} {part : Nat → Prop} (b : Bfs (gr n d) s D q q.length part) (v : Vis (gr n d) (fun _ => INF) 0 s E) (se : Sound (gr n d) s E) (i : Nat) : D i = E i :=
  MrP.dist_eq b.inf v.mono b.snd se b.seed v.hit b.done (MrP.vis_rel v) i
set_option maxRecDepth 100000 in
set_option maxHeartbeats 16000000 in
theorem law (A : Option Addr) (n c : Nat) (d : Dat) (h : Hdr) (seed bit : Nat) (cs : Bool) (w : World) (hf : Fs w A n d h) (hn : n ≤ maxLen) (hwf : Wf n d) (hs : seed ≤ 4294967295) (hbit : bit < 256) :
    Calls Try.prog 3 #[.slice A n c, .int .u32 (seed : Int), .int .u8 (bit : Int), .bool cs] w (fun e w' => e = .returned (.bool true) ∧ Below w.heap.size w w') := by
  have hm : n ≤ 9223372036854775807 := by unfold maxLen at hn; omega
  have R4 := Lib.hid (bytes4 A n c d h (seed : Int) (bit : Int) cs w hf hn)
  have HF := Lib.hid hf
  have WF := Lib.hid hwf
  clear hf hwf hn
  go_enter Try.func3, Try.ntmps3
  go_wp2_with fail
  refine R4.out.mono ?_
  rintro e w1 ⟨b, rfl, hb, rfl⟩
  cases b
  · clear hb
    go_wp2
    go_ret
    exact ⟨rfl, Below.refl _ _⟩
  obtain ⟨hn1, hlen⟩ := hb rfl
  have HL := Lib.hid hlen
  clear R4 hb hlen
  go_wp2_with fail
  refine (size5 A n c d h w HF.out hn1 HL.out).mono ?_
  rintro e w1 ⟨t, ht, rfl, rfl⟩
  by_cases q1 : 1048576 < t
  · have t1 : decide ((1048576 : Int) < (t : Int)) = true := by simp; omega
    have t2 : decide ((t : Int) > (1048576 : Int)) = true := by simp; omega
    go_wp2
    go_ret
    exact ⟨rfl, Below.refl _ _⟩
  have t1 : decide ((1048576 : Int) < (t : Int)) = false := by simp; omega
  have t2 : decide ((t : Int) > (1048576 : Int)) = false := by simp; omega
  by_cases q2 : 256 < n
  · have t3 : decide ((256 : Int) < (n : Int)) = true := by simp; omega
    have t4 : decide ((n : Int) > 256) = true := by simp; omega
    go_wp2
    go_ret
    exact ⟨rfl, Below.refl _ _⟩
  have t3 : decide ((256 : Int) < (n : Int)) = false := by simp; omega
  have t4 : decide ((n : Int) > 256) = false := by simp; omega
  have hn2 : n ≤ 256 := by omega
  by_cases q3 : seed < n
  case neg =>
    have t5 : decide ((n : Int) ≤ (seed : Int)) = true := by simp; omega
    have t6 : decide ((seed : Int) ≥ (n : Int)) = true := by simp; omega
    go_wp2
    go_ret
    exact ⟨rfl, Below.refl _ _⟩
  have t5 : decide ((n : Int) ≤ (seed : Int)) = false := by simp; omega
  have t6 : decide ((seed : Int) ≥ (n : Int)) = false := by simp; omega
  obtain ⟨b0, o0, rfl, _⟩ := HF.out.file seed q3
  have HS := Lib.hid q3
  go_wp2_with fail
  refine (well6 (some ⟨b0, o0, none⟩) n c d h w HF.out hn2 HL.out WF.out).mono ?_
  rintro e w1 ⟨b, rfl, hb, hb1⟩
  have B1 := Lib.hid hb1
  cases b
  · clear hb
    go_wp2
    go_ret
    exact ⟨rfl, B1.out⟩
  have GD := Lib.hid (hb rfl)
  have F1 := Lib.hid (HF.out.later hb1)
  clear hb hb1 t1 t2 t3 t4 t5 t6 HF
  go_wp2_with fail
  refine (clone7 b0 o0 n c d h w1 F1.out hn2 HL.out).mono ?_
  rintro e w2 ⟨A2, c2, h2, rfl, hnc, hc2, hf2, hb2⟩
  obtain ⟨b2, o2, rfl, _⟩ := hf2.file seed HS.out
  have F2 := Lib.hid hf2
  have B2 := Lib.hid (B1.out.trans (hb2.mono B1.out.size))
  clear hf2 hb2 F1 hnc hc2
  go_wp2_with fail
  refine (build8 b2 o2 n c2 d h2 w2 F2.out hn2 HL.out GD.out).mono ?_
  rintro e w3 ⟨H, T, rfl, hlb⟩
  have LB := Lib.hid hlb
  have F3 := Lib.hid (F2.out.later hlb.bel)
  have R9 := Lib.hid (run9 (cs := cs) hn2 hbit GD.out WF.out HL.out T w2 w3 hlb HS.out)
  obtain ⟨O, hO⟩ : ∃ O, O = w2.heap.size := ⟨_, rfl⟩
  rw [← hO] at R9 ⊢
  have HO := Lib.hid hO
  have FX2 := Lib.hid F2.out
  clear hlb hO F2
  go_wp2_with fail
  refine R9.out.mono ?_
  rintro e w4 ⟨rfl, E, hrow, hds, hfx, hvis, hsnd⟩
  have HB4 := Lib.hid (show Below w2.heap.size w2 w4 from LB.out.bel.trans (hfx.below (by have := LB.out.sz; omega) (fun j hj => by
      have := HO.out
      rcases hj with rfl | ⟨i, hi, rfl⟩
      · omega
      · have := LB.out.lo i hi _ (.inr rfl); omega)))
  have F4 := Lib.hid (FX2.out.later HB4.out)
  have B4 := Lib.hid (B2.out.trans (HB4.out.mono B2.out.size))
  have ROW := Lib.hid hrow
  have DS := Lib.hid hds
  have VIS := Lib.hid hvis
  have SND := Lib.hid hsnd
  clear hrow hds hfx hvis hsnd R9
  go_wp2_with fail
  refine (dist10 n seed d b2 o2 c2 h2 w4 F4.out HS.out hn2 GD.out WF.out HL.out).mono ?_
  rintro e w5 ⟨D, q, part, rfl, hdv, hb5, hbf⟩
  obtain ⟨Dq, hDq⟩ : ∃ x, x = w4.heap.size := ⟨_, rfl⟩
  rw [← hDq] at hdv ⊢
  have FI := Lib.hid (show Fi n bit d H O Dq E (some ⟨b2, o2, none⟩) h2 w w5 from
    ⟨fun i hi => ⟨cell_later hb5 (ROW.out i hi).f0, cell_later hb5 (ROW.out i hi).f2, cell_later hb5 (ROW.out i hi).f22, cell_later hb5 (ROW.out i hi).f23⟩, DS.out.later hb5, hdv.congr (fun i _ => by show Value.int .u32 ((D i : Nat) : Int) = .int .u32 ((E i : Nat) : Int); rw [agree hbf VIS.out SND.out i]), F4.out.later hb5, B4.out.trans (hb5.mono B4.out.size)⟩)
  have INFE := Lib.hid VIS.out.mono
  clear hdv hb5 hbf hDq F3 F4 LB ROW DS VIS SND
  go_wp2
  go_loopw [12] (fun i wr => ∃ k : Nat, k ≤ n ∧ i = .int .i64 k ∧ Fi n bit d H O Dq E (some ⟨b2, o2, none⟩) h2 w wr) (fun i _ => n - (intOf i).toNat)
  case atStart => exact ⟨0, Nat.zero_le _, rfl, FI.out⟩
  case round =>
    clear FI
    obtain ⟨k, hk, rfl, hfi⟩ := hrel
    obtain ⟨w6, hw6⟩ : ∃ x, x = wr := ⟨_, rfl⟩
    rw [← hw6] at hfi ⊢
    have FI := Lib.hid hfi
    clear hfi hw6
    by_cases hlk : k < n
    · have r := FI.out.row k hlk
      have f0 := r.f0
      have f23 := r.f23
      have f20 := FI.out.ds.dist k hlk
      have dk := FI.out.dq.cell k hlk
      have bt := FI.out.ds.bits k hlk
      obtain ⟨b, o, hab, hb, _, _, p2, _⟩ := FI.out.fs.file k hlk
      injection hab with hab
      injection hab with hab1 hab2
      subst hab1
      subst hab2
      obtain ⟨ek, hek⟩ : ∃ x, x = E k := ⟨_, rfl⟩
      obtain ⟨EB, hEB⟩ : ∃ x, x = (H k).E := ⟨_, rfl⟩
      obtain ⟨lv, hlv⟩ : ∃ x, x = d.lv k := ⟨_, rfl⟩
      obtain ⟨m, hm2⟩ : ∃ x, x = decide (E k ≠ INF) := ⟨_, rfl⟩
      rw [← hek] at f20 dk
      rw [← hEB] at f0
      rw [← hEB, ← hm2] at bt
      rw [← hlv] at f23 p2
      have tm : ((ek : Int) != 4294967295) = m := by
        rw [hm2, ← hek]
        unfold INF
        by_cases e : ek = 4294967295
        · subst e; rfl
        · simp [e]; omega
      have hki : (k : Int) < (n : Int) := by omega
      have HEB := Lib.hid hEB
      have HM := Lib.hid (show m = decide (E k ≠ INF) from hm2)
      have BT := Lib.hid bt
      have HLK := Lib.hid hlk
      clear r bt hb hek hEB hlv hm2 hlk
      go_wp2_with fail
      refine (has11 EB m bit bit hbit hbit w6 BT.out.cell).mono ?_
      rintro e w7 ⟨rfl, hb7⟩
      have FI7 := Lib.hid (FI.out.later hb7)
      have g23 := cell_later hb7 f23
      have g20 := cell_later hb7 f20
      have gk := cell_later hb7 dk
      have q2 := cell_later hb7 p2
      have g0 := cell_later hb7 f0
      have tq : ((m && (bit == bit)) != m) = false := by cases m <;> simp
      have tl : (lv != lv) = false := by cases lv <;> rfl
      clear hb7 f0 f20 f23 dk p2 BT
      go_wp2
      go_region
      go_wp2
      go_region
      go_wp2
      clear g20 g23 gk q2 g0
      go_loopw [14] (fun i wr => ∃ j : Nat, j ≤ 256 ∧ i = .int .i64 j ∧ Fi n bit d H O Dq E (some ⟨b2, o2, none⟩) h2 w wr) (fun i _ => 256 - (intOf i).toNat)
      case atStart => exact ⟨0, Nat.zero_le _, rfl, FI7.out.later (Below.refl w7.heap.size w7).drew.drew⟩
      case round =>
        clear FI7
        obtain ⟨j, hj, rfl, hfi⟩ := hrel
        obtain ⟨w8, hw8⟩ : ∃ x, x = wr := ⟨_, rfl⟩
        rw [← hw8] at hfi ⊢
        have FJ := Lib.hid hfi
        have f0 := (hfi.row k HLK.out).f0
        have bt := hfi.ds.bits k HLK.out
        rw [← HEB.out] at f0
        rw [← HEB.out, ← HM.out] at bt
        have BT := Lib.hid bt
        clear hfi hw8 bt
        by_cases hlj : j < 256
        · by_cases he : j = bit
          · have t0 : ((j : Int) != (bit : Int)) = false := by simp; omega
            as_aux_lemma =>
              go_wp2
              go_roundw
              case rel => first | exact ⟨j + 1, by omega, by go_num, FJ.out⟩ | exact hrel
              case measure => simp [intOf]; omega
          · have t0 : ((j : Int) != (bit : Int)) = true := by simp; omega
            have t1 : (m && (j == bit)) = false := by
              have : (j == bit) = false := by simpa using he
              rw [this, Bool.and_false]
            have R11 := Lib.hid (has11 EB m bit j hbit hlj w8 BT.out.cell)
            clear he
            go_wp2_with fail
            refine R11.out.mono ?_
            rintro e w9 ⟨rfl, hb9⟩
            have FN := Lib.hid (FJ.out.later hb9)
            clear hb9
            as_aux_lemma =>
              go_wp2
              go_roundw
              case rel => first | exact ⟨j + 1, by omega, by go_num, FN.out⟩ | exact hrel
              case measure => simp [intOf]; omega
        · obtain rfl : j = 256 := by omega
          as_aux_lemma =>
            go_wp2
            go_roundw
            case rel => first | exact ⟨k + 1, by omega, by go_num, FJ.out⟩ | exact hrel
            case measure => simp [intOf]; omega
    · obtain rfl : n = k := by omega
      go_wp2
      go_ret
      exact ⟨rfl, FI.out.bel⟩
end Go.Proofs.Ytpidbikdncgogaa.MrL
