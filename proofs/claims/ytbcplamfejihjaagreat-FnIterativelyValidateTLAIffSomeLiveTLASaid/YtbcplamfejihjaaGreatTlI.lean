/- FnIterativelyValidateTLAIffSomeLiveTLA: iterativelyValidateTLA. -/
import Derived.Test.YtbcplamfejihjaaGreatRows
import Derived.Test.YtbcplamfejihjaaGreatMem
import Derived.Test.YtbcplamfejihjaaGreatSl
import Derived.Test.YtbcplamfejihjaaGreatTlR
import Derived.Great.BuildSlice
import Derived.Deep.RegionLaw
import Derived.Deep.RegionHeld3
import Derived.Deep.DeepCutAuto
import Derived.WalkKit
import Derived.ProofKit
import Derived.OpenShut
import Derived.Below
import Derived.WalkLawsBesides
import Derived.Lib.Hide
import Derived.Outline
import Derived.RegionTactic
import Derived.Deep.QuietTactic
import Derived.BigQuiet
import Derived.WalkSpells
import Derived.Deep.OwnRows
import Derived.IntWalk
import Derived.Deep.DeepMust
namespace Go.Proofs.YtbcplamfejihjaaGreat.TlI
open Go.RowKit Mem Sl
set_option linter.unusedVariables false
open Args Fvs TlA TlP TlD TlR

/-- The graph and its rows, without a mark. -/
structure Rq (g : Sh) (B : Nat) (st : Nat → Q) (w : World) : Prop where
  gr : Gr g B w
  c22 : ∀ i, i < g.n → w.cell? ⟨g.R, i * 27 + 22, none⟩ = some (.int .u32 (st i).par)
  c23 : ∀ i, i < g.n → w.cell? ⟨g.R, i * 27 + 23, none⟩ = some (.int .u32 (st i).dep)
  c24 : ∀ i, i < g.n → w.cell? ⟨g.R, i * 27 + 24, none⟩ = some (.int .u32 (st i).pas)
  c25 : ∀ i, i < g.n → w.cell? ⟨g.R, i * 27 + 25, none⟩ = some (.int .u32 (st i).iri)
  fr : ∀ o, w.frozen? ⟨g.R, o, none⟩ = false
  B : B ≤ w.heap.size
section
variable {g : Sh} {B d : Nat} {st : Nat → Q} {dc : Bool} {w w' : World}
theorem rp_q (h : Rp g B d st dc w) : Rq g B st w := ⟨h.gr, h.c22, h.c23, h.c24, h.c25, h.fr, by have := h.dB; omega⟩
theorem Rq.mark (h : Rq g B st w) : Rp g B w.heap.size st false (w.alloc (.cells #[.bool false] 4)) := by
  have hb : Below w.heap.size w (w.alloc (.cells #[.bool false] 4)) := (Below.refl _ _).alloc (Nat.le_refl _) _
  have hr := Row.newArr w 4 #[.bool false]
  have hR : g.R < w.heap.size := Nat.lt_of_lt_of_le h.gr.R h.B
  have hc : ∀ b o, b < w.heap.size → (w.alloc (.cells #[.bool false] 4)).cell? ⟨b, o, none⟩ = w.cell? ⟨b, o, none⟩ := fun b o hb' => hb.cell (p := ⟨b, o, none⟩) hb'
  exact ⟨h.gr.keep (fun b o hb' _ => hc b o (Nat.lt_of_lt_of_le hb' h.B)) (fun i _ => hc _ _ hR) (fun i _ => hc _ _ hR), fun i hi => (hc _ _ hR).trans (h.c22 i hi), fun i hi => (hc _ _ hR).trans (h.c23 i hi), fun i hi => (hc _ _ hR).trans (h.c24 i hi), fun i hi => (hc _ _ hR).trans (h.c25 i hi),
    fun o => (hb.frozen (p := ⟨g.R, o, none⟩) hR).trans (h.fr o), hr.at_ (i := 0) rfl, hr.frozen 0, ⟨h.B, hr.lt⟩⟩
theorem Fm.mono {R : Nat} (h : Fm R d w w') {w0 : World} (h0 : Fm R R w0 w) (hd : w0.heap.size ≤ d) : Fm R R w0 w' :=
  ⟨h.os.trans h0.os, h.tape.trans h0.tape, h.output.trans h0.output, Nat.le_trans h0.size h.size, fun k hk h1 h2 => (h.block k (Nat.lt_of_lt_of_le hk h0.size) h1 (by omega)).trans (h0.block k hk h1 h2)⟩
end
/-- A module's words as a world holds them. -/
def cellI (w : World) (a : Addr) : Int := match w.cell? a with | some (.int _ x) => x | _ => 0
def readQ (g : Sh) (w : World) (i : Nat) : Q := ⟨cellI w ⟨g.R, i * 27 + 22, none⟩, cellI w ⟨g.R, i * 27 + 23, none⟩, cellI w ⟨g.R, i * 27 + 24, none⟩, cellI w ⟨g.R, i * 27 + 25, none⟩⟩
theorem phi_read {g : Sh} {B : Nat} {st : Nat → Q} {w : World} (h : Rq g B st w) : phi g.n g.tla (readQ g w) = phi g.n g.tla st := by
  have e : ∀ i, i < g.n → readQ g w i = st i := by
    intro i hi
    unfold readQ cellI
    rw [h.c22 i hi, h.c23 i hi, h.c24 i hi, h.c25 i hi]
  unfold phi
  exact Nat.le_antisymm (sumN_le fun i hi => by rw [e i hi]; exact Nat.le_refl _) (sumN_le fun i hi => by rw [e i hi]; exact Nat.le_refl _)
/-- Some module that could be scanned awaits at its top level. -/
def Live (g : Sh) : Prop := ∃ i, i < g.n ∧ g.ok i = true ∧ g.tla i = true
/-- Between two passes. -/
def Ps (g : Sh) (B : Nat) (w : World) (pass : Int) (h : Bool) (wr : World) : Prop := U pass ∧ ∃ st, Rq g B st wr ∧ Inv g.n g.tla st ∧ Fm g.R g.R w wr ∧ ((h = false ∧ pass = 1 ∧ ∀ i, i < g.n → st i = ⟨0, 0, 0, 0⟩) ∨ (h = true ∧ Live g))
/-- Inside a pass. -/
def In (g : Sh) (B d : Nat) (w : World) (pass : Int) (st : Nat → Q) (k : Nat) (wr : World) : Prop := ∃ st' dc', Rp g B d st' dc' wr ∧ Inv g.n g.tla st' ∧ Rel g.n g.ok g.tla pass st false st' dc' ∧ (∀ i, i < k → g.ok i = true → (st' i).pas = pass) ∧ Fm g.R d w wr
def Ans (g : Sh) (w : World) (e : Ending) (w' : World) : Prop := ∃ b, e = .returned (.bool b) ∧ (b = true ↔ Live g) ∧ Fm g.R g.R w w'
set_option maxRecDepth 100000 in
set_option maxHeartbeats 4000000 in
theorem iter14 (g : Sh) (hf : Fine g) (B : Nat) (w : World) (h : Ps g B w 1 false w) : Calls Tryz.prog 14 #[.pointer (some ⟨g.S, 0, none⟩)] w (Ans g w) := by
  have HF := Lib.hid hf
  have HP := Lib.hid h
  have hn := hf.n
  obtain ⟨S, hS⟩ : ∃ S, S = g.S := ⟨_, rfl⟩
  rw [← hS]
  have HS := Lib.hid hS
  clear h hf hS
  go_enter Tryz.func14, Tryz.ntmps14
  go_wp2
  go_loopw [3, 4] (fun t3 t4 wr => ∃ (pass : Int) (h : Bool), t3 = .int .u32 pass ∧ t4 = .bool h ∧ Ps g B w pass h wr) (fun _ _ wr => phi g.n g.tla (readQ g wr))
  case atStart => exact ⟨1, false, rfl, rfl, HP.out⟩
  case round =>
    clear HP
    obtain ⟨pass, h, rfl, rfl, hpu, st, hrq, hinv, hfm, hcase⟩ := hrel
    have HPH := Lib.hid (phi_read hrq)
    have HRQ := Lib.hid hrq
    have HINV := Lib.hid hinv
    have HFM := Lib.hid hfm
    have HCASE := Lib.hid hcase
    have HPU := Lib.hid hpu
    have hrp := hrq.mark
    have e0 := hrp.gr.sc
    rw [← HS.out] at e0
    have HRP := Lib.hid hrp
    obtain ⟨R, hR⟩ : ∃ x, x = g.R := ⟨_, rfl⟩
    obtain ⟨n, hnn⟩ : ∃ x, x = g.n := ⟨_, rfl⟩
    rw [← hR, ← hnn] at e0
    have HR := Lib.hid hR
    have HNN := Lib.hid hnn
    have hfm' := hfm
    clear hrq hinv hfm hcase hrp hR hnn hpu
    have hwB := hfm'.size
    clear hfm'
    obtain ⟨P1, hP1⟩ : ∃ y, IntKind.u32.wrap (pass + 1) = y := ⟨_, rfl⟩
    have HU1 := Lib.hid (show U P1 by rw [← hP1]; unfold U; simp [IntKind.wrap, IntKind.bits, IntKind.signed]; omega)
    go_wp2
    obtain ⟨w1, hw1⟩ : ∃ y, y = wr.alloc (.cells #[.bool false] 4) := ⟨_, rfl⟩
    obtain ⟨d, hd⟩ : ∃ y, y = wr.heap.size := ⟨_, rfl⟩
    have HF1 := Lib.hid (show Fm g.R d wr w1 by rw [hw1]; exact Fm.below ((Below.refl _ _).alloc (Nat.le_refl _) _))
    rw [← hw1, ← hd] at HRP
    rw [← hw1, ← hd]
    rw [← hd] at hwB
    clear hw1 hd e0
    go_loopw [12] (fun i w2 => ∃ k : Nat, k ≤ n ∧ i = .int .i64 k ∧ In g B d w1 pass st k w2) (fun i _ => n - (intOf i).toNat)
    case atStart => exact ⟨0, Nat.zero_le _, rfl, st, false, HRP.out, HINV.out, Rel.refl _ _, fun i hi => absurd hi (Nat.not_lt_zero i), Fm.refl _ _ _⟩
    case round =>
      clear HRP
      obtain ⟨k, hk, rfl, st', dc', hrp, hinv, hrel, hvis, hfm⟩ := hrel
      have HRP := Lib.hid hrp
      have HREL := Lib.hid hrel
      have HVIS := Lib.hid hvis
      have HFM2 := Lib.hid hfm
      have HINV2 := Lib.hid hinv
      by_cases hlt : k < n
      · have hkn : k < g.n := by rw [← HNN.out]; exact hlt
        have wk : IntKind.u32.wrap (k : Int) = (k : Int) := IntWalk.u32_in _ (by omega)
        have h22 := rec22 g HF.out B d pass HPU.out (unv g.n g.ok pass st' + 1) wr st' dc' k (Nat.lt_succ_self _) hrp hinv hkn
        rw [← HS.out] at h22
        have H22 := Lib.hid h22
        clear h22 hrp hinv hrel hvis hfm
        go_wp2_with fail
        refine H22.out.mono ?_
        rintro e w3 ⟨st2, dc2, rfl, hr2, hi2, hrel2, hps2, hf2⟩
        have HL := Lib.hid (show In g B d w1 pass st (k + 1) w3 from ⟨st2, dc2, hr2, hi2, HREL.out.trans hrel2, fun i hi ho => by
          by_cases e : i = k
          · subst e; exact hps2 ho
          · have hv := HVIS.out i (by omega) ho
            rw [hrel2.keep i (by omega) hv]
            exact hv, HFM2.out.trans hf2⟩)
        clear hr2 hi2 hrel2 hps2 hf2
        go_wp2_with fail
        go_roundw
        case rel => exact ⟨k + 1, by omega, by go_num, HL.out⟩
        case measure => simp [intOf]; omega
      · obtain rfl : n = k := by omega
        have ed := hrp.dc
        have HFW := Lib.hid (Fm.mono (HF1.out.trans hfm) HFM.out hwB)
        have HQ := Lib.hid (rp_q hrp)
        clear hrp hinv hrel hvis hfm
        cases dc' with
        | false =>
          have HANS := Lib.hid (show h = true ↔ Live g from by
            rcases HCASE.out with ⟨hh, hp, hz⟩ | ⟨hh, hl⟩
            · subst hh
              refine ⟨fun h => absurd h (by decide), fun ⟨i, hi, ho, ht⟩ => ?_⟩
              have hj : J g.n g.ok g.tla pass st false := fun i hi ho ht => by
                rw [hz i hi]
                exact ⟨fun h9 => absurd h9 (by rw [hp]; decide), fun _ => by have := HF.out.n; show (4294967295 - (0 : Int)) ≠ (i : Int); omega⟩
              exact absurd ((HREL.out.jj hj i hi ho ht).1 (HVIS.out i (by rw [HNN.out]; exact hi) ho)) (by decide)
            · exact ⟨fun _ => hl, fun _ => hh⟩)
          go_wp2_with fail
          go_ret
          exact ⟨h, rfl, HANS.out, HFW.out⟩
        | true =>
          have HLIVE := Lib.hid (show Live g from by
            rcases HCASE.out with ⟨hh, hp, hz⟩ | ⟨hh, hl⟩
            · refine Classical.byContradiction fun hno => ?_
              have := (HREL.out.none (fun i hi ⟨ho, ht⟩ => hno ⟨i, hi, ho, ht⟩) (fun i hi => by rw [hz i hi])).2
              exact absurd this (by decide)
            · exact hl)
          have HM := Lib.hid (show phi g.n g.tla (readQ g wr) < phi g.n g.tla st from by
            rw [phi_read HQ.out]
            rcases HREL.out.ch rfl with e | e
            · exact absurd e (by decide)
            · exact e)
          go_wp2_with fail
          go_roundw
          case rel => exact ⟨P1, true, rfl, rfl, HU1.out, st', HQ.out, HINV2.out, HFW.out, .inr ⟨rfl, HLIVE.out⟩⟩
          case measure => rw [HPH.out]; exact HM.out

theorem iter11 (g : Sh) (hf : Fine g) (B : Nat) (w : World) (h : Ps g B w 1 false w) : Calls Tryz.prog 11 #[.pointer (some ⟨g.S, 0, none⟩)] w (Ans g w) := by
  have H := Lib.hid (iter14 g hf B w h)
  clear h hf
  go_enter Tryz.func11, Tryz.ntmps11
  go_wp2_with fail
  refine H.out.mono ?_
  rintro e w1 ⟨b, rfl, hb, hfm⟩
  have HB := Lib.hid hb
  have HF := Lib.hid hfm
  clear hb hfm
  go_wp2_with fail
  go_ret
  exact ⟨b, rfl, HB.out, HF.out⟩
end Go.Proofs.YtbcplamfejihjaaGreat.TlI
