/- FnIterativelyValidateTLAIffSomeLiveTLA: recursivelyValidateTLA. -/
import Derived.Test.YtbcplamfejihjaaGreatRows
import Derived.Test.YtbcplamfejihjaaGreatMem
import Derived.Test.YtbcplamfejihjaaGreatSl
import Derived.Test.YtbcplamfejihjaaGreatTlD
import Derived.Great.BuildSlice
import Derived.Deep.RegionLaw
import Derived.Deep.RegionHeld3
import Derived.Laws.EntriesVeiled
import Derived.Deep.DeepCutAuto
import Derived.WalkKit
import Derived.ProofKit
import Derived.OpenShut
import Derived.Below
import Derived.WalkLawsBesides
import Derived.Lib.Hide
import Derived.Outline
import Derived.RegionTactic
import Derived.Deep.QuietTactic
import Derived.BigQuiet
import Derived.WalkSpells
import Derived.Deep.OwnRows
import Derived.IntWalk
import Derived.Deep.DeepMust
namespace Go.Proofs.YtbcplamfejihjaaGreat.TlR
open Go.RowKit Mem Sl
set_option linter.unusedVariables false
open Args Fvs TlA TlP TlD

def tv (q : Q) : Value := .agg #[.int .u32 q.par, .int .u32 q.dep, .int .u32 q.pas, .int .u32 q.iri]
def Post (g : Sh) (B d : Nat) (pass : Int) (w : World) (st : Nat → Q) (dc : Bool) (s : Nat) (e : Ending) (w' : World) : Prop :=
  ∃ st' dc', e = .returned (tv (st' s)) ∧ Rp g B d st' dc' w' ∧ Inv g.n g.tla st' ∧ Rel g.n g.ok g.tla pass st dc st' dc' ∧ (g.ok s = true → (st' s).pas = pass) ∧ Fm g.R d w w'
theorem assert64 (a : Addr) (w : World) : (Instr.typeAssert (.iface 64 (.pointer (some a))) 106 64 true).run Tryz.prog w = .ok (.tuple #[.pointer (some a), .bool true]) w := by kernel_rfl
/-- At the head of a round of the records' loop. -/
def Lp (g : Sh) (B d : Nat) (pass : Int) (w : World) (st : Nat → Q) (dc : Bool) (s : Nat) (wr : World) : Prop := ∃ stc dcc, Rp g B d stc dcc wr ∧ Inv g.n g.tla stc ∧ Rel g.n g.ok g.tla pass st dc stc dcc ∧ (stc s).pas = pass ∧ (g.tla s = true → idx (stc s).par = s) ∧ Fm g.R d w wr ∧ Row wr w.heap.size 121 [.int .u32 0, .int .u32 0, .int .u32 0, .int .u32 0]
theorem get26t {x : Int} {t : Nat} (hx : x = 4294967295 - (t : Int)) (h : 0 ≤ x ∧ x ≤ 4294967295) (w : World) : Calls Tryz.prog 26 #[.agg #[.int .u32 x]] w fun e w' => e = .returned (.int .u32 (t : Int)) ∧ Below w.heap.size w w' := by
  have h9 := get26 x w h
  rw [show 4294967295 - x = (t : Int) by omega] at h9
  exact h9
theorem keep3 {W w' : World} {a b c : Addr} {u v x : Value} (h : W.cell? a = some u ∧ W.cell? b = some v ∧ W.cell? c = some x) (hb : Below W.heap.size W w') : w'.cell? a = some u ∧ w'.cell? b = some v ∧ w'.cell? c = some x :=
  ⟨cell_later hb h.1, cell_later hb h.2.1, cell_later hb h.2.2⟩
theorem mk12c (W : World) : Calls Tryz.prog 12 #[.int .u32 1] W fun e w' => e = .returned (.agg #[.int .u32 4294967294]) ∧ Below W.heap.size W w' := make12 1 W (by omega)
theorem Row.fm {R d : Nat} {w w' : World} {b : Nat} {t : TypeId} {xs : List Value} (h : Row w b t xs) (hf : Fm R d w w') (h1 : b ≠ R) (h2 : b ≠ d) : Row w' b t xs := (hf.block b h.lt h1 h2).trans h
theorem upd_upd (st : Nat → Q) (s : Nat) (a b : Q) : upd (upd st s a) s b = upd st s b := by
  funext i
  unfold upd
  split <;> rfl
theorem ent_true {tla : Nat → Bool} {pass : Int} {s : Nat} {q : Q} (h : own tla s q = true) : ent tla pass s q = ⟨4294967295 - s, 4294967294, pass, q.iri⟩ := by unfold ent; rw [if_pos h]
theorem ent_false {tla : Nat → Bool} {pass : Int} {s : Nat} {q : Q} (h : own tla s q = false) : ent tla pass s q = ⟨q.par, q.dep, pass, q.iri⟩ := by unfold ent; rw [h]; rfl
set_option maxRecDepth 100000 in
set_option maxHeartbeats 8000000 in
theorem rec22 (g : Sh) (hf : Fine g) (B d : Nat) (pass : Int) (hpu : U pass) : ∀ (N : Nat) (w : World) (st : Nat → Q) (dc : Bool) (s : Nat), unv g.n g.ok pass st < N → Rp g B d st dc w → Inv g.n g.tla st → s < g.n →
    Calls Tryz.prog 22 #[.pointer (some ⟨g.S, 0, none⟩), .int .u32 (s : Int), .int .u32 pass, .pointer (some ⟨d, 0, none⟩)] w (Post g B d pass w st dc s) := by
  intro N
  induction N with
  | zero => intro w st dc s h; exact absurd h (Nat.not_lt_zero _)
  | succ N ih =>
    intro w st dc s hN hrp hinv hs
    have HF := Lib.hid hf
    have IH := Lib.hid ih
    have HN := Lib.hid hN
    have HRP := Lib.hid hrp
    have HINV := Lib.hid hinv
    have hn := hf.n
    have hdB := hrp.dB
    have hRB := hrp.gr.R
    have hal : Below w.heap.size w (w.alloc (.cells #[.int .u32 0, .int .u32 0, .int .u32 0, .int .u32 0] 121)) := (Below.refl _ _).alloc (Nat.le_refl _) _
    have row8 := Row.newArr w 121 #[.int .u32 0, .int .u32 0, .int .u32 0, .int .u32 0]
    have hr1 := hrp.below hal
    have HAL := Lib.hid hal
    have ROW8 := Lib.hid row8
    have HR1 := Lib.hid hr1
    have e0 := hr1.gr.sc
    have e1 := hr1.gr.okc s hs
    have e2 := hr1.c24 s hs
    have e3 := hr1.c22 s hs
    have e4 := hr1.c23 s hs
    have e5 := hr1.c25 s hs
    have i1 : (s : Int) < (g.n : Int) := by omega
    have i0 : (0 : Int) ≤ (s : Int) := by omega
    obtain ⟨q, hq⟩ : ∃ q, q = st s := ⟨_, rfl⟩
    have HQ := Lib.hid hq
    rw [← hq] at e2 e3 e4 e5
    obtain ⟨qp, qd, qs, qi⟩ := q
    simp only at e2 e3 e4 e5
    obtain ⟨S, hS⟩ : ∃ S, S = g.S := ⟨_, rfl⟩
    obtain ⟨R, hR⟩ : ∃ R, R = g.R := ⟨_, rfl⟩
    obtain ⟨n, hnn⟩ : ∃ n, n = g.n := ⟨_, rfl⟩
    have HS := Lib.hid hS
    have HR := Lib.hid hR
    have HNN := Lib.hid hnn
    rw [← hS, ← hR, ← hnn] at e0
    rw [← hR] at e1 e2 e3 e4 e5 hRB
    rw [← hnn] at i1 hn
    rw [← hS]
    clear hS hR hnn hq hf ih hN hrp hinv hal row8 hr1
    have HQR := Lib.hid (show Post g B d pass w st dc s (.returned (tv ⟨qp, qd, qs, qi⟩)) (w.alloc (.cells #[.int .u32 qp, .int .u32 qd, .int .u32 qs, .int .u32 qi] 121)) ∨ ¬ (g.ok s = true → qs = pass) from by
      by_cases h : g.ok s = true → qs = pass
      · left
        have hb : Below w.heap.size w (w.alloc (.cells #[.int .u32 qp, .int .u32 qd, .int .u32 qs, .int .u32 qi] 121)) := (Below.refl _ _).alloc (Nat.le_refl _) _
        exact ⟨st, dc, by rw [← HQ.out], HRP.out.below hb, HINV.out, Rel.refl _ _, by rw [← HQ.out]; exact h, Fm.below hb⟩
      · exact .inr h)
    cases hok : g.ok s with
    | false =>
      rw [hok] at e1 HQR
      have hp := HQR.out.resolve_right (by simp)
      have HP := Lib.hid hp
      clear hp HQR
      go_enter Tryz.func22, Tryz.ntmps22
      go_wp2
      exact bodyPost_ret (v := tv ⟨qp, qd, qs, qi⟩) (by simp [results, Tryz.results22, go_sem, tv]) rfl HP.out
    | true =>
      rw [hok] at e1 HQR
      have HOK := Lib.hid hok
      clear hok
      by_cases hps : qs = pass
      · have hp := HQR.out.resolve_right (by simp [hps])
        have HP := Lib.hid hp
        have tq : (qs != pass) = false := by simp [hps]
        clear hp HQR hps
        go_enter Tryz.func22, Tryz.ntmps22
        go_wp2
        exact bodyPost_ret (v := tv ⟨qp, qd, qs, qi⟩) (by simp [results, Tryz.results22, go_sem, tv]) rfl HP.out
      · have tq : (qs != pass) = true := by simp [hps]
        clear HQR
        obtain ⟨hrel1, hinv1, hpar1⟩ := Rel.enter (dc := dc) (pass := pass) HINV.out (by rw [← HNN.out] at *; omega : s < g.n) (by rw [← HNN.out]; omega) HOK.out (by rw [← HQ.out]; exact hps) hpu
        have HREL1 := Lib.hid hrel1
        have HINV1 := Lib.hid hinv1
        have HPAR1 := Lib.hid hpar1
        clear hrel1 hinv1 hpar1
        have fz := HR1.out.fr (s * 27 + 24)
        rw [← HR.out] at fz
        have e6 := HR1.out.gr.rp s hs
        obtain ⟨hri1, hri2⟩ := HR1.out.gr.rb s hs
        obtain ⟨RI, hRI⟩ : ∃ x, x = g.ri s := ⟨_, rfl⟩
        rw [← HR.out, ← hRI] at e6
        rw [← hRI] at hri1 hri2
        rw [← HR.out] at hri2
        have HRI := Lib.hid hRI
        have ta := fun W => assert64 ⟨RI, 0, none⟩ W
        have hrp2 := HR1.out.row hs 24 (by omega) pass ⟨qp, qd, pass, qi⟩ (by rw [← HQ.out]; rfl) (by rw [← HQ.out]; rfl) rfl (by rw [← HQ.out]; rfl)
        rw [← HR.out] at hrp2
        have HRP2 := Lib.hid hrp2
        clear hRI hrp2
        go_enter Tryz.func22, Tryz.ntmps22
        go_upto_region 6 with fail
        clear ta e0 e1 e2 e3 e4 e5 e6 fz
        obtain ⟨W2, hW2⟩ : ∃ W2, W2 = (w.alloc (.cells #[.int .u32 0, .int .u32 0, .int .u32 0, .int .u32 0] 121)).setCell ⟨R, s * 27 + 24, none⟩ (.int .u32 pass) := ⟨_, rfl⟩
        have HROW2 := Lib.hid (show Row W2 w.heap.size 121 [.int .u32 0, .int .u32 0, .int .u32 0, .int .u32 0] by rw [hW2]; exact ROW8.out.far (by show w.heap.size ≠ R; omega) _)
        have HFM2 := Lib.hid (show Fm R d w W2 by rw [hW2]; exact (Fm.below HAL.out).trans (Fm.setR _ _ _))
        have hsz2 : w.heap.size < W2.heap.size := by rw [hW2]; simp
        rw [← hW2] at HRP2
        rw [show s * 27 + 22 + 2 = s * 27 + 24 from rfl, ← hW2]
        have el := HRP2.out.gr.ln s hs
        have ep := HRP2.out.c22 s hs
        rw [upd_self] at ep
        simp only at ep
        rw [← HR.out] at ep
        rw [← HRI.out] at el
        have hqp : 0 ≤ qp ∧ qp ≤ 4294967295 := by have := (HINV.out s hs).1; rw [← HQ.out] at this; exact this
        have hqd : 0 ≤ qd ∧ qd ≤ 4294967294 := by have := (HINV.out s hs).2.1; rw [← HQ.out] at this; exact this
        obtain ⟨ow, how⟩ : ∃ b, b = own g.tla s ⟨qp, qd, qs, qi⟩ := ⟨_, rfl⟩
        have HOW := Lib.hid how
        clear hW2 how
        go_cut [66] (fun s66 wx => s66 = .bool ow ∧ Below W2.heap.size W2 wx)
        case first =>
          cases ht : g.tla s with
          | false =>
            have HE := Lib.hid (show ow = false by rw [HOW.out]; unfold own; rw [ht]; rfl)
            simp only [ht, Bool.false_eq_true, if_false] at el
            clear ht
            go_wp2_with fail
            go_meet
            case rel => exact ⟨by rw [HE.out], Below.refl _ _⟩
          | true =>
            simp only [ht, if_true] at el
            have K26 := Lib.hid (get26 qp W2 hqp)
            by_cases he : 4294967295 - qp = (s : Int)
            · have HE := Lib.hid (show ow = false by rw [HOW.out]; unfold own; rw [ht]; simp [idx, he])
              have t1 : (4294967295 - qp != (s : Int)) = false := by simp [he]
              clear ht he
              go_wp2_with fail
              refine K26.out.mono ?_
              rintro e wx ⟨rfl, hbx⟩
              have HBX := Lib.hid hbx
              clear hbx
              go_wp2_with fail
              go_meet
              case rel => exact ⟨by rw [HE.out], HBX.out⟩
            · have HE := Lib.hid (show ow = true by rw [HOW.out]; unfold own; rw [ht]; simp [idx, he])
              have t1 : (4294967295 - qp != (s : Int)) = true := by simp [he]
              clear ht he
              go_wp2_with fail
              refine K26.out.mono ?_
              rintro e wx ⟨rfl, hbx⟩
              have HBX := Lib.hid hbx
              clear hbx
              go_wp2_with fail
              go_meet
              case rel => exact ⟨by rw [HE.out], HBX.out⟩
        case rest =>
        obtain ⟨rfl, hb3⟩ := hcut
        have HRP3 := Lib.hid (HRP2.out.below hb3)
        have HFM3 := Lib.hid (HFM2.out.trans (Fm.below hb3))
        have HROW3 := Lib.hid (HROW2.out.below hb3 hsz2)
        have hsz3 : w.heap.size < wc.heap.size := Nat.lt_of_lt_of_le hsz2 hb3.size
        obtain ⟨Q2, hQ2⟩ : ∃ x, x = ent g.tla pass s ⟨qp, qd, qs, qi⟩ := ⟨_, rfl⟩
        have HQ2 := Lib.hid hQ2
        have HSD := Lib.hid (show (0 : Int) ≤ s ∧ (s : Int) ≤ 4294967295 by omega)
        clear hb3 el ep HRP2 HFM2 HROW2 hsz2 hQ2
        go_upto_if 66 with fail
        go_cut [] (fun wx => Rp g B d (upd st s Q2) (dc || ow) wx ∧ Fm R d wc wx)
        case first =>
          cases ow with
          | false =>
            have HE := Lib.hid (show Rp g B d (upd st s Q2) (dc || false) wc by rw [HQ2.out, ent_false HOW.out.symm, Bool.or_false]; exact HRP3.out)
            go_wp2_with fail
            go_meet
            case rel => exact ⟨HE.out, Fm.refl _ _ _⟩
          | true =>
            have HE := Lib.hid (show Q2 = ⟨4294967295 - s, 4294967294, pass, qi⟩ by rw [HQ2.out, ent_true HOW.out.symm])
            have K12 := Lib.hid (make12 (s : Int) wc HSD.out)
            go_wp2_with fail
            refine K12.out.mono ?_
            rintro e w4 ⟨rfl, hb4⟩
            have hr4 := HRP3.out.below hb4
            have c22 := hr4.c22 s hs
            have f22 := hr4.fr (s * 27 + 22)
            rw [← HR.out] at c22 f22
            rw [upd_self] at c22
            have hr5 := hr4.row hs 22 (by omega) (4294967295 - (s : Int)) ⟨4294967295 - s, qd, pass, qi⟩ (by rw [if_pos rfl]) (by rw [upd_self]; rfl) (by rw [upd_self]; rfl) (by rw [upd_self]; rfl)
            rw [upd_upd, ← HR.out] at hr5
            have hf5 := (Fm.below hb4 : Fm R d wc w4).trans (Fm.setR w4 (s * 27 + 22) (.int .u32 (4294967295 - (s : Int))))
            have HR5 := Lib.hid hr5
            have HF5 := Lib.hid hf5
            clear hr4 hr5 hf5 hb4 K12
            go_wp2_with fail
            clear c22 f22
            obtain ⟨w5, hw5⟩ : ∃ x, x = w4.setCell ⟨R, s * 27 + 22, none⟩ (.int .u32 (4294967295 - (s : Int))) := ⟨_, rfl⟩
            rw [← hw5] at HR5 HF5
            rw [← hw5]
            clear hw5
            refine (mk12c w5).mono ?_
            rintro e w6 ⟨rfl, hb6⟩
            have hr6 := HR5.out.below hb6
            have c23 := hr6.c23 s hs
            have f23 := hr6.fr (s * 27 + 23)
            rw [← HR.out] at c23 f23
            have hr7 := hr6.row hs 23 (by omega) 4294967294 ⟨4294967295 - s, 4294967294, pass, qi⟩ (by rw [upd_self]; rfl) (by rw [if_pos rfl]) (by rw [upd_self]; rfl) (by rw [upd_self]; rfl)
            rw [upd_upd, ← HR.out] at hr7
            have hf7 := (HF5.out.trans (Fm.below hb6)).trans (Fm.setR w6 (s * 27 + 23) (.int .u32 4294967294))
            have cd := hr7.dc
            have fd := hr7.df
            have HR8 := Lib.hid (hr7.mark true)
            have HF8 := Lib.hid (hf7.trans (Fm.setd _ 0 (.bool true)))
            rw [← HE.out] at HR8
            clear hr6 hr7 hf7 hb6 HR5 HF5
            go_wp2_with fail
            go_meet
            case rel => exact ⟨by rw [Bool.or_true]; exact HR8.out, HF8.out⟩
        case rest =>
        obtain ⟨hr9, hf9⟩ := hcut
        have hlp : Lp g B d pass w st dc s wc := ⟨_, _, hr9, by rw [HQ2.out, HQ.out]; exact HINV1.out, by rw [HQ2.out, HOW.out, HQ.out]; exact HREL1.out, by rw [upd_self, HQ2.out]; exact ent_pas _ _, by rw [upd_self, HQ2.out, HQ.out]; exact HPAR1.out, by rw [← HR.out]; exact HFM3.out.trans hf9, Row.fm HROW3.out hf9 (by omega) (by omega)⟩
        have el := hr9.gr.rs s hs
        obtain ⟨A, hA⟩ : ∃ x, x = g.ra s := ⟨_, rfl⟩
        obtain ⟨l, hl⟩ : ∃ x, x = g.rl s := ⟨_, rfl⟩
        obtain ⟨c, hc⟩ : ∃ x, x = g.rc s := ⟨_, rfl⟩
        rw [← HRI.out, ← hA, ← hl, ← hc] at el
        have HA := Lib.hid hA
        have HL := Lib.hid hl
        have hl4 : l ≤ 4096 := by rw [hl]; exact HF.out.rl s hs
        have HLP := Lib.hid hlp
        clear hr9 hf9 hlp hA hl hc HRP3 HFM3 HROW3 hsz3 HINV1 HREL1 HPAR1 HQ2 HOW HRP HINV HAL ROW8 HR1
        go_upto_region 11 with fail
        clear el
        go_loopw [86] (fun i wr => ∃ j : Nat, j ≤ l ∧ i = .int .i64 (j : Int) ∧ Lp g B d pass w st dc s wr) (fun i _ => l - (intOf i).toNat)
        case atStart => exact ⟨0, Nat.zero_le _, rfl, HLP.out⟩
        case round =>
          clear HLP
          obtain ⟨j, hj, rfl, stc, dcc, hrp, hinv, hrel, hpas, hpar, hfm, hrow⟩ := hrel
          have HRP := Lib.hid hrp
          have HINV := Lib.hid hinv
          have HREL := Lib.hid hrel
          have HPAS := Lib.hid hpas
          have HPAR := Lib.hid hpar
          have HFM := Lib.hid (show Fm R d w wr by rw [HR.out]; exact hfm)
          have HROW := Lib.hid hrow
          clear hinv hrel hpas hpar hfm hrow
          have hgn := HF.out.n
          by_cases hlt : j < l
          · obtain ⟨b, o, ha, hbB, hbR, hcell⟩ := hrp.gr.recs s hs j (by rw [← HL.out]; exact hlt)
            rw [← HA.out] at ha
            subst ha
            obtain ⟨t, ht, hx⟩ := HF.out.rx s hs j (by rw [← HL.out]; exact hlt)
            have hk := HF.out.rk s hs j (by rw [← HL.out]; exact hlt)
            rw [hx] at hcell
            obtain ⟨k, hkk⟩ : ∃ k, k = g.rk s j := ⟨_, rfl⟩
            rw [← hkk] at hcell hk
            have HT := Lib.hid hx
            have q0 : wr.cell? ⟨b, o + j * 15, none⟩ = _ := hcell 0 _ rfl
            have q1 : wr.cell? ⟨b, o + j * 15 + 1, none⟩ = _ := hcell 1 _ rfl
            have q2 : wr.cell? ⟨b, o + j * 15 + 2, none⟩ = _ := hcell 2 _ rfl
            have q3 : wr.cell? ⟨b, o + j * 15 + 3, none⟩ = _ := hcell 3 _ rfl
            have q4 : wr.cell? ⟨b, o + j * 15 + 4, none⟩ = _ := hcell 4 _ rfl
            have q5 : wr.cell? ⟨b, o + j * 15 + 5, none⟩ = _ := hcell 5 _ rfl
            have q6 : wr.cell? ⟨b, o + j * 15 + 6, none⟩ = _ := hcell 6 _ rfl
            have q7 : wr.cell? ⟨b, o + j * 15 + 7, none⟩ = _ := hcell 7 _ rfl
            have q8 : wr.cell? ⟨b, o + j * 15 + 8, none⟩ = _ := hcell 8 _ rfl
            have q9 : wr.cell? ⟨b, o + j * 15 + 9, none⟩ = _ := hcell 9 _ rfl
            have q10 : wr.cell? ⟨b, o + j * 15 + 10, none⟩ = _ := hcell 10 _ rfl
            have q11 : wr.cell? ⟨b, o + j * 15 + 11, none⟩ = _ := hcell 11 _ rfl
            have q12 : wr.cell? ⟨b, o + j * 15 + 12, none⟩ = _ := hcell 12 _ rfl
            have q13 : wr.cell? ⟨b, o + j * 15 + 13, none⟩ = _ := hcell 13 _ rfl
            have q14 : wr.cell? ⟨b, o + j * 15 + 14, none⟩ = _ := hcell 14 _ rfl
            clear hcell hx hkk hrp
            have hx0 : 0 ≤ 4294967295 - (t : Int) ∧ 4294967295 - (t : Int) ≤ 4294967295 := by omega
            obtain ⟨x, hx⟩ : ∃ x, x = 4294967295 - (t : Int) := ⟨_, rfl⟩
            rw [← hx] at q10 hx0
            have HX := Lib.hid hx
            have tx : (x != 0) = true := by simp; omega
            clear hx
            go_wp2_with fail
            clear q0 q1 q2 q3 q4 q5 q6 q7 q8 q9 q10 q11 q12 q13 q14
            have hb3 : Below wr.heap.size wr (wr.alloc (.cells #[.pointer none, .pointer none, .string ByteArray.empty, .string ByteArray.empty, .string ByteArray.empty, .string ByteArray.empty, .int .u8 0, .int .i32 0, .int .i32 0, .int .i32 0, .int .u32 x, .int .u32 0, .int .u16 0, .int .u8 0, .int .u8 k] 58)) := (Below.refl _ _).alloc (Nat.le_refl _) _
            have row3 := Row.newArr wr 58 #[.pointer none, .pointer none, .string ByteArray.empty, .string ByteArray.empty, .string ByteArray.empty, .string ByteArray.empty, .int .u8 0, .int .i32 0, .int .i32 0, .int .i32 0, .int .u32 x, .int .u32 0, .int .u16 0, .int .u8 0, .int .u8 k]
            obtain ⟨W3, hW3⟩ : ∃ y, y = wr.alloc (.cells #[.pointer none, .pointer none, .string ByteArray.empty, .string ByteArray.empty, .string ByteArray.empty, .string ByteArray.empty, .int .u8 0, .int .i32 0, .int .i32 0, .int .i32 0, .int .u32 x, .int .u32 0, .int .u16 0, .int .u8 0, .int .u8 k] 58) := ⟨_, rfl⟩
            obtain ⟨bk, hbk⟩ : ∃ y, y = wr.heap.size := ⟨_, rfl⟩
            have hdw := HRP.out.dB
            have hbkR : bk ≠ R := by omega
            have hbkd : bk ≠ d := by omega
            have hrw := HROW.out.lt
            rw [← hW3, ← hbk] at row3
            rw [← hW3] at hb3
            rw [← hW3, ← hbk]
            have hbk3 := row3.lt
            refine (val27 x W3 true tx).mono ?_
            rintro e w4 ⟨rfl, hb4⟩
            have ROW4 := Lib.hid (row3.below hb4 row3.lt)
            have k10 := ROW4.out.at_ (i := 10) rfl
            have k14 := ROW4.out.at_ (i := 14) rfl
            have HB4 := Lib.hid (hb3.trans (hb4.mono hb3.size))
            have hbk4 := ROW4.out.lt
            clear hW3 hbk hb3 hb4 row3 hbk3 tx
            have RP4 := Lib.hid (HRP.out.below HB4.out)
            have HFM4 := Lib.hid (HFM.out.trans (Fm.below HB4.out))
            have HROW4' := Lib.hid (HROW.out.below HB4.out HROW.out.lt)
            clear HRP HFM HROW
            obtain hk1 | hk2 | hk3 : k = 1 ∨ k = 2 ∨ k = 3 := by omega
            · subst hk1
              go_wp2_with fail
              refine (get26t HX.out hx0 w4).mono ?_
              rintro e w5 ⟨rfl, hb5⟩
              have RP5 := Lib.hid (RP4.out.below hb5)
              have HFM5 := Lib.hid (HFM4.out.trans (Fm.below hb5))
              have HROW5 := Lib.hid (HROW4'.out.below hb5 HROW4'.out.lt)
              have ROW5 := Lib.hid (ROW4.out.below hb5 hbk4)
              clear hb5 k10 k14 ROW4 RP4 HFM4 HROW4'
              have hun : unv g.n g.ok pass stc < N := by
                have h1 := unv_lt HREL.out hs HOK.out (by rw [← HQ.out]; exact hps) HPAS.out
                have h2 := HN.out
                omega
              have hih := IH.out w5 stc dcc t hun RP5.out HINV.out ht
              rw [← HS.out] at hih
              have HIH := Lib.hid hih
              clear hih hun
              go_wp2_with fail
              refine HIH.out.mono ?_
              rintro e w6 ⟨st6, dc6, rfl, hr6, hi6, hrel6, hps6, hf6⟩
              have hs6 := hrel6.keep s hs HPAS.out
              rw [← HR.out] at hf6
              have ROW6 := Lib.hid (Row.fm ROW5.out hf6 hbkR hbkd)
              have HROW6 := Lib.hid (Row.fm HROW5.out hf6 (by omega) (by omega))
              have HFM6 := Lib.hid (HFM5.out.trans hf6)
              have HREL6 := Lib.hid (HREL.out.trans hrel6)
              have HI6 := Lib.hid hi6
              have HPAS6 := Lib.hid (show (st6 s).pas = pass by rw [hs6]; exact HPAS.out)
              have HPAR6 := Lib.hid (show g.tla s = true → idx (st6 s).par = s by rw [hs6]; exact HPAR.out)
              obtain ⟨q6, hq6⟩ : ∃ y, y = st6 t := ⟨_, rfl⟩
              rw [← hq6]
              have HQ6 := Lib.hid hq6
              obtain ⟨p6, d6, a6, i6⟩ := q6
              unfold tv
              simp only
              have hb7 : Below w6.heap.size w6 (w6.alloc (.cells #[.int .u32 p6, .int .u32 d6, .int .u32 a6, .int .u32 i6] 121)) := (Below.refl _ _).alloc (Nat.le_refl _) _
              have RP7 := Lib.hid (hr6.below hb7)
              have HFM7 := Lib.hid (HFM6.out.trans (Fm.below hb7))
              have HROW7 := Lib.hid (HROW6.out.below hb7 HROW6.out.lt)
              have ROW7 := Lib.hid (ROW6.out.below hb7 ROW6.out.lt)
              have k14 := ROW6.out.at_ (i := 14) rfl
              have k14b := ROW7.out.at_ (i := 14) rfl
              have k10b := ROW7.out.at_ (i := 10) rfl
              clear hq6 hr6 hi6 hrel6 hps6 hf6 hs6 RP5 HFM5 HROW5 ROW5 HIH HROW6 ROW6 HREL HINV HPAS HPAR
              have row14 := Row.newArr w6 121 #[.int .u32 p6, .int .u32 d6, .int .u32 a6, .int .u32 i6]
              obtain ⟨W7, hW7⟩ : ∃ y, y = w6.alloc (.cells #[.int .u32 p6, .int .u32 d6, .int .u32 a6, .int .u32 i6] 121) := ⟨_, rfl⟩
              obtain ⟨b14, hb14⟩ : ∃ y, y = w6.heap.size := ⟨_, rfl⟩
              have hsd := HI6.out s hs
              have htd := HI6.out t ht
              rw [← HQ6.out] at htd
              have e23 := RP7.out.c23 s hs
              rw [← HR.out] at e23
              obtain ⟨ds, hds⟩ : ∃ y, y = (st6 s).dep := ⟨_, rfl⟩
              rw [← hds] at e23 hsd
              have HDS := Lib.hid hds
              have hd6 : 0 ≤ d6 ∧ d6 ≤ 4294967294 := htd.2.1
              have hdsb : 0 ≤ ds ∧ ds ≤ 4294967294 := hsd.2.1
              obtain ⟨D6, hD6⟩ : ∃ y, y = 4294967295 - d6 := ⟨_, rfl⟩
              obtain ⟨DS, hDS⟩ : ∃ y, y = 4294967295 - ds := ⟨_, rfl⟩
              have KA := Lib.hid (fun W => get26 d6 W (by omega))
              have KB := Lib.hid (fun W => get26 ds W (by omega))
              rw [← hD6] at KA
              rw [← hDS] at KB
              have hDSb : 1 ≤ DS ∧ DS ≤ 4294967295 := by omega
              have hD6b : 1 ≤ D6 ∧ D6 ≤ 4294967295 := by omega
              have HD6 := Lib.hid hD6
              have HDD := Lib.hid hDS
              have wsub : IntKind.u32.wrap (DS - 1) = DS - 1 := IntWalk.u32_in _ (by omega)
              obtain ⟨lt, tlt⟩ : ∃ y, decide (D6 < DS - 1) = y := ⟨_, rfl⟩
              clear hD6 hDS
              have HSB14 := Lib.hid (show R < b14 by have := HFM6.out.size; omega)
              rw [← hW7, ← hb14] at row14
              rw [← hW7] at RP7 HFM7 HROW7 ROW7 k14b k10b e23
              have c14 := row14.at_ (i := 1) rfl
              have ROW14 := Lib.hid row14
              clear hds hsd htd hb7 row14
              go_upto_region 15 with fail
              rw [← hW7, ← hb14]
              clear hW7 hb14 k14
              have K0 := Lib.hid (And.intro c14 (And.intro k14b e23))
              go_cut [126] (fun s126 wx => s126 = .bool lt ∧ Below W7.heap.size W7 wx)
              case first =>
                clear c14 k14b e23 k10b
                have hbd : Below W7.heap.size W7 W7.drew := (Below.refl _ _).drew
                have HBD := Lib.hid hbd
                have K0' := Lib.hid (keep3 K0.out hbd)
                clear hbd
                go_region_held3 (fun w' => w'.cell? ⟨b14, 1, none⟩ = some (.int .u32 d6) ∧ w'.cell? ⟨bk, 14, none⟩ = some (.int .u8 1) ∧ w'.cell? ⟨R, s * 27 + 23, none⟩ = some (.int .u32 ds)) (first | exact K0'.out | exact KX.out | exact KY.out)
                  (first
                    | (go_at_call 26; (with_reducible refine (KA.out _).mono ?_); rintro e wX ⟨rfl, hbX⟩; have KX := Lib.hid (keep3 K0'.out hbX); have HBX := Lib.hid (HBD.out.trans (hbX.mono HBD.out.size)); clear hbX)
                    | (go_at_call 26; (with_reducible refine (KB.out _).mono ?_); rintro e wY ⟨rfl, hbY⟩; have KY := Lib.hid (keep3 KX.out hbY); have HBY := Lib.hid (HBX.out.trans (hbY.mono HBX.out.size)); clear hbY))
                all_goals
                  go_wp2_with fail
                  go_meet
                  case rel => exact ⟨rfl, HBY.out⟩
              case rest =>
              obtain ⟨rfl, hb8⟩ := hcut
              have RP8 := Lib.hid (RP7.out.below hb8)
              have HFM8 := Lib.hid (HFM7.out.trans (Fm.below hb8))
              have HROW8 := Lib.hid (HROW7.out.below hb8 HROW7.out.lt)
              have ROW8 := Lib.hid (ROW7.out.below hb8 ROW7.out.lt)
              have ROW15 := Lib.hid (ROW14.out.below hb8 ROW14.out.lt)
              clear RP7 HFM7 HROW7 ROW7 ROW14 K0 hb8 c14 k14b k10b e23 wsub KB
              cases lt with
              | false =>
                clear tlt
                go_wp2_with fail
                go_roundw
                case rel => exact ⟨j + 1, by omega, by go_num, st6, dc6, RP8.out, HI6.out, HREL6.out, HPAS6.out, HPAR6.out, by rw [← HR.out]; exact HFM8.out, HROW8.out⟩
                case measure => simp [intOf]; omega
              | true =>
                have hlt9 : D6 < DS - 1 := of_decide_eq_true tlt
                have et : idx (st6 t).dep = D6 := by rw [← HQ6.out]; exact HD6.out.symm
                have es : idx (st6 s).dep = DS := by rw [← HDS.out]; exact HDD.out.symm
                obtain ⟨hrel9, hinv9, htl⟩ := Rel.shallow HREL6.out HI6.out hs ht (by rw [← HQ.out]; exact hps) HPAS6.out HPAR6.out (x := x) (y := (j : Int)) hx0 ⟨by omega, by omega⟩ (by rw [et, es]; exact hlt9)
                rw [et] at hrel9 hinv9
                have HREL9 := Lib.hid hrel9
                have HINV9 := Lib.hid hinv9
                have HTL := Lib.hid htl
                have wadd : IntKind.u32.wrap (D6 + 1) = D6 + 1 := IntWalk.u32_in _ (by omega)
                have wj : IntKind.u32.wrap (j : Int) = (j : Int) := IntWalk.u32_in _ (by omega)
                have K12 := Lib.hid (fun W => make12 (D6 + 1) W (by omega))
                have hb14R : b14 ≠ R := by have := HSB14.out; omega
                have c14 := ROW15.out.at_ (i := 1) rfl
                have c10 := ROW8.out.at_ (i := 10) rfl
                have c22 := RP8.out.c22 s hs
                have f22 := RP8.out.fr (s * 27 + 22)
                have ha := RP8.out.row hs 22 (by omega) x ⟨x, (st6 s).dep, (st6 s).pas, (st6 s).iri⟩ rfl rfl rfl rfl
                rw [← HR.out] at c22 f22 ha
                obtain ⟨wa, hwa⟩ : ∃ y, y = wc.setCell ⟨R, s * 27 + 22, none⟩ (.int .u32 x) := ⟨_, rfl⟩
                have hfa := Fm.setR (R := R) (d := d) wc (s * 27 + 22) (.int .u32 x)
                have KAa := KA.out wa
                rw [← hwa] at ha hfa
                have HA9 := Lib.hid ha
                have HFA := Lib.hid hfa
                clear tlt hrel9 hinv9 htl et es ha hfa hlt9
                obtain ⟨y22, hy22⟩ : ∃ y, y = (st6 s).par := ⟨_, rfl⟩
                rw [← hy22] at c22
                clear hy22
                go_wp2_with fail
                rw [← hwa]
                refine KAa.mono ?_
                rintro e wb ⟨rfl, hbb⟩
                have HRb := Lib.hid (HA9.out.below hbb)
                have HFb := Lib.hid (HFA.out.trans (Fm.below hbb))
                clear hbb HA9 HFA hwa c14 c10 c22 f22 KAa
                go_wp2_with fail
                refine (K12.out wb).mono ?_
                rintro e wd ⟨rfl, hbd⟩
                have hrd := HRb.out.below hbd
                have hfd := HFb.out.trans (Fm.below hbd)
                have c23 := hrd.c23 s hs
                have f23 := hrd.fr (s * 27 + 23)
                have c25 := hrd.c25 s hs
                have f25 := hrd.fr (s * 27 + 25)
                have cd := hrd.dc
                have fd := hrd.df
                rw [upd_self] at c23 c25
                simp only at c23 c25
                have hr23 := hrd.row hs 23 (by omega) (4294967295 - (D6 + 1)) ⟨x, 4294967295 - (D6 + 1), (st6 s).pas, (st6 s).iri⟩ (by rw [upd_self]; rfl) rfl (by rw [upd_self]; rfl) (by rw [upd_self]; rfl)
                rw [upd_upd] at hr23
                have hr25 := hr23.row hs 25 (by omega) (j : Int) ⟨x, 4294967295 - (D6 + 1), (st6 s).pas, (j : Int)⟩ (by rw [upd_self]; rfl) (by rw [upd_self]; rfl) (by rw [upd_self]; rfl) rfl
                rw [upd_upd, HPAS6.out] at hr25
                have HR9 := Lib.hid (hr25.mark true)
                rw [← HR.out] at c23 f23 c25 f25 HR9
                have HF9 := Lib.hid ((hfd.trans (Fm.setR wd (s * 27 + 23) (.int .u32 (4294967295 - (D6 + 1))))).trans ((Fm.setR _ (s * 27 + 25) (.int .u32 (j : Int))).trans (Fm.setd _ 0 (.bool true))))
                have HROW9 := Lib.hid (Row.fm HROW8.out HF9.out (by omega) (by omega))
                obtain ⟨y23, hy23⟩ : ∃ y, y = (st6 s).dep := ⟨_, rfl⟩
                obtain ⟨y25, hy25⟩ : ∃ y, y = (st6 s).iri := ⟨_, rfl⟩
                rw [← hy23] at c23
                rw [← hy25] at c25
                clear hy23 hy25 hrd hfd hr23 hr25 hbd HRb HFb
                go_wp2_with fail
                go_roundw
                case rel => exact ⟨j + 1, by omega, by go_num, _, true, HR9.out, HINV9.out, HREL9.out, by rw [upd_self], (fun h => absurd (HTL.out.symm.trans h) (by decide)), by rw [← HR.out]; exact HFM8.out.trans HF9.out, HROW9.out⟩
                case measure => simp [intOf]; omega
            · subst hk2
              go_wp2_with fail
              refine (get26t HX.out hx0 w4).mono ?_
              rintro e w5 ⟨rfl, hb5⟩
              have RP5 := Lib.hid (RP4.out.below hb5)
              have HFM5 := Lib.hid (HFM4.out.trans (Fm.below hb5))
              have HROW5 := Lib.hid (HROW4'.out.below hb5 HROW4'.out.lt)
              have ROW5 := Lib.hid (ROW4.out.below hb5 hbk4)
              clear hb5 k10 k14 ROW4 RP4 HFM4 HROW4'
              have hun : unv g.n g.ok pass stc < N := by
                have h1 := unv_lt HREL.out hs HOK.out (by rw [← HQ.out]; exact hps) HPAS.out
                have h2 := HN.out
                omega
              have hih := IH.out w5 stc dcc t hun RP5.out HINV.out ht
              rw [← HS.out] at hih
              have HIH := Lib.hid hih
              clear hih hun
              go_wp2_with fail
              refine HIH.out.mono ?_
              rintro e w6 ⟨st6, dc6, rfl, hr6, hi6, hrel6, hps6, hf6⟩
              have hs6 := hrel6.keep s hs HPAS.out
              rw [← HR.out] at hf6
              have ROW6 := Lib.hid (Row.fm ROW5.out hf6 hbkR hbkd)
              have HROW6 := Lib.hid (Row.fm HROW5.out hf6 (by omega) (by omega))
              have HFM6 := Lib.hid (HFM5.out.trans hf6)
              have HREL6 := Lib.hid (HREL.out.trans hrel6)
              have HI6 := Lib.hid hi6
              have HPAS6 := Lib.hid (show (st6 s).pas = pass by rw [hs6]; exact HPAS.out)
              have HPAR6 := Lib.hid (show g.tla s = true → idx (st6 s).par = s by rw [hs6]; exact HPAR.out)
              obtain ⟨q6, hq6⟩ : ∃ y, y = st6 t := ⟨_, rfl⟩
              rw [← hq6]
              have HQ6 := Lib.hid hq6
              obtain ⟨p6, d6, a6, i6⟩ := q6
              unfold tv
              simp only
              have hb7 : Below w6.heap.size w6 (w6.alloc (.cells #[.int .u32 p6, .int .u32 d6, .int .u32 a6, .int .u32 i6] 121)) := (Below.refl _ _).alloc (Nat.le_refl _) _
              have RP7 := Lib.hid (hr6.below hb7)
              have HFM7 := Lib.hid (HFM6.out.trans (Fm.below hb7))
              have HROW7 := Lib.hid (HROW6.out.below hb7 HROW6.out.lt)
              have ROW7 := Lib.hid (ROW6.out.below hb7 ROW6.out.lt)
              have k14 := ROW6.out.at_ (i := 14) rfl
              have k14b := ROW7.out.at_ (i := 14) rfl
              have k10b := ROW7.out.at_ (i := 10) rfl
              clear hq6 hr6 hi6 hrel6 hps6 hf6 hs6 RP5 HFM5 HROW5 ROW5 HIH HROW6 ROW6 HREL HINV HPAS HPAR
              clear hb7 HQ6 ROW7 k10b
              go_wp2_with fail
              go_quiet (fail)
              go_wp2_with fail
              go_roundw
              case rel => exact ⟨j + 1, by omega, by go_num, st6, dc6, RP7.out.below (below_drewN (Below.refl _ _) _), HI6.out, HREL6.out, HPAS6.out, HPAR6.out, by rw [← HR.out]; exact HFM7.out.trans (Fm.below (below_drewN (Below.refl _ _) _)), HROW7.out.below (below_drewN (Below.refl _ _) _) HROW7.out.lt⟩
              case measure => simp [intOf]; omega
            · subst hk3
              go_wp2_with fail
              go_roundw
              case rel => exact ⟨j + 1, by omega, by go_num, stc, dcc, RP4.out, HINV.out, HREL.out, HPAS.out, HPAR.out, by rw [← HR.out]; exact HFM4.out, HROW4'.out⟩
              case measure => simp [intOf]; omega
          · have c22 := hrp.c22 s hs
            have c23 := hrp.c23 s hs
            have c24 := hrp.c24 s hs
            have c25 := hrp.c25 s hs
            have hdw := hrp.dB
            obtain ⟨y, hy⟩ : ∃ y, y = stc s := ⟨_, rfl⟩
            rw [← hy] at c22 c23 c24 c25
            have HY := Lib.hid hy
            obtain ⟨yp, yd, ya, yi⟩ := y
            simp only at c22 c23 c24 c25
            rw [← HR.out] at c22 c23 c24 c25
            have r0 := HROW.out.at_ (i := 0) rfl
            have r1 := HROW.out.at_ (i := 1) rfl
            have r2 := HROW.out.at_ (i := 2) rfl
            have r3 := HROW.out.at_ (i := 3) rfl
            have g0 := HROW.out.frozen 0
            have g1 := HROW.out.frozen 1
            have g2 := HROW.out.frozen 2
            have g3 := HROW.out.frozen 3
            obtain ⟨b8, hb8⟩ : ∃ x, x = w.heap.size := ⟨_, rfl⟩
            have HB8 := Lib.hid hb8
            have hb8R : b8 ≠ R := by omega
            have hb8d : b8 ≠ d := by omega
            have hb8B : B ≤ b8 := by omega
            rw [← hb8] at r0 r1 r2 r3 g0 g1 g2 g3
            rw [← hb8]
            clear hrp hdw hy hb8
            go_wp2_with fail
            exact bodyPost_ret (v := tv ⟨yp, yd, ya, yi⟩) (by simp [results, Tryz.results22, go_sem, tv, r0, r1, r2, r3]) rfl ⟨stc, dcc, by rw [← HY.out], (((HRP.out.far hb8B hb8d _).far hb8B hb8d _).far hb8B hb8d _).far hb8B hb8d _, HINV.out, HREL.out, fun _ => HPAS.out, by rw [← HR.out]; exact (((HFM.out.setNew (Nat.le_of_eq HB8.out.symm) _).setNew (Nat.le_of_eq HB8.out.symm) _).setNew (Nat.le_of_eq HB8.out.symm) _).setNew (Nat.le_of_eq HB8.out.symm) _⟩
end Go.Proofs.YtbcplamfejihjaaGreat.TlR
