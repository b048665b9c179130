/- FnCookedAndRawTemplateContentsWhole: the decoder. -/
import Derived.Test.YtalpfbbceggcaaaDoorCwN
import Derived.Test.YtalpfbbceggcaaaDoorCwS
import Derived.Test.YtalpfbbceggcaaaDoorCwDa
import Derived.Test.YtalpfbbceggcaaaDoorCwDb
import Derived.Test.YtalpfbbceggcaaaDoorCwDc
import Derived.Test.YtalpfbbceggcaaaDoorCwDd
import Derived.Test.YtalpfbbceggcaaaDoorCwDe
import Derived.Test.YtalpfbbceggcaaaDoorCwDf
import Derived.Test.YtalpfbbceggcaaaDoorCwDg
import Derived.Great.BuildSlice
import Derived.Deep.DeepCutAuto
import Derived.Deep.CutBlock
import Derived.OwnWalk
import Derived.WalkKit
import Derived.ProofKit
import Derived.OpenShut
import Derived.Below
import Derived.WalkLawsBesides
import Derived.Lib.Hide
import Derived.Outline
import Derived.RegionTactic
import Derived.Deep.QuietTactic
import Derived.BigQuiet
import Derived.WalkSpells
import Derived.Deep.OwnRows
import Derived.IntWalk
import Derived.Deep.DeepMust
namespace Go.Proofs.YtalpfbbceggcaaaDoor.CwD
open Go.RowKit Mem Args Own Prn Str Dec Step CwP CwG CwK CwM CwU CwN CwO CwQ CwS
set_option linter.unusedVariables false
set_option linter.unusedSimpArgs false
/-- What a piece of the raw text does. -/
theorem item20 {w wr : World} {p : Nat} {f : Nat → Value} {t : ByteArray} {i : Nat} {us : List Int} {u : Int} {q : List Int} {K' : Act → World → Prop} {Q' : Exit → Act → World → Prop} (hF : Frm u q) (hub : 0 ≤ u ∧ u ≤ 65535)
    (h0 : f 0 = .pointer (some ⟨p, 0, none⟩)) (h2 : f 2 = .string t) (h12 : f 12 = .int .i64 (i : Int)) (HS : Hid (St w wr p 68 (f 11) us)) (HT : Hid (Txt t i q)) (hus : us.length ≤ 100000000) (hts : t.size ≤ 100000000)
    (HK : ∀ (a' : Act) (w' : World), RD w p 68 f (us ++ [u]) (i + q.length) a' w' → K' a' w')
    : Code.wp Tryd.prog (blkOf 1 Tryd.f20) (Exit.then K' Q') (fr f) wr := by
  cases hF with
  | x up h => exact CwDe.x20 h0 h2 h12 HS HT hus hts ⟨hub.1, h⟩ HK
  | u4 up => exact CwDf.u420 h0 h2 h12 HS HT hus hts hub HK
  | ub up z hz => exact CwDg.ub20 h0 h2 h12 HS HT hus hts hub hz HK
  | esc h =>
    have hc : u = 8 ∨ u = 9 ∨ u = 10 ∨ u = 11 ∨ u = 12 ∨ u = 13 := by
      unfold esc at h
      repeat (first | split at h | omega)
    rcases hc with rfl | rfl | rfl | rfl | rfl | rfl
    · exact CwDb.esc20_8 h0 h2 h12 HS HT hus hts HK
    · exact CwDb.esc20_9 h0 h2 h12 HS HT hus hts HK
    · exact CwDb.esc20_10 h0 h2 h12 HS HT hus hts HK
    · exact CwDb.esc20_11 h0 h2 h12 HS HT hus hts HK
    · exact CwDb.esc20_12 h0 h2 h12 HS HT hus hts HK
    · exact CwDb.esc20_13 h0 h2 h12 HS HT hus hts HK
  | idn h => exact CwDd.idn20 h0 h2 h12 HS HT hus hts hub h HK
  | lf h =>
    subst h
    exact CwDa.plain20 (u := 10) h0 h2 h12 HS HT hus hts hub (by decide) (by decide) (by decide) HK
  | raw h =>
    have hr : 32 ≤ u ∧ u ≤ 126 ∧ u ≠ 92 := by unfold rawA at h; simp only [decide_eq_true_eq] at h; omega
    have e : [u] = utf u := by unfold utf; rw [if_pos (by omega)]
    have HT' : Hid (Txt t i (utf u)) := by rw [← e]; exact HT
    exact CwDa.plain20 h0 h2 h12 HS HT' hus hts hub (by simp [sur]; omega) (by omega) (by omega) (by rw [← e]; exact HK)
  | utf h hs => exact CwDa.plain20 h0 h2 h12 HS HT hus hts hub hs (by omega) (by omega) HK
/-- The loop's state. -/
def ID (w : World) (p : Nat) (f : Nat → Value) (S V : List Int) (a' : Act) (w' : World) : Prop :=
  ∃ (g : Nat → Value) (a b us vs : List Int), S = a ++ b ∧ V = us ++ vs ∧ Dec b vs ∧ g 0 = f 0 ∧ g 1 = f 1 ∧ g 2 = f 2 ∧ g 3 = f 3 ∧ g 12 = .int .i64 (a.length : Int) ∧ Hid (St w w' p 68 (g 11) us) ∧ a' = fr g
set_option maxRecDepth 100000 in
set_option maxHeartbeats 40000000 in
theorem loop20 {w wr : World} {p : Nat} {f : Nat → Value} {S V : List Int} {K' : Act → World → Prop} {Q' : Exit → Act → World → Prop}
    (h0 : f 0 = .pointer (some ⟨p, 0, none⟩)) (h2 : f 2 = .string (bytesOf S)) (h12 : f 12 = .int .i64 0) (HS : Hid (St w wr p 68 (f 11) [])) (hB : Hid (∀ z ∈ S, (Lit.int .u8 z).wf = true)) (hD : Dec S V) (hl : S.length ≤ 100000000) (hv : V.length ≤ 100000000)
    (HK : ∀ (a' : Act) (w' : World), RD w p 68 f V S.length a' w' → K' a' w')
    : Code.wp Tryd.prog (blkOf 0 Tryd.f20) (Exit.then K' Q') (fr f) wr := by
  conv => arg 2; whnf
  refine wp_block ?_
  refine wp_loop (ID w p f S V) (fun a' _ => S.length - (intOf (a'.tmps.toList.getD 12 undef)).toNat) ⟨f, [], S, [], V, rfl, rfl, hD, rfl, rfl, rfl, rfl, h12, HS, rfl⟩ ?_
  intro a' w1 hI
  obtain ⟨g, a, b, us, vs, hS, hV, hd, e0, e1, e2, e3, e12, HS1, rfl⟩ := hI
  clear h12 HS hD
  refine wp_then fun M hM => ?_
  rw [h0] at e0
  rw [h2] at e2
  have E1 := Lib.hid e1
  have E3 := Lib.hid e3
  have H0 := Lib.hid h0
  have H2 := Lib.hid h2
  have HL := Lib.hid (show S.length = a.length + b.length by rw [hS, List.length_append])
  have HVL := Lib.hid (show V.length = us.length + vs.length by rw [hV, List.length_append])
  obtain ⟨i, hi⟩ : ∃ i, i = a.length := ⟨_, rfl⟩
  rw [← hi] at e12
  have hsz : (bytesOf S).size = S.length := bytesOf_size S
  have HI := Lib.hid hi
  have HSS := Lib.hid hS
  clear e1 e3 h0 h2 hi hS
  cases hd with
  | nil =>
    have hil : ¬ (i : Int) < ((bytesOf S).size : Int) := by rw [hsz, HL.out, HI.out]; simp
    have HIE := Lib.hid (show i = S.length by rw [HL.out, HI.out]; rfl)
    have HVV := Lib.hid (show us = V by rw [hV]; simp)
    obtain ⟨v, hv2⟩ : ∃ v, v = g 11 := ⟨_, rfl⟩
    rw [← hv2] at HS1
    have HSZ := Lib.hid hsz
    clear hV hsz
    unfold fr
    rw [e0, e2, e12, ← hv2]
    clear hv2
    go_wp2_with fail
    exact RDi rfl rfl H0.out.symm E1.out H2.out.symm E3.out (by show Value.int .i64 (i : Int) = _; rw [HIE.out]) _ rfl (by rw [← HVV.out]; exact HS1)
  | @lc l b' vs' hl' hd' =>
    have hll : 2 ≤ l.length := by rcases hl' with rfl | rfl | rfl <;> decide
    have HT := Lib.hid (show Txt (bytesOf S) i l by
      have := txt_of a l b' (by rw [← HSS.out]; exact hB.out)
      rw [HI.out, HSS.out]; exact this)
    have hlb : S.length = i + l.length + b'.length := by rw [HL.out, HI.out, List.length_append]; omega
    have hil : (i : Int) < ((bytesOf S).size : Int) := by rw [hsz]; omega
    have HSZ := Lib.hid hsz
    have HD' := Lib.hid (And.intro hV (And.intro hd' hlb))
    have hul : us.length ≤ 100000000 := by have := HVL.out; omega
    have hts : (bytesOf S).size ≤ 100000000 := by rw [hsz]; exact hl
    clear hV hd' hlb hsz
    have HNX : Hid (∀ (a2 : Act) (w2 : World) (f2 : Nat → Value), f2 0 = g 0 → f2 1 = g 1 → f2 2 = g 2 → f2 3 = g 3 → RD w p 68 f2 us (i + l.length) a2 w2 → M a2 w2) := Lib.hid (by
      intro a2 w2 f2 m0 m1 m2 m3 hx
      obtain ⟨g2, n0, n1, n2, n3, n12, HS2, rfl⟩ := hx
      refine hM _ _ ⟨⟨g2, a ++ l, b', us, vs, by rw [HSS.out, List.append_assoc], HD'.out.1, HD'.out.2.1, (n0.trans (m0.trans e0)).trans H0.out.symm, (n1.trans m1).trans E1.out, (n2.trans (m2.trans e2)).trans H2.out.symm, (n3.trans m3).trans E3.out, by rw [n12, List.length_append, HI.out], HS2, rfl⟩, ?_⟩
      have q2 : ((fr g2).tmps.toList.getD 12 undef) = .int .i64 ((i + l.length : Nat) : Int) := n12
      have q1 : ((fr g).tmps.toList.getD 12 undef) = .int .i64 (i : Int) := e12
      have := HD'.out.2.2
      simp only [q1, q2, intOf]
      omega)
    have HGS := HS1
    obtain ⟨v, hv2⟩ : ∃ v, v = g 11 := ⟨_, rfl⟩
    rw [← hv2] at HS1
    have HV2 := Lib.hid hv2
    have G0 := Lib.hid e0
    have G2 := Lib.hid e2
    have G12 := Lib.hid e12
    unfold fr
    rw [e0, e2, e12]
    clear hv2 e0 e2 e12 hM
    go_upto_block 1 with fail
    refine wp_norm (wp_at rfl rfl ?_)
    rcases hl' with rfl | rfl | rfl
    · exact CwDc.lc20_lf (by rfl) (by rfl) (by rfl) (by exact HGS) HT hul hts (fun a2 w2 hx => HNX.out a2 w2 _ (by exact G0.out.symm) (by rfl) (by exact G2.out.symm) (by rfl) hx)
    · exact CwDc.lc20_ls (by rfl) (by rfl) (by rfl) (by exact HGS) HT hul hts (fun a2 w2 hx => HNX.out a2 w2 _ (by exact G0.out.symm) (by rfl) (by exact G2.out.symm) (by rfl) hx)
    · exact CwDc.lc20_ps (by rfl) (by rfl) (by rfl) (by exact HGS) HT hul hts (fun a2 w2 hx => HNX.out a2 w2 _ (by exact G0.out.symm) (by rfl) (by exact G2.out.symm) (by rfl) hx)
  | @pc u l b' vs' hF h00 h11 hd' =>
    have hll : 1 ≤ l.length := by
      cases hF <;> simp [u4, ub, utf]
      split <;> (try split) <;> simp
    have HT := Lib.hid (show Txt (bytesOf S) i l by
      have := txt_of a l b' (by rw [← HSS.out]; exact hB.out)
      rw [HI.out, HSS.out]; exact this)
    have hlb : S.length = i + l.length + b'.length := by rw [HL.out, HI.out, List.length_append]; omega
    have hil : (i : Int) < ((bytesOf S).size : Int) := by rw [hsz]; omega
    have HSZ := Lib.hid hsz
    have HD' := Lib.hid (And.intro hV (And.intro hd' hlb))
    have hul : us.length ≤ 100000000 := by have := HVL.out; omega
    have hts : (bytesOf S).size ≤ 100000000 := by rw [hsz]; exact hl
    clear hV hd' hlb hsz
    have HNX : Hid (∀ (a2 : Act) (w2 : World) (f2 : Nat → Value), f2 0 = g 0 → f2 1 = g 1 → f2 2 = g 2 → f2 3 = g 3 → RD w p 68 f2 (us ++ [u]) (i + l.length) a2 w2 → M a2 w2) := Lib.hid (by
      intro a2 w2 f2 m0 m1 m2 m3 hx
      obtain ⟨g2, n0, n1, n2, n3, n12, HS2, rfl⟩ := hx
      refine hM _ _ ⟨⟨g2, a ++ l, b', us ++ [u], vs', by rw [HSS.out, List.append_assoc], by rw [HD'.out.1, List.append_assoc]; rfl, HD'.out.2.1, (n0.trans (m0.trans e0)).trans H0.out.symm, (n1.trans m1).trans E1.out, (n2.trans (m2.trans e2)).trans H2.out.symm, (n3.trans m3).trans E3.out, by rw [n12, List.length_append, HI.out], HS2, rfl⟩, ?_⟩
      have q2 : ((fr g2).tmps.toList.getD 12 undef) = .int .i64 ((i + l.length : Nat) : Int) := n12
      have q1 : ((fr g).tmps.toList.getD 12 undef) = .int .i64 (i : Int) := e12
      have := HD'.out.2.2
      simp only [q1, q2, intOf]
      omega)
    have HGS := HS1
    have G0 := Lib.hid e0
    have G2 := Lib.hid e2
    have HF := Lib.hid hF
    unfold fr
    rw [e0, e2, e12]
    clear e0 e2 e12 hM hF
    go_upto_block 1 with fail
    refine wp_norm (wp_at rfl rfl ?_)
    exact item20 HF.out ⟨h00, h11⟩ (by rfl) (by rfl) (by rfl) (by exact HGS) HT hul hts (fun a2 w2 hx => HNX.out a2 w2 _ (by exact G0.out.symm) (by rfl) (by exact G2.out.symm) (by rfl) hx)
set_option maxRecDepth 100000 in
set_option maxHeartbeats 40000000 in
theorem dec20 (w : World) (p : Nat) (st : Int) (re : Bool) (S V : List Int) (hB : ∀ z ∈ S, (Lit.int .u8 z).wf = true) (hD : Dec S V) (hl : S.length ≤ 100000000) (hv : V.length ≤ 100000000) (hT : Lib.Utf8Tabs 1 2 w) (hp : p < w.heap.size) (hj : w.cell? ⟨p, 68, none⟩ = some (.int .u8 2)) :
    Calls Tryd.prog 20 #[.pointer (some ⟨p, 0, none⟩), .int .i64 st, .string (bytesOf S), .bool re] w fun e w' => ∃ v, e = .returned (.tuple #[v, .bool true, .int .i64 0]) ∧ Own w' w.heap.size 37 .u16 v V ∧ Below w.heap.size w w' := by
  obtain ⟨w1, hw1⟩ : ∃ w1, w1 = w.alloc (.cells #[] 37) := ⟨_, rfl⟩
  have o1 := own_made w w.heap.size 37 .u16 0 (Nat.le_refl _) (by decide)
  have em : madeCells #[.int .u16 0] 0 = (#[] : Array Value) := by simp [madeCells]
  rw [em, ← hw1] at o1
  have b1 : Below w.heap.size w w1 := by rw [hw1]; exact (Below.refl _ _).alloc (Nat.le_refl _) _
  have HS := Lib.hid (show St w w1 p 68 (.slice (some ⟨w.heap.size, 0, none⟩) 0 0) [] from ⟨o1, b1, hT, hp, hj⟩)
  have HW := Lib.hid hw1
  clear o1 em b1 hT hp hj hw1
  go_enter Tryd.func20, Tryd.ntmps20
  go_upto_region 2 with fail
  rw [← HW.out]
  go_upto_block 0 with fail
  refine wp_norm (wp_at rfl rfl ?_)
  refine loop20 (S := S) (V := V) (p := p) (w := w) (by rfl) (by rfl) (by rfl) (by exact HS) (Lib.hid hB) hD hl hv ?_
  intro a9 w9 hx
  obtain ⟨g, n0, n1, n2, n3, n12, HS9, rfl⟩ := hx
  obtain ⟨v, hv9⟩ : ∃ v, v = g 11 := ⟨_, rfl⟩
  rw [← hv9] at HS9
  have n2 : g 2 = .string (bytesOf S) := n2
  clear n0 n1 n3
  unfold fr
  rw [n2, n12, ← hv9]
  clear n2 n12 hv9
  go_wp2_with fail
  go_ret3
  exact ⟨v, rfl, HS9.out.own, HS9.out.bel⟩
end Go.Proofs.YtalpfbbceggcaaaDoor.CwD
