/- FnSortedCrossChunkImportsOrderFree: sortedCrossChunkImports. -/
import Derived.Test.YtfcpjckecjjmjaaSoT
import Derived.Deep.LoopGhost
import Derived.Deep.DeepCutAuto
import Derived.Great.BuildSlice
import Derived.WalkKit
import Derived.ProofKit
import Derived.OpenShut
import Derived.Below
import Derived.WalkLawsBesides
import Derived.Lib.Hide
import Derived.Outline
import Derived.RegionTactic
import Derived.Deep.QuietTactic
import Derived.BigQuiet
import Derived.WalkSpells
import Derived.Deep.OwnRows
import Derived.IntWalk
import Derived.Deep.DeepMust
namespace Go.Proofs.Ytfcpjckecjjmjaa.SoU
open Go.RowKit Go.Sort Go.MapKept Go.Maps Mem Args Fvs Fxs Tab MapK SoA SoX SoY SoG SoC SoE SoF SoI SoN SoT
set_option linter.unusedVariables false

/-- The result, as it lies. -/
def Out (w : World) (v : Value) (R : Array MRow) (D : Nat → Array IRow) : Prop :=
  ∃ g c, v = .slice (some ⟨g, 0, none⟩) R.size c ∧ Tb w g R.size 2 (fun i j => VM R[i]! j) ∧ ∀ p, p < R.size → (D p).size = R[p]!.2.1 ∧ Tb w R[p]!.1 R[p]!.2.1 3 (fun q j => VI (D p)[q]! j)
theorem len_run {w : World} {b : Nat} {esA : Array MapEntry} {cl : Nat} (h : w.heap[b]? = some (.map esA cl)) (ty : TypeId) : (Builtin.len_ #[31] ty #[.map (some b)]).run Try.prog w = .ok (.int .i64 (esA.size : Int)) w := by
  simp [Builtin.len_, run_underlying Try.underlying31, MapKept.run_getObj_map h, Result.andThen, goInt]
theorem assert75 (p : Nat) (w : World) : Sem.run Try.prog (Instr.typeAssert (.iface 75 (.pointer (some ⟨p, 0, none⟩))) 55 75 false) w = .ok (.pointer (some ⟨p, 0, none⟩)) w := by kernel_rfl
theorem nil_look (k : Value) (hk : KeyV Try.prog 43 k) (w : World) : (Instr.lookup 47 (.map none) k false).run Try.prog w = .ok (.string ByteArray.empty) w := by
  have hf : (Instr.findKey 43 k []).run Try.prog w = .ok none w := by
    rcases keyed43.find w hk.choose_spec [] (by simp) with ⟨h, _⟩ | ⟨j, e, _, h, _⟩
    · exact h
    · simp at h
  simp [Instr.lookup, run_underlying Try.underlying47, keyed43.check w _ hk.choose_spec, hf, zero9 w, Result.andThen]
theorem mx_look {w : World} {M : Option Nat} {F : Nat → Value → Option Value} {c x y : Int} (h : Mx w M (F c.toNat)) (hx : 0 ≤ x ∧ x ≤ 4294967295) (hy : 0 ≤ y ∧ y ≤ 4294967295) :
    Sem.run Try.prog (Instr.lookup 47 (.map M) (.agg #[.int .u32 x, .int .u32 y]) false) w = .ok (.string (alF F c x y)) w := by
  have hk := key_ref x y hx hy
  cases M with
  | none =>
    have := nil_look _ hk w
    rw [show alF F c x y = ByteArray.empty from by unfold alF; rw [h.1 rfl]]
    exact this
  | some b =>
    obtain ⟨n, hm⟩ := h.2.1 b rfl
    have := hm.look Try.underlying47 keyed43 hk (zero9 w)
    cases hf : F c.toNat (.agg #[.int .u32 x, .int .u32 y]) with
    | none =>
      rw [hf] at this
      rw [show alF F c x y = ByteArray.empty from by unfold alF; rw [hf]]
      exact this
    | some v =>
      obtain ⟨a, rfl⟩ := h.2.2 _ _ hf
      rw [hf] at this
      rw [show alF F c x y = a from by unfold alF; rw [hf]]
      exact this
theorem midR_full (al : Int → Int → ByteArray) (L : List (Int × Int)) : (midR al L L.length).toList.map (·.1) = L.map fun s => al s.1 s.2 := by
  refine List.ext_getElem (by simp [midR]) (fun i h1 h2 => ?_)
  have hi : i < L.length := by simpa using h2
  simp [midR, hi]
theorem St.rows0 {w wr : World} {b : Nat} {ps : List Ent} {es todo done : List MapEntry} {al : Int → Int → Int → ByteArray} {D : Int → Array IRow} {g c : Nat} (h : St w b ps es al todo done D (.slice (some ⟨g, 0, none⟩) done.length c) wr) : Tb wr g done.length 2 (fun i j => VM ((done.map rowOf).toArray)[i]! j) := by
  refine own_tb h.own _ (fun i j hi hj => ?_)
  have hx : (done.map rowOf)[i]? = some ((done.map rowOf).toArray)[i]! := by
    rw [getElem!_pos _ i (by simpa using hi)]
    simp
    exact ⟨done[i], List.getElem?_eq_getElem hi, rfl⟩
  obtain ⟨q1, q2⟩ := rM_at _ i _ hx
  have e : j = 0 ∨ j = 1 := by omega
  rcases e with rfl | rfl
  · exact q1
  · exact q2
theorem St.finish {w wr w' : World} {b : Nat} {ps : List Ent} {es done : List MapEntry} {al : Int → Int → Int → ByteArray} {D : Int → Array IRow} {g c : Nat} {R : Array MRow} (h : St w b ps es al [] done D (.slice (some ⟨g, 0, none⟩) done.length c) wr) (hE : Es w b ps es) (hb : b < w.heap.size)
    (hrw : Rw 2 VM g done.length wr w' R) (hp : R.toList.Perm (done.map rowOf)) (hs : SortedIn ltM 0 done.length R) :
    Out w' (.slice (some ⟨g, 0, none⟩) done.length c) R (fun p => D R[p]!.2.2.2) ∧ SoN.Good R (fun p => D R[p]!.2.2.2) ps al ∧ Below b w w' := by
  have hz := hrw.sz
  have hg := (own_lt h.own (g := g) rfl)
  have hpe : done.Perm es := by have := h.perm; rwa [List.append_nil] at this
  have rowAt : ∀ p, p < R.size → ∃ e, e ∈ done ∧ R[p]! = rowOf e := fun p hp' => by
    have : R[p]! ∈ R.toList := by rw [getElem!_pos R p hp']; exact Array.getElem_mem_toList hp'
    obtain ⟨e, he, h'⟩ := List.mem_map.1 (hp.mem_iff.1 this)
    exact ⟨e, he, h'.symm⟩
  have hck : (R.toList.map (·.2.2.2)).Perm (es.map ck) := by
    have h1 := hp.map (fun x : MRow => x.2.2.2)
    rw [List.map_map] at h1
    exact h1.trans (hpe.map ck)
  refine ⟨⟨g, c, by rw [hz], by rw [hz]; exact hrw.tb, fun p hp' => ?_⟩, ⟨hck.nodup_iff.2 hE.nodup, fun c' => hck.mem_iff.trans (hE.mem c'), by rw [hz]; exact hs, fun p hp' => ?_⟩, ?_⟩
  · obtain ⟨e, he, h'⟩ := rowAt p hp'
    have het := hpe.mem_iff.1 he
    show (D R[p]!.2.2.2).size = R[p]!.2.1 ∧ Tb w' R[p]!.1 R[p]!.2.1 3 (fun q j => VI (D R[p]!.2.2.2)[q]! j)
    rw [h']
    exact ⟨(h.tab e het).2, (h.tab e het).1.fx hrw.fx (by have := (hE.rng e het).2; omega)⟩
  · obtain ⟨e, he, h'⟩ := rowAt p hp'
    have het := hpe.mem_iff.1 he
    show SortedIn ltI 0 (D R[p]!.2.2.2).size (D R[p]!.2.2.2) ∧ ((D R[p]!.2.2.2).toList.map (·.1)).Perm _
    rw [h']
    obtain ⟨f1, f2⟩ := h.fin e he
    refine ⟨by rw [(h.tab e het).2]; exact f1, ?_⟩
    have := f2.map (fun x : IRow => x.1)
    rw [midR_full] at this
    exact this
  · exact h.bel.trans ⟨hrw.fx.os, hrw.fx.tape, hrw.fx.output, hrw.fx.size, fun j hj => hrw.fx.block j (by have := h.bel.size; omega) (fun e => by omega)⟩
set_option maxRecDepth 100000 in
set_option maxHeartbeats 2000000 in
theorem sort16 (x n b : Nat) (F : Nat → Value → Option Value) (ps : List Ent) (V : Int → Value) (w0 w : World) (hc : Cx w0 x n F) (h0 : Below w0.heap.size w0 w) (hb0 : w0.heap.size ≤ b) (hI : Im w b ps V)
    (hps : ∀ p ∈ ps, (0 ≤ p.1 ∧ p.1 < n) ∧ (0 ≤ p.2.1 ∧ p.2.1 ≤ 4294967295) ∧ (0 ≤ p.2.2 ∧ p.2.2 ≤ 4294967295)) (hl : ps.length ≤ 1024) (hn : n ≤ 65536) :
    Calls Try.prog 16 #[.pointer (some ⟨x, 0, none⟩), .map (some b)] w fun e w' => (∃ v R D, e = .returned v ∧ Out w' v R D ∧ SoN.Good R D ps (alF F)) ∧ Below b w w' := by
  obtain ⟨es, ⟨esA, cl, hA, hes, hst⟩, hE⟩ := es_of hI
  obtain ⟨NN, hNN⟩ : ∃ NN, NN = esA.size := ⟨_, rfl⟩
  have hNl : es.length = NN := by rw [hNN, ← hes]; simp
  have hNb : NN ≤ 1024 := by
    have h1 : (es.map ck).length ≤ (ps.map (·.1)).length := List.Nodup.length_le_of_subset hE.nodup (fun c hc => (hE.mem c).1 hc)
    simp only [List.length_map] at h1
    omega
  have hbw : b < w.heap.size := (Array.getElem?_eq_some_iff.1 hA).1
  have hlen := len_run hA
  rw [← hNN] at hlen
  obtain ⟨i39, hi39, hzz⟩ := Option.map_eq_some_iff.1 info39
  simp only [Prod.mk.injEq] at hzz
  obtain ⟨hz1, hz2, hz3⟩ := hzz
  have hmk := fun W => run_make (P := Try.prog) W 29 39 i39 _ Try.underlying29 hi39 hz1 .i64 .i64 0 (NN : Int) (by omega) (by omega) (by rw [hz3]; omega) (by omega)
  simp only [Int.toNat_zero, Int.toNat_natCast, hz2, Value.cells] at hmk
  clear hi39 hz1 hz2 hz3
  obtain ⟨w1, hw1⟩ : ∃ w1, w1 = w.alloc (.cells (madeCells #[.slice none 0 0, .int .u32 0] (NN * 2)) 39) := ⟨_, rfl⟩
  have hA1 : w1.heap[b]? = some (.map esA cl) := by rw [hw1]; exact (Below.heap_alloc w _ b hbw).trans hA
  have hz1 : w1.heap.size = w.heap.size + 1 := by rw [hw1]; simp
  obtain ⟨w2, hrng, hRg0, hgr0, hz2⟩ := rg_start hA1 hst Try.underlying31
  rw [hz1] at hrng hRg0 hz2
  have b1 : Below w.heap.size w w1 := by rw [hw1]; exact (Below.refl _ _).alloc (Nat.le_refl _) _
  have b2 : Below w1.heap.size w1 w2 := ⟨hgr0.os, hgr0.tape, hgr0.output, hgr0.size, fun j hj => hgr0.block j hj (by simp)⟩
  have b12 : Below w.heap.size w w2 := b1.trans (b2.mono (by omega))
  have hSt0 : St w b ps es (alF F) es [] (fun c => midR (alF F c) (its ps c) 0) (.slice (some ⟨w.heap.size, 0, none⟩) 0 NN) w2 := by
    refine ⟨by simp, ?_, fun h => (by cases h), fun e => (by simp only [Value.ownBlock] at e; injection e with e; omega), fun e he => ⟨((hE.tab e he (alF F (ck e))).later b12), by rw [midR_size]; exact (hE.len e he).symm⟩, fun e he => (by cases he), fun e he => rfl, b12.mono (Nat.le_of_lt hbw)⟩
    have ho : w1.ownsRow w.heap.size 39 2 (.slice (some ⟨w.heap.size, 0, none⟩) 0 NN) 0 [] := by
      rw [hw1]
      exact ⟨by simp, .inr ⟨w.heap.size, NN, _, rfl, Nat.le_refl _, heap_alloc_new w _, Nat.zero_le _, by unfold maxLen; omega, by simp [madeCells], by simp⟩⟩
    exact own_later ho b2
  have HB0 := Lib.hid (show ∀ W, Below b w W → Below w0.heap.size w0 W from fun W hW => h0.trans (hW.mono hb0))
  have HC := Lib.hid hc
  have HB00 := Lib.hid hb0
  have HE := Lib.hid hE
  have HPS := Lib.hid hps
  have HRG0 := Lib.hid hRg0
  have HST0 := Lib.hid hSt0
  have HW1 := Lib.hid hw1
  rw [hes] at HRG0
  clear hc h0 hb0 hI hE hps hNN hA hes hst hA1 hRg0 hgr0 hz1 hz2 b1 b2 b12 hSt0 hw1
  go_enter Try.func16, Try.ntmps16
  go_upto_region 2 with fail
  rw [← HW1.out]
  go_wp2_with fail
  go_loopg [5] NN (fun kx s5 wr => ∃ (v : Value) (todo done : List MapEntry) (D : Int → Array IRow), v = s5 ∧ todo.length ≤ kx ∧ Hid (Rg wr b (w.heap.size + 1) es todo) ∧ Hid (St w b ps es (alF F) todo done D v wr))
  case atStart => exact ⟨_, es, [], _, rfl, by omega, HRG0.out, HST0.out⟩
  case round =>
    obtain ⟨v, todo, done, D, rfl, hk, HR, HS⟩ := hrel
    rcases HR.out.next 0 with ⟨htd, hrun⟩ | ⟨e, w3, todo', he, hrun, hR3, hp, hg3, hz3, hent⟩
    · clear hk
      subst htd
      obtain ⟨g, cap, rfl, hg1, hg2⟩ := own_some HS.out.own HS.out.ne
      have hsrt := sortM g done.length cap ((done.map rowOf).toArray) wr (by
        have := HS.out.perm.length_eq
        simp only [List.append_nil] at this
        omega) (by simp) (St.rows0 HS.out)
      have HSRT := Lib.hid hsrt
      clear hsrt
      go_wp2_with (go_at_call 18; refine HSRT.out.mono ?_; rintro e1 w4 ⟨rfl, R, hrw, hpd, hsd⟩; have HFIN := Lib.hid (St.finish HS.out HE.out hbw hrw (by simpa using hpd) hsd); clear hrw hpd hsd)
      go_ret
      exact ⟨⟨_, R, _, rfl, HFIN.out.1, HFIN.out.2.1⟩, HFIN.out.2.2⟩
    · have het : e ∈ es := HS.out.perm.mem_iff.1 (List.mem_append_right _ he)
      obtain ⟨hkey, hval⟩ := HE.out.form e het
      have hrng := HE.out.rng e het
      have hml := HE.out.len e het
      have hch : ck e ∈ ps.map (·.1) := (HE.out.mem _).1 (List.mem_map.2 ⟨e, het, rfl⟩)
      have hini := HS.out.ini e he
      have htab := HS.out.rows HE.out het hg3
      have HTURN := Lib.hid (fun w3' w4 w5 v' d' f ht hz hs hpd al4 hown hg5 hat => St.turn (w3 := w3') (w4 := w4) (w5 := w5) (v' := v') (d' := d') HS.out HE.out hbw hp hg3 f ht hz hs hpd al4 hown hg5 hat (by rw [hz3]; exact Nat.le_refl _) HR.out.lt.2)
      have HOWN3 := Lib.hid (HS.out.own1 hg3)
      have HVR := Lib.hid HS.out.vr
      have htl : todo.length = todo'.length + 1 := by simpa using hp.length_eq
      have hdl : done.length ≤ 1048576 := by
        have := HS.out.perm.length_eq
        simp only [List.length_append] at this
        omega
      rw [hini] at htab
      rw [hkey, hval] at hrun hent
      obtain ⟨row, hrow⟩ : ∃ row, row = rowOf e := ⟨_, rfl⟩
      simp only [ck, ← hrow] at hkey hval hrng hml hch hini htab hrun hent HTURN
      obtain ⟨G, m, cap, c⟩ := row
      simp only at hkey hval hrng hml hch hini htab hrun hent HTURN
      obtain ⟨L, hL⟩ : ∃ L, L = its ps c := ⟨_, rfl⟩
      have hLps : ∀ q ∈ L, (0 ≤ q.1 ∧ q.1 ≤ 4294967295) ∧ (0 ≤ q.2 ∧ q.2 ≤ 4294967295) := fun q hq => by
        rw [hL] at hq
        obtain ⟨z, hz, rfl⟩ := List.mem_map.1 hq
        exact (HPS.out z (List.mem_filter.1 hz).1).2
      have hcn : 0 ≤ c ∧ c < n := by
        obtain ⟨z, hz, rfl⟩ := List.mem_map.1 hch
        exact (HPS.out z hz).1
      have hmL : m ≤ 1024 := by
        rw [hml]
        have : (its ps c).length ≤ ps.length := by unfold its; rw [List.length_map]; exact List.length_filter_le _ _
        omega
      rw [← hL] at hml htab
      have HB3 := Lib.hid (HS.out.bel1 hg3 hbw)
      obtain ⟨k, hk⟩ : ∃ k : Nat, (k : Int) = c := ⟨c.toNat, by omega⟩
      obtain ⟨hx0, K, cK, hK0, h17, hrows⟩ := HC.out
      obtain ⟨p, M, q1, q2, q3, q4⟩ := hrows k (by omega)
      have HMX := Lib.hid (show ∀ W, Below b w W → Mx W M (F c.toNat) from fun W hW => by
        have e : c.toNat = k := by omega
        rw [e]; exact q4.below (HB0.out W hW) q3)
      have r17 := ((HB0.out w3 HB3.out).cell (p := ⟨x, 17, none⟩) hx0).trans h17
      have r4 := ((HB0.out w3 HB3.out).cell (p := ⟨K, k * 22 + 4, none⟩) hK0).trans q1
      have r2 := ((HB0.out w3 HB3.out).cell (p := ⟨p, 2, none⟩) q2.1).trans q2.2
      have hkn : (k : Int) < (n : Int) := by omega
      have HSZ := Lib.hid hz3
      have HT0 := Lib.hid htab
      have HRNG := Lib.hid hrng
      have HML := Lib.hid hml
      have HL := Lib.hid hL
      have HLP := Lib.hid hLps
      have HR3 := Lib.hid hR3
      have HP := Lib.hid hp
      have HROW := Lib.hid hrow
      have HK := Lib.hid hk
      have hta := assert75 p w3
      subst hk
      clear hkey hval hrng hml hch hini htab hrow hL hLps hR3 hp hcn h17 hrows q1 q2 q3 q4 hlen hmk hx0 hK0 he het hg3 hz3
      go_upto_region 8 with fail
      clear r17 r4 r2 hta hrun hent hkn
      go_loopw [38] (fun s38 wr2 => ∃ i : Nat, s38 = .int .i64 i ∧ i ≤ m ∧ Hid (Tb wr2 G m 3 (fun q j => VI (midR (alF F (k : Int)) L i)[q]! j)) ∧ Hid (Fx (fun j => j = G) w3 wr2)) (fun s38 _ => m - (intOf s38).toNat)
      case atStart => exact ⟨0, rfl, Nat.zero_le _, HT0.out, Fx.refl _ _⟩
      case round =>
        obtain ⟨i, rfl, hi, HT, HF⟩ := hrel
        by_cases hlt : i < m
        · obtain ⟨⟨xi, yi⟩, hLi⟩ : ∃ z, L[i]? = some z := ⟨_, List.getElem?_eq_getElem (by rw [← HML.out]; exact hlt)⟩
          have hrg := HLP.out _ (List.mem_of_getElem? hLi)
          have mm := midR_at (alF F (k : Int)) L i i _ hLi
          have a0 : wr.cell? ⟨G, i * 3, none⟩ = some (.string ByteArray.empty) := HT.out.at_ (i := i) (j := 0) hlt (by omega) (by simp [mm, VI])
          have a1 : wr.cell? ⟨G, i * 3 + 1, none⟩ = some (.int .u32 xi) := HT.out.at_ (i := i) (j := 1) hlt (by omega) (by simp [mm, VI])
          have a2 : wr.cell? ⟨G, i * 3 + 2, none⟩ = some (.int .u32 yi) := HT.out.at_ (i := i) (j := 2) hlt (by omega) (by simp [mm, VI])
          have fz := HT.out.frozen (i * 3)
          have hG := HT.out.lt
          have bel4 : Below b w (wr.alloc (.cells #[.string ByteArray.empty, .int .u32 xi, .int .u32 yi] 45)) := by
            have bq : Below b w wr := HB3.out.trans (HF.out.below (by have := HB3.out.size; omega) (fun j hj => by have := HRNG.out; omega))
            exact bq.alloc (by have := bq.size; omega) _
          have lk := mx_look (HMX.out _ bel4) hrg.1 hrg.2
          obtain ⟨ax, hax⟩ : ∃ ax, ax = alF F (k : Int) xi yi := ⟨_, rfl⟩
          have hstep := (HT.out.set hlt (j := 0) (by omega) (.string ax)).congr (T' := fun q j => VI (midR (alF F (k : Int)) L (i + 1))[q]! j) (fun q j hq hj => by rw [hax]; exact midR_step (alF F (k : Int)) L i (xi, yi) hLi q j (by rw [← HML.out]; exact hq) hj)
          have HT5 := Lib.hid (hstep.later ((Below.refl _ _).alloc (Nat.le_refl _) (.cells #[.string ByteArray.empty, .int .u32 xi, .int .u32 yi] 45)))
          have HF5 := Lib.hid ((HF.out.put G (i * 3 + 0) (.string ax) rfl).alloc (.cells #[.string ByteArray.empty, .int .u32 xi, .int .u32 yi] 45))
          rw [← hax] at lk
          clear mm hrg hLi bel4 hax hstep HT HF
          go_wp2
          go_roundw
          case rel => exact ⟨i + 1, by go_num, by omega, HT5.out, HF5.out⟩
          case measure => simp [intOf]; omega
        · obtain rfl : i = m := by omega
          have hsrt := sortI G i cap (midR (alF F (k : Int)) L i) wr (by omega) (by rw [midR_size]; exact HML.out.symm) HT.out
          have HSRT := Lib.hid hsrt
          clear hsrt
          have HGS := Lib.hid (show G < w.heap.size ∧ b < G from ⟨HRNG.out.2, by have := HRNG.out.1; omega⟩)
          go_wp2_with (first
            | (go_at_call 18
               refine HSRT.out.mono ?_
               rintro e1 w4 ⟨rfl, d', hrw, hpd, hsd⟩
               have HF4 := Lib.hid (HF.out.trans hrw.fx)
               have HD4 := Lib.hid (show Tb w4 G i 3 (fun q j => VI d'[q]! j) ∧ d'.size = i ∧ SortedIn ltI 0 i d' ∧ d'.toList.Perm (midR (alF F (k : Int)) L L.length).toList from ⟨hrw.tb, hrw.sz, hsd, by rw [← HML.out]; exact hpd⟩)
               have HO5 := Lib.hid (own_later (own_fx HOWN3.out HGS.out.1 HF4.out) ((Below.refl w4.heap.size w4).alloc (Nat.le_refl _) (.cells #[.slice (some ⟨G, 0, none⟩) i cap, .int .u32 (k : Int)] 39)))
               clear hrw hpd hsd HSRT)
            | (refine wpList_pushRow _ rfl _ _ 29 rfl w.heap.size 39 _ 2 32 Try.underlying29 info39 rfl (by decide) (by decide) v done.length (rM (done.map rowOf)) rfl HO5.out w4.heap.size [.slice (some ⟨G, 0, none⟩) i cap, .int .u32 (k : Int)] rfl rfl (fun j u hu => (Row.newArr w4 39 _).at_ hu) (by simp [Value.oneCell']) hdl (by have h1 := HS.out.bel.size; have h2 := HF4.out.size; have h3 := HSZ.out; simp; omega) ?_
               intro A' c' w6 hown hgr hat
               have HS6 := Lib.hid (HTURN.out w4 _ w6 _ d' HF4.out HD4.out.1 HD4.out.2.1 HD4.out.2.2.1 (by rw [← HL.out]; exact HD4.out.2.2.2) ((Below.refl w4.heap.size w4).alloc (Nat.le_refl _) (.cells #[.slice (some ⟨G, 0, none⟩) i cap, .int .u32 (k : Int)] 39)) hown hgr hat)
               have kp : ∀ g, g < w3.heap.size → g ≠ G → v.ownBlock ≠ some g → w6.heap[g]? = w3.heap[g]? := fun g h1 h2 h3 => by
                 have h4 : g < w4.heap.size := Nat.lt_of_lt_of_le h1 HF4.out.size
                 exact (hgr.block g (by simp; omega) (fun e => h3 e.symm)).trans ((Below.heap_alloc w4 _ g h4).trans (HF4.out.block g h1 h2))
               have HR6 := Lib.hid (HR3.out.kept (kp b HR3.out.lt.1 (by have := HGS.out; omega) (fun e => by have := (own_lt HOWN3.out e).1; omega)) (kp _ HR3.out.lt.2 (by have := HGS.out; omega) HVR.out))
               clear hown hgr hat kp))
          go_roundg todo'.length
          case measure => omega
          case rel => exact ⟨_, todo', done ++ [e], _, rfl, Nat.le_refl _, HR6.out, HS6.out⟩
end Go.Proofs.Ytfcpjckecjjmjaa.SoU
