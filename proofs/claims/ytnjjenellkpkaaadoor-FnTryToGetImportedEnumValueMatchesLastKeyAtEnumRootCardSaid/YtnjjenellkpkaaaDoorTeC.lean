/- FnTryToGetImportedEnumValueMatchesLastKeyAtEnumRoot: symbols. -/
import Derived.Test.YtnjjenellkpkaaaDoorRows
import Derived.Test.YtnjjenellkpkaaaDoorMem
import Derived.Test.YtnjjenellkpkaaaDoorSl
import Derived.Test.YtnjjenellkpkaaaDoorTeB
import Derived.Deep.RegionHeld3
import Derived.Great.BuildSlice
import Derived.Deep.RegionLaw
import Derived.WalkKit
import Derived.ProofKit
import Derived.OpenShut
import Derived.Below
import Derived.WalkLawsBesides
import Derived.Lib.Hide
import Derived.Outline
import Derived.RegionTactic
import Derived.Deep.QuietTactic
import Derived.BigQuiet
import Derived.WalkSpells
import Derived.Deep.OwnRows
import Derived.IntWalk
import Derived.Deep.DeepMust
namespace Go.Proofs.YtnjjenellkpkaaaDoor.TeC
open Go.RowKit Mem Sl
set_option linter.unusedVariables false
open Args Argw Fvs TeA TeB

def refv (x : Int) : Value := .agg #[.int .u32 0, .int .u32 x]
def Rf (w : World) (x : Int) (e : Ending) (w' : World) : Prop := e = .returned (.agg #[.int .u32 0, .int .u32 x]) ∧ Below w.heap.size w w'
theorem ref16 (x : Int) (w : World) : Calls Tryd.prog 16 #[.int .u32 x] w (Rf w x) := by
  have HB := Lib.hid (Below.refl w.heap.size w)
  go_enter Tryd.func16, Tryd.ntmps16
  go_wp2
  refine bodyPost_ret (v := .agg #[.int .u32 0, .int .u32 x]) (by simp [results, Tryd.results16, go_sem]) rfl ⟨rfl, ?_⟩
  repeat (first | exact HB.out | (refine Below.alloc ?_ (by simp <;> omega) _) | (refine Below.setCell ?_ (by simp <;> omega) _))
structure Sy (w : World) (g n : Nat) (X Y K : Nat → Int) : Prop where
  lt : g < w.heap.size
  cx : ∀ i, i < n → w.cell? ⟨g, i * 10 + 2, none⟩ = some (.int .u32 (X i))
  cy : ∀ i, i < n → w.cell? ⟨g, i * 10 + 3, none⟩ = some (.int .u32 (Y i))
  ck : ∀ i, i < n → w.cell? ⟨g, i * 10 + 8, none⟩ = some (.int .u8 (K i))
  fz : ∀ o, w.frozen? ⟨g, o, none⟩ = false
section
variable {w w' : World} {g n : Nat} {X Y K : Nat → Int}
theorem Sy.below {B : Nat} (h : Sy w g n X Y K) (hb : Below B w w') (hg : g < B) : Sy w' g n X Y K := by
  have hc : ∀ o, w'.cell? ⟨g, o, none⟩ = w.cell? ⟨g, o, none⟩ := fun o => hb.cell (p := ⟨g, o, none⟩) hg
  exact ⟨Nat.lt_of_lt_of_le h.lt hb.size, fun i hi => (hc _).trans (h.cx i hi), fun i hi => (hc _).trans (h.cy i hi), fun i hi => (hc _).trans (h.ck i hi), fun o => (hb.frozen (p := ⟨g, o, none⟩) hg).trans (h.fz o)⟩
theorem cell_ne {w : World} {b o o' : Nat} (u : Value) (h : o ≠ o') : (w.setCell ⟨b, o, none⟩ u).cell? ⟨b, o', none⟩ = w.cell? ⟨b, o', none⟩ :=
  World.cell?_setCell_other (h := fun e => h (by injection e)) ..
/-- A link is written. -/
theorem Sy.link (h : Sy w g n X Y K) {i : Nat} (hi : i < n) (x y : Int) : Sy ((w.setCell ⟨g, i * 10 + 2, none⟩ (.int .u32 x)).setCell ⟨g, i * 10 + 3, none⟩ (.int .u32 y)) g n (up X i x) (up Y i y) K := by
  refine ⟨by simpa using h.lt, fun j hj => ?_, fun j hj => ?_, fun j hj => ?_, fun o => frozen_set _ _ g o _ (frozen_set _ _ g o _ (h.fz o))⟩
  · rw [cell_ne _ (by omega)]
    by_cases e : j = i
    · subst e; rw [up_self]; exact cell_self _ (by rw [h.cx j hj]; rfl)
    · rw [up_ne _ _ e, cell_ne _ (by omega)]; exact h.cx j hj
  · by_cases e : j = i
    · subst e; rw [up_self]; exact cell_self _ (by rw [cell_ne _ (by omega), h.cy j hj]; rfl)
    · rw [up_ne _ _ e, cell_ne _ (by omega), cell_ne _ (by omega)]; exact h.cy j hj
  · rw [cell_ne _ (by omega), cell_ne _ (by omega)]; exact h.ck j hj
/-- A kind is written. -/
theorem Sy.kind (h : Sy w g n X Y K) {i : Nat} (hi : i < n) (x : Int) : Sy (w.setCell ⟨g, i * 10 + 8, none⟩ (.int .u8 x)) g n X Y (up K i x) := by
  refine ⟨by simpa using h.lt, fun j hj => ?_, fun j hj => ?_, fun j hj => ?_, fun o => frozen_set _ _ g o _ (h.fz o)⟩
  · rw [cell_ne _ (by omega)]; exact h.cx j hj
  · rw [cell_ne _ (by omega)]; exact h.cy j hj
  · by_cases e : j = i
    · subst e; rw [up_self]; exact cell_self _ (by rw [h.ck j hj]; rfl)
    · rw [up_ne _ _ e, cell_ne _ (by omega)]; exact h.ck j hj
theorem Sy.congr {X' Y' K' : Nat → Int} (h : Sy w g n X Y K) (e : ∀ i, i < n → X i = X' i ∧ Y i = Y' i ∧ K i = K' i) : Sy w g n X' Y' K' :=
  ⟨h.lt, fun i hi => by rw [h.cx i hi, (e i hi).1], fun i hi => by rw [h.cy i hi, (e i hi).2.1], fun i hi => by rw [h.ck i hi, (e i hi).2.2], h.fz⟩
end
theorem made_cell (cs : Array Value) (n k j : Nat) (hs : cs.size = 10) (hk : k < n) (hj : j < 10) : (madeCells cs (n * 10))[k * 10 + j]? = cs[j]? := by
  have hlt : k * 10 + j < n * 10 := by omega
  have hm : (k * 10 + j) % 10 = j := by omega
  simp [madeCells, hlt, hs, hm, getElem!_def, hj]
def z66 : Array Value := #[.pointer none, .string ByteArray.empty, .int .u32 0, .int .u32 0, .int .u32 0, .int .u32 0, .int .u32 0, .int .u16 0, .int .u8 0, .int .u8 0]
theorem info66 : (Tryd.prog.info? 66).map (fun i => (i.zero, i.size, i.bytes)) = some (some (.agg z66), 10, 48) := by kernel_rfl
theorem sy_made (w : World) (n : Nat) : Sy (w.alloc (.cells (madeCells z66 (n * 10)) 66)) w.heap.size n (fun _ => 0) (fun _ => 0) (fun _ => 0) := by
  have hr := Row.newArr w 66 (madeCells z66 (n * 10))
  have hc : ∀ i j, i < n → j < 10 → (w.alloc (.cells (madeCells z66 (n * 10)) 66)).cell? ⟨w.heap.size, i * 10 + j, none⟩ = z66[j]? := fun i j hi hj => by
    rw [hr.cell, Array.getElem?_toList]
    exact made_cell z66 n i j rfl hi hj
  exact ⟨hr.lt, fun i hi => hc i 2 hi (by omega), fun i hi => hc i 3 hi (by omega), fun i hi => hc i 8 hi (by omega), fun o => hr.frozen o⟩
theorem run_make_wide {P : Program} (t e : TypeId) (z : Value) (size bytes : Nat) (cs : Array Value) (ht : P.underlying t = some (.slice e)) (hinfo : (P.info? e).map (fun i => (i.zero, i.size, i.bytes)) = some (some z, size, bytes)) (hz1 : z.cells = cs)
    (kl kc : IntKind) (n : Nat) (hbytes : bytes * n ≤ 281474976710656) (h63 : n ≤ 9223372036854775807) (w : World) :
    (Instr.makeSlice t (.int kl (n : Int)) (.int kc (n : Int))).run P w = .ok (.slice (some ⟨w.heap.size, 0, none⟩) n n) (w.alloc (.cells (madeCells cs (n * size)) e)) := by
  obtain ⟨i, hi, hzz⟩ := Option.map_eq_some_iff.1 hinfo
  simp only [Prod.mk.injEq] at hzz
  obtain ⟨hz, hs, hb⟩ := hzz
  have hb' : (i.bytes : Int) * (n : Int) ≤ 281474976710656 := by
    have h : ((i.bytes * n : Nat) : Int) ≤ 281474976710656 := by rw [hb]; omega
    rwa [Int.natCast_mul] at h
  have hr := run_make (P := P) w t e i z ht hi hz kl kc n n (by omega) (Int.le_refl _) hb' (by omega)
  simp only [Int.toNat_natCast, hs, hz1] at hr
  exact hr
def NO : Int := 4294967295
def lx (l : Nat → Int) (i : Nat) : Int := if l i = -1 then 4294967295 else 0
def ly (l : Nat → Int) (i : Nat) : Int := if l i = -1 then 4294967295 else IntKind.u32.wrap (l i)
def lk (K : Nat → Int) (m i : Nat) : Int := if i < m then K i else 0
def cut (f : Nat → Int) (k i : Nat) : Int := if i < k then f i else 0
theorem cut_step (f : Nat → Int) (k i : Nat) : up (cut f k) k (f k) i = cut f (k + 1) i := by
  unfold up cut
  by_cases e : i = k
  · subst e; simp
  · have : (i < k + 1) = (i < k) := by apply propext; omega
    simp [e, this]
def Bs (w : World) (n : Nat) (X Y K : Nat → Int) (e : Ending) (w' : World) : Prop := ∃ q g, e = .returned (.agg #[.slice (some ⟨q, 0, none⟩) 1 1]) ∧ Row w' q 57 [.slice (some ⟨g, 0, none⟩) n n] ∧ Sy w' g n X Y K ∧ Below w.heap.size w w' ∧ w.heap.size ≤ q ∧ w.heap.size ≤ g ∧ q ≠ g
set_option maxRecDepth 100000 in
set_option maxHeartbeats 4000000 in
theorem build13 (A A2 : Option Addr) (n c m c2 : Nat) (l K : Nat → Int) (w : World) (h : Rs w A n (fun i => .int .i32 (l i))) (h2 : Rs w A2 m (fun i => .int .u8 (K i))) (hn : n ≤ 65536) (hm : m ≤ 65536) :
    Calls Tryd.prog 13 #[.slice A n c, .slice none 0 0, .slice A2 m c2] w (Bs w n (lx l) (ly l) (lk K m)) := by
  have hmk := fun W => run_make_wide (P := Tryd.prog) 57 66 (.agg z66) 10 48 z66 Tryd.underlying57 info66 rfl .i64 .i64 n (by omega) (by omega) W
  have HR := Lib.hid h
  have HR2 := Lib.hid h2
  clear h h2
  have hal : Below w.heap.size w (w.alloc (.cells #[.slice none 0 0] 39)) := (Below.refl _ _).alloc (Nat.le_refl _) _
  have HAL := Lib.hid hal
  have hr0 := Row.newArr w 39 #[.slice none 0 0]
  have hr0b := hr0.alloc (.cells (madeCells z66 (n * 10)) 66)
  have HR0 := Lib.hid hr0b
  clear hal hr0 hr0b
  go_enter Tryd.func13, Tryd.ntmps13
  go_wp2
  go_loopw [8] (fun i wr => ∃ k : Nat, k ≤ n ∧ i = .int .i64 k ∧ Sy wr (w.heap.size + 1) n (cut (lx l) k) (cut (ly l) k) (cut (lk K m) k) ∧ Row wr w.heap.size 39 [.slice none 0 0] ∧ Below w.heap.size w wr) (fun i _ => n - (intOf i).toNat)
  case atStart =>
    have hs := sy_made (w.alloc (.cells #[.slice none 0 0] 39)) n
    rw [show (w.alloc (.cells #[.slice none 0 0] 39)).heap.size = w.heap.size + 1 by simp] at hs
    exact ⟨0, Nat.zero_le _, rfl, hs.congr (fun i hi => ⟨rfl, rfl, rfl⟩), HR0.out, HAL.out.alloc (by simp) _⟩
  case round =>
    clear HR0 HAL
    obtain ⟨k, hk, rfl, hsy, hrow, hbel⟩ := hrel
    by_cases hlt : k < n
    · obtain ⟨b, off, ha, hb, hcell⟩ := HR.out k hlt
      subst ha
      have d1 := cell_later hbel hcell
      have HSY := Lib.hid hsy
      have HROW := Lib.hid hrow
      have HBEL := Lib.hid hbel
      have nb : b ≠ w.heap.size + 1 := by omega
      obtain ⟨x, hx⟩ : ∃ x, x = l k := ⟨_, rfl⟩
      simp only [← hx] at d1
      have HX := Lib.hid hx
      have c2 := hsy.cx k hlt
      have c3 := hsy.cy k hlt
      have z : ∀ f : Nat → Int, cut f k k = 0 := fun f => if_neg (Nat.lt_irrefl k)
      rw [z] at c2 c3
      have f2 := hsy.fz (k * 10 + 2)
      have f3 := hsy.fz (k * 10 + 3)
      have i1 : (k : Int) < (n : Int) := by omega
      have i0 : (0 : Int) ≤ (k : Int) := by omega
      have hneg : decide ((k : Int) < 0) = false := by simp
      clear hsy hrow hbel hcell hx
      -- behind the link's store
      have after : ∀ W, Sy W (w.heap.size + 1) n (cut (lx l) (k + 1)) (cut (ly l) (k + 1)) (cut (lk K m) k) → Row W w.heap.size 39 [.slice none 0 0] → Below w.heap.size w W → (k < m → ∃ b o, A2 = some ⟨b, o, none⟩ ∧ W.cell? ⟨b, o + k, none⟩ = some (.int .u8 (K k))) ∧ W.cell? ⟨w.heap.size + 1, k * 10 + 8, none⟩ = some (.int .u8 0) ∧ W.frozen? ⟨w.heap.size + 1, k * 10 + 8, none⟩ = false := fun W hs hr hb => by
        refine ⟨fun hm => ?_, ?_, hs.fz _⟩
        · obtain ⟨b, o, ha, hb', hc⟩ := HR2.out k hm
          exact ⟨b, o, ha, cell_later hb hc⟩
        · rw [hs.ck k hlt, z]
      have AFTER := Lib.hid after
      clear after z
      by_cases h1 : x = -1
      · have t1 : (x == -1) = true := by simp [h1]
        obtain ⟨W, hW⟩ : ∃ W, W = (wr.setCell ⟨w.heap.size + 1, k * 10 + 2, none⟩ (.int .u32 4294967295)).setCell ⟨w.heap.size + 1, k * 10 + 3, none⟩ (.int .u32 4294967295) := ⟨_, rfl⟩
        have hS := HSY.out.link hlt 4294967295 4294967295
        rw [← hW] at hS
        have hS2 := hS.congr (X' := cut (lx l) (k + 1)) (Y' := cut (ly l) (k + 1)) (K' := cut (lk K m) k) (fun i hi => ⟨by rw [← cut_step]; unfold lx; rw [← HX.out, if_pos h1], by rw [← cut_step]; unfold ly; rw [← HX.out, if_pos h1], rfl⟩)
        have hR : Row W w.heap.size 39 [.slice none 0 0] := by rw [hW]; exact (HROW.out.far (by show w.heap.size ≠ _; simp) _).far (by show w.heap.size ≠ _; simp) _
        have hB : Below w.heap.size w W := by rw [hW]; exact (HBEL.out.setCell (by show w.heap.size ≤ w.heap.size + 1; omega) _).setCell (by show w.heap.size ≤ w.heap.size + 1; omega) _
        have HS2 := Lib.hid hS2
        have HR3 := Lib.hid hR
        have HB3 := Lib.hid hB
        clear hS hS2 hR hB h1 HSY HROW HBEL HX
        by_cases hkm : k < m
        · obtain ⟨b2, o2, ha2, e2⟩ := (AFTER.out W HS2.out HR3.out HB3.out).1 hkm
          have c8 := (AFTER.out W HS2.out HR3.out HB3.out).2.1
          have f8 := (AFTER.out W HS2.out HR3.out HB3.out).2.2
          subst ha2
          obtain ⟨v, hv⟩ : ∃ v, v = K k := ⟨_, rfl⟩
          rw [← hv] at e2
          have HL := Lib.hid ((HS2.out.kind hlt v).congr (X' := cut (lx l) (k + 1)) (Y' := cut (ly l) (k + 1)) (K' := cut (lk K m) (k + 1)) (fun i hi => ⟨rfl, rfl, by rw [← cut_step]; unfold lk; rw [if_pos hkm, ← hv]⟩))
          have HR4 := Lib.hid (HR3.out.far (p := ⟨w.heap.size + 1, k * 10 + 8, none⟩) (by show w.heap.size ≠ _; simp) (.int .u8 v))
          have HB4 := Lib.hid (HB3.out.setCell (p := ⟨w.heap.size + 1, k * 10 + 8, none⟩) (by show w.heap.size ≤ w.heap.size + 1; omega) (.int .u8 v))
          have k1 : (k : Int) < (m : Int) := by omega
          clear hv HS2 HR3 HB3 AFTER
          rw [hW] at e2 c8 f8 HL HR4 HB4
          clear hW
          go_wp2_with fail
          go_roundw
          case rel => exact ⟨k + 1, by omega, by go_num, HL.out, HR4.out, HB4.out⟩
          case measure => simp [intOf]; omega
        · have HL := Lib.hid (HS2.out.congr (X' := cut (lx l) (k + 1)) (Y' := cut (ly l) (k + 1)) (K' := cut (lk K m) (k + 1)) (fun i hi => ⟨rfl, rfl, by
            unfold cut lk
            by_cases e : i = k
            · subst e; simp [hkm]
            · have : (i < k + 1) = (i < k) := by apply propext; omega
              simp [this]⟩))
          have k1 : decide ((k : Int) < (m : Int)) = false := by simp; omega
          rw [hW] at HL HR3 HB3
          clear hW HS2 AFTER
          go_wp2_with fail
          go_roundw
          case rel => exact ⟨k + 1, by omega, by go_num, HL.out, HR3.out, HB3.out⟩
          case measure => simp [intOf]; omega
      · have t1 : (x == -1) = false := by simp [h1]
        obtain ⟨y, hy⟩ : ∃ y, IntKind.u32.wrap x = y := ⟨_, rfl⟩
        have HY := Lib.hid hy
        have h16 := fun W => ref16 y W
        have H16 := Lib.hid h16
        have HH1 := Lib.hid h1
        clear h16 h1
        go_wp2_with fail
        refine (H16.out _).mono ?_
        rintro e w2 ⟨rfl, hb2⟩
        have hsy2 := HSY.out.below hb2 HSY.out.lt
        have c2 := hsy2.cx k hlt
        have c3 := hsy2.cy k hlt
        have z : ∀ f : Nat → Int, cut f k k = 0 := fun f => if_neg (Nat.lt_irrefl k)
        rw [z] at c2 c3
        have f2 := hsy2.fz (k * 10 + 2)
        have f3 := hsy2.fz (k * 10 + 3)
        obtain ⟨W, hW⟩ : ∃ W, W = (w2.setCell ⟨w.heap.size + 1, k * 10 + 2, none⟩ (.int .u32 0)).setCell ⟨w.heap.size + 1, k * 10 + 3, none⟩ (.int .u32 y) := ⟨_, rfl⟩
        have hS := hsy2.link hlt 0 y
        rw [← hW] at hS
        have hS2 := hS.congr (X' := cut (lx l) (k + 1)) (Y' := cut (ly l) (k + 1)) (K' := cut (lk K m) k) (fun i hi => ⟨by rw [← cut_step]; unfold lx; rw [← HX.out, if_neg HH1.out], by rw [← cut_step]; unfold ly; rw [← HX.out, if_neg HH1.out, HY.out], rfl⟩)
        have hR : Row W w.heap.size 39 [.slice none 0 0] := by rw [hW]; exact ((HROW.out.below hb2 HROW.out.lt).far (by show w.heap.size ≠ _; simp) _).far (by show w.heap.size ≠ _; simp) _
        have hB : Below w.heap.size w W := by rw [hW]; exact ((HBEL.out.trans (hb2.mono HBEL.out.size)).setCell (by show w.heap.size ≤ w.heap.size + 1; omega) _).setCell (by show w.heap.size ≤ w.heap.size + 1; omega) _
        have HS2 := Lib.hid hS2
        have HR3 := Lib.hid hR
        have HB3 := Lib.hid hB
        clear hS hS2 hR hB HH1 HSY HROW HBEL HX HY hb2 hsy2 z d1 H16
        by_cases hkm : k < m
        · obtain ⟨b2, o2, ha2, e2⟩ := (AFTER.out W HS2.out HR3.out HB3.out).1 hkm
          have c8 := (AFTER.out W HS2.out HR3.out HB3.out).2.1
          have f8 := (AFTER.out W HS2.out HR3.out HB3.out).2.2
          subst ha2
          obtain ⟨v, hv⟩ : ∃ v, v = K k := ⟨_, rfl⟩
          rw [← hv] at e2
          have HL := Lib.hid ((HS2.out.kind hlt v).congr (X' := cut (lx l) (k + 1)) (Y' := cut (ly l) (k + 1)) (K' := cut (lk K m) (k + 1)) (fun i hi => ⟨rfl, rfl, by rw [← cut_step]; unfold lk; rw [if_pos hkm, ← hv]⟩))
          have HR4 := Lib.hid (HR3.out.far (p := ⟨w.heap.size + 1, k * 10 + 8, none⟩) (by show w.heap.size ≠ _; simp) (.int .u8 v))
          have HB4 := Lib.hid (HB3.out.setCell (p := ⟨w.heap.size + 1, k * 10 + 8, none⟩) (by show w.heap.size ≤ w.heap.size + 1; omega) (.int .u8 v))
          have k1 : (k : Int) < (m : Int) := by omega
          clear hv HS2 HR3 HB3 AFTER
          rw [hW] at e2 c8 f8 HL HR4 HB4
          clear hW
          go_wp2_with fail
          go_roundw
          case rel => exact ⟨k + 1, by omega, by go_num, HL.out, HR4.out, HB4.out⟩
          case measure => simp [intOf]; omega
        · have HL := Lib.hid (HS2.out.congr (X' := cut (lx l) (k + 1)) (Y' := cut (ly l) (k + 1)) (K' := cut (lk K m) (k + 1)) (fun i hi => ⟨rfl, rfl, by
            unfold cut lk
            by_cases e : i = k
            · subst e; simp [hkm]
            · have : (i < k + 1) = (i < k) := by apply propext; omega
              simp [this]⟩))
          have k1 : decide ((k : Int) < (m : Int)) = false := by simp; omega
          rw [hW] at HL HR3 HB3
          clear hW HS2 AFTER
          go_wp2_with fail
          go_roundw
          case rel => exact ⟨k + 1, by omega, by go_num, HL.out, HR3.out, HB3.out⟩
          case measure => simp [intOf]; omega
    · obtain rfl : k = n := by omega
      have HL := Lib.hid (hsy.congr (X' := lx l) (Y' := ly l) (K' := lk K m) (fun i hi => ⟨if_pos hi, if_pos hi, if_pos hi⟩))
      have HBEL := Lib.hid hbel
      have HROW := Lib.hid hrow
      have c0 := (hrow.alloc (.cells #[.slice (some ⟨w.heap.size + 1, 0, none⟩) k k] 57)).at_ (i := 0) rfl
      have f0 := (hrow.alloc (.cells #[.slice (some ⟨w.heap.size + 1, 0, none⟩) k k] 57)).frozen 0
      clear hsy hbel hrow
      have hrb := Row.newArr wr 57 #[.slice (some ⟨w.heap.size + 1, 0, none⟩) k k]
      have hq0 : w.heap.size ≠ wr.heap.size := Nat.ne_of_lt HROW.out.lt
      have hg0 := HL.out.lt
      obtain ⟨W, hW⟩ : ∃ W, W = (wr.alloc (.cells #[.slice (some ⟨w.heap.size + 1, 0, none⟩) k k] 57)).setCell ⟨w.heap.size, 0, none⟩ (.slice (some ⟨wr.heap.size, 0, none⟩) 1 1) := ⟨_, rfl⟩
      have hal : Below wr.heap.size wr (wr.alloc (.cells #[.slice (some ⟨w.heap.size + 1, 0, none⟩) k k] 57)) := (Below.refl _ _).alloc (Nat.le_refl _) _
      have cR : W.cell? ⟨w.heap.size, 0, none⟩ = some (.slice (some ⟨wr.heap.size, 0, none⟩) 1 1) := by rw [hW]; exact cell_self _ (by rw [c0]; rfl)
      have HFIN := Lib.hid (show Bs w k (lx l) (ly l) (lk K m) (.returned (.agg #[.slice (some ⟨wr.heap.size, 0, none⟩) 1 1])) W from ⟨wr.heap.size, w.heap.size + 1, rfl, by rw [hW]; exact hrb.far (Ne.symm hq0) _, by
        rw [hW]
        have h1 := HL.out.below hal hg0
        have hc : ∀ o, ((wr.alloc (.cells #[.slice (some ⟨w.heap.size + 1, 0, none⟩) k k] 57)).setCell ⟨w.heap.size, 0, none⟩ (.slice (some ⟨wr.heap.size, 0, none⟩) 1 1)).cell? ⟨w.heap.size + 1, o, none⟩ = (wr.alloc (.cells #[.slice (some ⟨w.heap.size + 1, 0, none⟩) k k] 57)).cell? ⟨w.heap.size + 1, o, none⟩ := fun o => World.cell?_of_block (a := ⟨w.heap.size + 1, o, none⟩) (Below.heap_setCell _ ⟨w.heap.size, 0, none⟩ _ (w.heap.size + 1) (by show w.heap.size + 1 ≠ w.heap.size; omega))
        exact ⟨by simpa using h1.lt, fun i hi => (hc _).trans (h1.cx i hi), fun i hi => (hc _).trans (h1.cy i hi), fun i hi => (hc _).trans (h1.ck i hi), fun o => frozen_set _ _ _ o _ (h1.fz o)⟩, by rw [hW]; exact ((HBEL.out.trans (hal.mono HBEL.out.size)).setCell (Nat.le_refl _) _), HBEL.out.size, by omega, by omega⟩)
      clear hrb hq0 hg0 hal
      go_wp2_with fail
      rw [← hW]
      clear hW
      exact bodyPost_ret (v := .agg #[.slice (some ⟨wr.heap.size, 0, none⟩) 1 1]) (by simp [results, Tryd.results13, go_sem, cR]) rfl HFIN.out

set_option maxHeartbeats 2000000 in
theorem get30 (q g n i : Nat) (X Y K : Nat → Int) (w : World) (h : Sy w g n X Y K) (hr : Row w q 57 [.slice (some ⟨g, 0, none⟩) n n]) (hi : i < n) (hn : n ≤ 65536) :
    Calls Tryd.prog 30 #[.agg #[.slice (some ⟨q, 0, none⟩) 1 1], .agg #[.int .u32 0, .int .u32 (i : Int)]] w fun e w' => e = .returned (.pointer (some ⟨g, i * 10, none⟩)) ∧ Below w.heap.size w w' := by
  have h2 := (hr.alloc (.cells #[.slice (some ⟨q, 0, none⟩) 1 1] 39)).alloc (.cells #[.int .u32 0, .int .u32 (i : Int)] 50)
  have r1 := (Row.newArr w 39 #[.slice (some ⟨q, 0, none⟩) 1 1]).alloc (.cells #[.int .u32 0, .int .u32 (i : Int)] 50)
  have r2 := Row.newArr (w.alloc (.cells #[.slice (some ⟨q, 0, none⟩) 1 1] 39)) 50 #[.int .u32 0, .int .u32 (i : Int)]
  simp only [World.alloc, Array.size_push] at r2
  have c0 := h2.at_ (i := 0) rfl
  have c1 := r1.at_ (i := 0) rfl
  have c2 := r2.at_ (i := 0) rfl
  have c3 := r2.at_ (i := 1) rfl
  have HB := Lib.hid (((Below.refl w.heap.size w).alloc (Nat.le_refl _) (.cells #[.slice (some ⟨q, 0, none⟩) 1 1] 39)).alloc (by simp) (.cells #[.int .u32 0, .int .u32 (i : Int)] 50))
  have i1 : (i : Int) < (n : Int) := by omega
  have i0 : (0 : Int) ≤ (i : Int) := by omega
  clear h hr h2 r1 r2
  go_enter Tryd.func30, Tryd.ntmps30
  go_wp2
  go_quiet (fail)
  go_wp2
  go_ret
  exact ⟨rfl, below_drewN HB.out _⟩
/-- A chain of links that ends. -/
def Ch (X Y : Nat → Int) (n : Nat) (r : Nat) : Nat → Nat → Prop
  | 0, i => i < n ∧ X i = 4294967295 ∧ Y i = 4294967295 ∧ i = r
  | d + 1, i => i < n ∧ X i = 0 ∧ ∃ j : Nat, Y i = (j : Int) ∧ Ch X Y n r d j
theorem ch_lt {X Y : Nat → Int} {n r : Nat} : ∀ {d i : Nat}, Ch X Y n r d i → i < n
  | 0, _, h => h.1
  | _ + 1, _, h => h.1
theorem ch_uniq {X Y : Nat → Int} {n r : Nat} : ∀ {d d' i : Nat}, Ch X Y n r d i → Ch X Y n r d' i → d = d'
  | 0, 0, _, _, _ => rfl
  | 0, d' + 1, i, h, h' => by have := h.2.1; have := h'.2.1; omega
  | d + 1, 0, i, h, h' => by have := h.2.1; have := h'.2.1; omega
  | d + 1, d' + 1, i, ⟨_, _, j, hj, h⟩, ⟨_, _, j', hj', h'⟩ => by
    have : j = j' := by omega
    subst this
    rw [ch_uniq h h']
/-- What following may change: the symbols' links, and what is new. -/
structure Fg (g : Nat) (w w' : World) : Prop where
  os : w'.os = w.os
  tape : w'.tape = w.tape
  output : w'.output = w.output
  size : w.heap.size ≤ w'.heap.size
  block : ∀ k, k < w.heap.size → k ≠ g → w'.heap[k]? = w.heap[k]?
theorem Fg.below {g : Nat} {w w' : World} (h : Below w.heap.size w w') : Fg g w w' := ⟨h.os, h.tape, h.output, h.size, fun k hk _ => h.block k hk⟩
theorem Fg.trans {g : Nat} {w w' w'' : World} (h : Fg g w w') (k : Fg g w' w'') : Fg g w w'' :=
  ⟨k.os.trans h.os, k.tape.trans h.tape, k.output.trans h.output, Nat.le_trans h.size k.size, fun i hi h1 => (k.block i (Nat.lt_of_lt_of_le hi h.size) h1).trans (h.block i hi h1)⟩
theorem Fg.set {g : Nat} (w : World) (o : Nat) (u : Value) : Fg g w (w.setCell ⟨g, o, none⟩ u) := ⟨rfl, rfl, rfl, by simp, fun k _ h => Below.heap_setCell w ⟨g, o, none⟩ u k h⟩
theorem Fg.setNew {g : Nat} {w w' : World} (h : Fg g w w') {p : Addr} (hp : w.heap.size ≤ p.block) (u : Value) : Fg g w (w'.setCell p u) :=
  ⟨h.os, h.tape, h.output, by simpa using h.size, fun k hk h1 => (Below.heap_setCell w' p u k (by omega)).trans (h.block k hk h1)⟩
theorem Row.fg {g : Nat} {w w' : World} {b : Nat} {t : TypeId} {xs : List Value} (h : Row w b t xs) (hf : Fg g w w') (hb : b ≠ g) : Row w' b t xs := (hf.block b h.lt hb).trans h
/-- The links after: as before, or straight to the root. -/
def Cmp (X Y X' Y' : Nat → Int) (n r d : Nat) : Prop := ∀ m, (X' m = X m ∧ Y' m = Y m) ∨ ∃ d', d' ≤ d ∧ Ch X Y n r d' m ∧ X' m = 0 ∧ Y' m = (r : Int)
def Fo (w : World) (g n : Nat) (X Y K : Nat → Int) (r d : Nat) (e : Ending) (w' : World) : Prop := e = .returned (.agg #[.int .u32 0, .int .u32 (r : Int)]) ∧ ∃ X' Y', Sy w' g n X' Y' K ∧ Cmp X Y X' Y' n r d ∧ Fg g w w'
end Go.Proofs.YtnjjenellkpkaaaDoor.TeC
