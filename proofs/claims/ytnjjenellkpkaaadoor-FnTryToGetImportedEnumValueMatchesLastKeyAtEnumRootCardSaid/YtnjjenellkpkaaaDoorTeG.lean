/- FnTryToGetImportedEnumValueMatchesLastKeyAtEnumRoot: tryToGetImportedEnumValue. -/
import Derived.Test.YtnjjenellkpkaaaDoorRows
import Derived.Test.YtnjjenellkpkaaaDoorMem
import Derived.Test.YtnjjenellkpkaaaDoorSl
import Derived.Test.YtnjjenellkpkaaaDoorTeD
import Derived.Deep.RegionHeld3
import Derived.Great.BuildSlice
import Derived.Deep.RegionLaw
import Derived.Carry
import Derived.WalkKit
import Derived.ProofKit
import Derived.OpenShut
import Derived.Below
import Derived.WalkLawsBesides
import Derived.Lib.Hide
import Derived.Outline
import Derived.RegionTactic
import Derived.Deep.QuietTactic
import Derived.BigQuiet
import Derived.WalkSpells
import Derived.Deep.OwnRows
import Derived.IntWalk
import Derived.Deep.DeepMust
namespace Go.Proofs.YtnjjenellkpkaaaDoor.TeG
open Go.RowKit Mem Sl
set_option linter.unusedVariables false
open Args Argw Fvs TeA TeB TeC TeF TeD MapK Go.Maps

theorem cell_fg {g : Nat} {w w' : World} {a : Addr} {v : Value} (hf : Fg g w w') (ha : a.block ≠ g) (h : w.cell? a = some v) : w'.cell? a = some v :=
  (World.cell?_of_block (hf.block a.block (World.block_lt_of_cell? w a h) ha)).trans h
theorem map_fg {g : Nat} {w w' : World} {b c : Nat} {t : TypeId} {f : Value → Option Value} (hf : Fg g w w') (hb : b ≠ g) (h : MapF Tryd.prog w b t c f) : MapF Tryd.prog w' b t c f := by
  have hlt := h.lt
  obtain ⟨es, k, h1, h2⟩ := h
  exact ⟨es, k, (hf.block b hlt hb).trans h1, h2⟩
theorem gi_fg {w w' : World} {g : Nat} (h : Gi w) (hf : Fg g w w') (hg : 0 ≠ g) : Gi w' := h.fg hf hg
theorem row_setRow {w : World} {g : Nat} {t : TypeId} {xs : List Value} (h : Row w g t xs) (cs : Array Value) : Row (w.setRow g cs) g t cs.toList := setRow_heap w g _ cs t (0, 0) h
theorem row_far {w : World} {g k : Nat} {t : TypeId} {xs : List Value} (h : Row w g t xs) (hk : g ≠ k) (cs : Array Value) : Row (w.setRow k cs) g t xs := (setRow_other w k g cs hk).trans h
theorem Fg.setRow {g : Nat} {w w' : World} (h : Fg g w w') {k : Nat} (hk : w.heap.size ≤ k) (cs : Array Value) : Fg g w (w'.setRow k cs) :=
  ⟨h.os, h.tape, h.output, by simpa [World.setRow] using h.size, fun j hj h1 => (setRow_other w' k j cs (by omega)).trans (h.block j hj h1)⟩
theorem behind2 {w w6 : World} {g n p RES : Nat} {t : TypeId} {xs : List Value} {X Y K : Nat → Int} {r : Int} (hsy : Sy w6 g n X Y K) (hp : Row w6 p 50 [.int .u32 0, .int .u32 0]) (hres : Row w6 RES t xs) (hf : Fg g w w6) (hpg : g ≠ p) (hpr : RES ≠ p) (hwp : w.heap.size ≤ p) :
    Sy ((w6.setCell ⟨p, 0, none⟩ (.int .u32 0)).setCell ⟨p, 1, none⟩ (.int .u32 r)) g n X Y K ∧ Row ((w6.setCell ⟨p, 0, none⟩ (.int .u32 0)).setCell ⟨p, 1, none⟩ (.int .u32 r)) p 50 [.int .u32 0, .int .u32 r] ∧ Row ((w6.setCell ⟨p, 0, none⟩ (.int .u32 0)).setCell ⟨p, 1, none⟩ (.int .u32 r)) RES t xs ∧ Fg g w ((w6.setCell ⟨p, 0, none⟩ (.int .u32 0)).setCell ⟨p, 1, none⟩ (.int .u32 r)) :=
  ⟨sy_far (sy_far hsy hpg _) hpg _, (hp.set 0 _).set 1 _, (hres.far hpr _).far hpr _, (hf.setNew hwp _).setNew hwp _⟩
theorem cell_two {w6 : World} {p : Nat} {a : Addr} {v u u' : Value} (h : a.block ≠ p) (hc : w6.cell? a = some v) : ((w6.setCell ⟨p, 0, none⟩ u).setCell ⟨p, 1, none⟩ u').cell? a = some v :=
  ((World.cell?_of_block (Below.heap_setCell _ ⟨p, 1, none⟩ _ a.block h)).trans (World.cell?_of_block (Below.heap_setCell _ ⟨p, 0, none⟩ _ a.block h))).trans hc
/-- What tryToGetImportedEnumValue reads. -/
structure Tr (w : World) (P0 pe q g n mb : Nat) (X Y K : Nat → Int) (i : Nat) : Prop where
  st : St w q g n X Y K
  p0 : w.cell? ⟨P0, 0, none⟩ = some (.slice (some ⟨q, 0, none⟩) 1 1)
  p13 : w.cell? ⟨P0, 13, none⟩ = some (.map (some mb))
  e0 : w.cell? ⟨pe, 0, none⟩ = some (.int .u32 0)
  e1 : w.cell? ⟨pe, 1, none⟩ = some (.int .u32 (i : Int))
  nP : P0 ≠ g
  ne : pe ≠ g
  nq : q ≠ g
/-- What it answers. -/
def Ans (w : World) (g mb : Nat) (K : Nat → Int) (r : Nat) (x : ByteArray) (v : Value) (b : Bool) : Prop :=
  (v = .agg #[.slice none 0 0, .float .f64 0] ∧ b = false ∧ (K r ≠ 19 ∨ ∃ c fo, MapF Tryd.prog w mb 50 c fo ∧ mb ≠ g ∧ fo (.agg #[.int .u32 0, .int .u32 (r : Int)]) = none)) ∨
  (K r = 19 ∧ ∃ c fo tb c2 ft, MapF Tryd.prog w mb 50 c fo ∧ mb ≠ g ∧ tb ≠ g ∧ fo (.agg #[.int .u32 0, .int .u32 (r : Int)]) = some (.map (some tb)) ∧ MapF Tryd.prog w tb 9 c2 ft ∧
    ((v = .agg #[.slice none 0 0, .float .f64 0] ∧ b = false ∧ ft (.string x) = none) ∨ ∃ A L C f, v = .agg #[.slice A L C, .float .f64 f] ∧ b = true ∧ ft (.string x) = some v))
def Tp (w : World) (g : Nat) (v : Value) (b : Bool) (e : Ending) (w' : World) : Prop := e = .returned (.tuple #[v, .bool b]) ∧ Fg g w w'

set_option maxRecDepth 100000 in
set_option maxHeartbeats 2000000 in
theorem try23 (P0 pe q g n r d i mb : Nat) (X Y K : Nat → Int) (x : ByteArray) (v : Value) (b : Bool) (w : World) (h : Tr w P0 pe q g n mb X Y K i) (hch : Ch X Y n r d i) (hn : n ≤ 65536) (hrn : r < n) (hg0 : 0 ≠ g) (hx : x.size ≤ maxLen) (ha : Ans w g mb K r x v b) :
    Calls Tryd.prog 23 #[.pointer (some ⟨P0, 0, none⟩), .agg #[.iface 108 (.pointer (some ⟨pe, 0, none⟩)), .int .i32 0], .string x] w (Tp w g v b) := by
  have HTR := Lib.hid h
  have HANS := Lib.hid ha
  have HX := Lib.hid hx
  have htp : ∀ W, (Instr.typeAssert (.iface 108 (.pointer (some ⟨pe, 0, none⟩))) 89 108 true).run Tryd.prog W = .ok (.tuple #[.pointer (some ⟨pe, 0, none⟩), .bool true]) W := fun W => by kernel_rfl
  have hfo := fun W hs => follow29 q g n r K hn h.nq hg0 d W X Y i hs hch
  have HFO := Lib.hid hfo
  obtain ⟨w4, hw4⟩ : ∃ W, W = (w.alloc (.cells #[.iface 108 (.pointer (some ⟨pe, 0, none⟩)), .int .i32 0] 112)).alloc (.cells #[.slice none 0 0, .float .f64 0] 46) := ⟨_, rfl⟩
  have hb4 : Below w.heap.size w w4 := by rw [hw4]; exact ((Below.refl _ _).alloc (Nat.le_refl _) _).alloc (by simp) _
  have HB4 := Lib.hid hb4
  have HST4 := Lib.hid (h.st.below hb4)
  have hr2 := Row.newArr (w.alloc (.cells #[.iface 108 (.pointer (some ⟨pe, 0, none⟩)), .int .i32 0] 112)) 46 #[.slice none 0 0, .float .f64 0]
  rw [← hw4, show (w.alloc (.cells #[.iface 108 (.pointer (some ⟨pe, 0, none⟩)), .int .i32 0] 112)).heap.size = w.heap.size + 1 by simp] at hr2
  have Q2 := Lib.hid hr2
  have hsz4 : w.heap.size + 1 < w4.heap.size := hr2.lt
  have hglt : g < w.heap.size := h.st.sy.lt
  have s0 := cell_later hb4 h.p0
  have s2 := cell_later hb4 h.e0
  have s3 := cell_later hb4 h.e1
  clear h ha hx hfo hb4 hr2
  go_enter Tryd.func23, Tryd.ntmps23
  go_wp2_with fail
  rw [← hw4]
  clear hw4
  refine wp_region_held_drew (S := (fun W => W.cell? ⟨P0, 0, none⟩ = some (.slice (some ⟨q, 0, none⟩) 1 1) ∧ W.cell? ⟨pe, 0, none⟩ = some (.int .u32 0) ∧ W.cell? ⟨pe, 1, none⟩ = some (.int .u32 (i : Int)))) (by kernel_rfl) ⟨s0, s2, s3⟩ (fun hHeld => ?_)
  refine wpAnyH_take (i := 0) (v := .pointer (some ⟨P0, 0, none⟩)) rfl (by kernel_rfl) (by kernel_rfl) (by kernel_rfl) (fun _ _ _ h => h) (Or.inl ⟨by rfl, fun W _ => by go_simp⟩) ⟨s0, s2, s3⟩ ?_
  simp only [Act.put, List.setIfInBounds_toArray]
  refine wpAnyH_take (i := 1) (v := .pointer (some ⟨P0, 0, none⟩)) rfl (by kernel_rfl) (by kernel_rfl) (by kernel_rfl) (fun _ _ _ h => h) (Or.inl ⟨by rfl, fun W _ => by go_simp⟩) ⟨s0, s2, s3⟩ ?_
  simp only [Act.put]
  refine wpAnyH_take (i := 2) (v := .pointer (some ⟨P0, 0, none⟩)) rfl (by kernel_rfl) (by kernel_rfl) (by kernel_rfl) (fun _ _ _ h => h) (Or.inl ⟨by rfl, fun W _ => by go_simp⟩) ⟨s0, s2, s3⟩ ?_
  simp only [Act.put]
  refine wpAnyH_take (i := 3) (v := .agg #[.slice (some ⟨q, 0, none⟩) 1 1]) rfl (by kernel_rfl) (by kernel_rfl) (by kernel_rfl) (fun _ _ _ h => h) (Or.inl ⟨by rfl, fun W hS => by obtain ⟨hS1, hS2, hS3⟩ := hS; go_simp⟩) ⟨s0, s2, s3⟩ ?_
  simp only [Act.put]
  refine wpAnyH_take (i := 4) (v := .pointer (some ⟨pe, 0, none⟩)) rfl (by kernel_rfl) (by kernel_rfl) (by kernel_rfl) (fun _ _ _ h => h) (Or.inl ⟨by rfl, fun W _ => by go_simp⟩) ⟨s0, s2, s3⟩ ?_
  simp only [Act.put]
  refine wpAnyH_take (i := 5) (v := .pointer (some ⟨pe, 0, none⟩)) rfl (by kernel_rfl) (by kernel_rfl) (by kernel_rfl) (fun _ _ _ h => h) (Or.inl ⟨by rfl, fun W _ => by go_simp⟩) ⟨s0, s2, s3⟩ ?_
  simp only [Act.put]
  refine wpAnyH_take (i := 6) (v := .pointer (some ⟨pe, 0, none⟩)) rfl (by kernel_rfl) (by kernel_rfl) (by kernel_rfl) (fun _ _ _ h => h) (Or.inl ⟨by rfl, fun W _ => by go_simp⟩) ⟨s0, s2, s3⟩ ?_
  simp only [Act.put]
  refine wpAnyH_take (i := 7) (v := .agg #[.int .u32 0, .int .u32 (i : Int)]) rfl (by kernel_rfl) (by kernel_rfl) (by kernel_rfl) (fun _ _ _ h => h) (Or.inl ⟨by rfl, fun W hS => by obtain ⟨hS1, hS2, hS3⟩ := hS; go_simp⟩) ⟨s0, s2, s3⟩ ?_
  simp only [Act.put]
  refine wpAnyH_ready (rs := [8, 9]) (by kernel_rfl) (by simp) ?_
  refine AllReadyH.cons rfl (fun K hK => ?_) (AllReadyH.cons rfl (fun K hK => ?_) AllReadyH.nil)
  · go_simp
    with_reducible refine (HFO.out _ (HST4.out.below ((Below.refl w4.heap.size w4).drew))).mono ?_
    rintro e w6 ⟨rfl, X2, Y2, hsy6, hcmp6, hfg6⟩
    have HSY6 := Lib.hid hsy6
    have hres6 := TeC.Row.fg (Q2.out.below ((Below.refl w4.heap.size w4).drew) (by omega)) hfg6 (by omega)
    have HRES6 := Lib.hid hres6
    have HF46 := Lib.hid ((Fg.below ((Below.refl w4.heap.size w4).drew)).trans hfg6)
    have HF6 := Lib.hid ((Fg.below HB4.out).trans HF46.out)
    have u0 := cell_fg HF46.out HTR.out.nP s0
    have u2 := cell_fg HF46.out HTR.out.ne s2
    have u3 := cell_fg HF46.out HTR.out.ne s3
    have HSZ6 := Lib.hid hfg6.size
    clear hres6 hsy6 hcmp6 hfg6
    try go_simp
    refine hK.out _ _ ⟨u0, u2, u3⟩ (fun _ => ?_)
    clear hK K
    try simp only [Act.put]
    have hl6 : w.heap.size + 1 < w6.heap.size := Nat.lt_of_lt_of_le hsz4 HSZ6.out
    have hal : Below w6.heap.size w6 (w6.alloc (.cells #[.int .u32 0, .int .u32 0] 50)) := (Below.refl _ _).alloc (Nat.le_refl _) _
    have hal2 : Below w6.heap.size w6 (w6.alloc (.cells #[.int .u32 0, .int .u32 (r : Int)] 50)) := (Below.refl _ _).alloc (Nat.le_refl _) _
    have HQ := Lib.hid (show Sy (w6.alloc (.cells #[.int .u32 0, .int .u32 (r : Int)] 50)) g n X2 Y2 K ∧ Row (w6.alloc (.cells #[.int .u32 0, .int .u32 (r : Int)] 50)) w6.heap.size 50 [.int .u32 0, .int .u32 (r : Int)] ∧ Row (w6.alloc (.cells #[.int .u32 0, .int .u32 (r : Int)] 50)) (w.heap.size + 1) 46 [.slice none 0 0, .float .f64 0] ∧ Fg g w (w6.alloc (.cells #[.int .u32 0, .int .u32 (r : Int)] 50)) from ⟨HSY6.out.below hal2 HSY6.out.lt, Row.newArr w6 50 #[.int .u32 0, .int .u32 (r : Int)], HRES6.out.below hal2 HRES6.out.lt, HF6.out.trans (Fg.below hal2)⟩)
    have NP := Lib.hid hl6
    have t0 := cell_later hal u0
    have t2 := cell_later hal u2
    have t3 := cell_later hal u3
    have v0 := cell_later hal2 u0
    have v2 := cell_later hal2 u2
    have v3 := cell_later hal2 u3
    clear hal hal2
    refine wpAnyH_ready (rs := [9]) (by kernel_rfl) (by simp) ?_
    refine AllReadyH.cons rfl (fun K hK => ?_) AllReadyH.nil
    go_simp
    refine hK.out _ _ ⟨t0, t2, t3⟩ (fun _ => ?_)
    clear hK K
    try simp only [Act.put]
    refine wpAnyH_ready (rs := [10]) (by kernel_rfl) (by simp) ?_
    refine AllReadyH.cons rfl (fun K hK => ?_) AllReadyH.nil
    go_simp
    refine hK.out _ _ ⟨v0, v2, v3⟩ (fun _ => ?_)
    clear hK K
    try simp only [Act.put]
    refine wpAnyH_done (by kernel_rfl) ?_ _
    clear u0 u2 u3 v0 v2 v3 t0 t2 t3 s0 s2 s3
    obtain ⟨p, hp⟩ : ∃ x, x = w6.heap.size := ⟨_, rfl⟩
    obtain ⟨W, hW⟩ : ∃ x, x = w6.alloc (.cells #[.int .u32 0, .int .u32 (r : Int)] 50) := ⟨_, rfl⟩
    have HALL := Lib.hid (show Sy W g n X2 Y2 K ∧ Row W p 50 [.int .u32 0, .int .u32 (r : Int)] ∧ Row W (w.heap.size + 1) 46 [.slice none 0 0, .float .f64 0] ∧ Fg g w W from by rw [hW, hp]; exact HQ.out)
    have hpn : w.heap.size ≤ p := by rw [hp]; exact Nat.le_of_lt (Nat.lt_of_succ_lt NP.out)
    have hpr : p ≠ (w.heap.size + 1) := by rw [hp]; exact Nat.ne_of_gt NP.out
    rw [← hW, ← hp]
    clear hW hp HQ NP
    have HPR := Lib.hid hpr
    have x0 := cell_fg HALL.out.2.2.2 HTR.out.nP HTR.out.p0
    have p0 := HALL.out.2.1.at_ (i := 0) rfl
    have p1 := HALL.out.2.1.at_ (i := 1) rfl
    have hrow : Row W q 57 [.slice (some ⟨g, 0, none⟩) n n] := TeC.Row.fg HTR.out.st.row HALL.out.2.2.2 HTR.out.nq
    have HROW := Lib.hid hrow
    have HG30 := Lib.hid (get30 q g n r X2 Y2 K W.drew (HALL.out.1.below (Below.refl W.heap.size W).drew HALL.out.1.lt) HROW.out.drew hrn hn)
    clear hrow hpr
    go_wp2_with fail
    go_region_held3 (fun w' => w'.cell? ⟨P0, 0, none⟩ = some (.slice (some ⟨q, 0, none⟩) 1 1) ∧ w'.cell? ⟨p, 0, none⟩ = some (.int .u32 0) ∧ w'.cell? ⟨p, 1, none⟩ = some (.int .u32 (r : Int))) (first | exact ⟨x0, p0, p1⟩ | exact HK2.out)
      (first | (go_at_call 30; (with_reducible refine HG30.out.mono ?_); rintro e w7 ⟨rfl, hb7⟩; have HK2 := Lib.hid (show w7.cell? ⟨P0, 0, none⟩ = some (.slice (some ⟨q, 0, none⟩) 1 1) ∧ w7.cell? ⟨p, 0, none⟩ = some (.int .u32 0) ∧ w7.cell? ⟨p, 1, none⟩ = some (.int .u32 (r : Int)) from ⟨cell_later hb7 x0, cell_later hb7 p0, cell_later hb7 p1⟩); have HB7 := Lib.hid hb7; clear hb7))
    obtain ⟨V, hV⟩ : ∃ x, x = w7 := ⟨_, rfl⟩
    have hbV : Below W.heap.size W w7 := ⟨HB7.out.os, HB7.out.tape, HB7.out.output, HB7.out.size, HB7.out.block⟩
    have HSV := Lib.hid (HALL.out.1.below hbV HALL.out.1.lt)
    have HPV := Lib.hid (HALL.out.2.1.below hbV HALL.out.2.1.lt)
    have HRV := Lib.hid (HALL.out.2.2.1.below hbV HALL.out.2.2.1.lt)
    have HFV := Lib.hid (HALL.out.2.2.2.trans (Fg.below hbV))
    clear hV HK2 HB7 hbV HALL HROW HG30 x0 p0 p1
    have k8 := HSV.out.ck r hrn
    obtain ⟨kr, hkr⟩ : ∃ x, x = K r := ⟨_, rfl⟩
    rw [← hkr] at k8
    have z0 := HRV.out.at_ (i := 0) rfl
    have z1 := HRV.out.at_ (i := 1) rfl
    have z2 := HRV.out.frozen 0
    have z3 := HRV.out.frozen 1
    rcases HANS.out with ⟨rfl, rfl, hno⟩ | ⟨hk, c, fo, tb, c2, ft, hmo, hmb, htb, hfo, hmt, hval⟩
    · by_cases h19 : kr = 19
      · rcases hno with hno | ⟨c, fo, hmo, hmb, hfo⟩
        · exact absurd (hkr.symm.trans h19) hno
        have t19 : (kr == 19) = true := by simp [h19]
        clear h19 hkr
        have x13 := cell_fg HFV.out HTR.out.nP HTR.out.p13
        have p0 := HPV.out.at_ (i := 0) rfl
        have p1 := HPV.out.at_ (i := 1) rfl
        have hlk0 := MapF.look_ok (map_fg HFV.out hmb hmo).drew Tryd.underlying41 keyed50 (key_ref (r : Int) (by omega)) (zero67 _)
        have hlk : (Instr.lookup 41 (.map (some mb)) (.agg #[.int .u32 0, .int .u32 (r : Int)]) true).run Tryd.prog w7.drew = .ok (.tuple #[.map none, .bool false]) w7.drew := by
          rw [hfo] at hlk0
          exact hlk0
        clear hlk0
        go_wp2_with fail
        go_region_held3 (fun w' => w'.cell? ⟨P0, 13, none⟩ = some (.map (some mb)) ∧ w'.cell? ⟨p, 0, none⟩ = some (.int .u32 0) ∧ w'.cell? ⟨p, 1, none⟩ = some (.int .u32 (r : Int)) ∧ (Instr.lookup 41 (.map (some mb)) (.agg #[.int .u32 0, .int .u32 (r : Int)]) true).run Tryd.prog w' = .ok (.tuple #[.map none, .bool false]) w') (first | exact ⟨x13, p0, p1, hlk⟩ | assumption) (fail)
        clear hlk x13 p0 p1
        obtain ⟨W9, hW9⟩ : ∃ x, x = (w7.drew).setRow (w.heap.size + 1) #[.slice none 0 0, .float .f64 0] := ⟨_, rfl⟩
        have hr9 : Row W9 (w.heap.size + 1) 46 [.slice none 0 0, .float .f64 0] := by rw [hW9]; exact row_setRow HRV.out.drew _
        have y0 := hr9.at_ (i := 0) rfl
        have y1 := hr9.at_ (i := 1) rfl
        have HFIN := Lib.hid (show Tp w g (.agg #[.slice none 0 0, .float .f64 0]) false (.returned (.tuple #[.agg #[.slice none 0 0, .float .f64 0], .bool false])) W9 from ⟨rfl, by rw [hW9]; exact Fg.setRow (HFV.out.trans (Fg.below (Below.refl w7.heap.size w7).drew)) (by omega) _⟩)
        clear hr9
        go_wp2_with (refine wpList_store_rowTo rfl 46 _ _ rfl rfl (w.heap.size + 1) #[.slice none 0 0, .float .f64 0] rfl rfl 46 _ HRV.out.drew (by kernel_rfl) rfl (by kernel_rfl) ?_)
        rw [← hW9]
        clear hW9
        exact bodyPost_ret (v := .tuple #[.agg #[.slice none 0 0, .float .f64 0], .bool false]) (by simp [results, Tryd.results23, go_sem, y0, y1]) rfl HFIN.out
      · have t19 : (kr == 19) = false := by simp [h19]
        clear h19 hkr hno
        obtain ⟨W9, hW9⟩ : ∃ x, x = (w7).setRow (w.heap.size + 1) #[.slice none 0 0, .float .f64 0] := ⟨_, rfl⟩
        have hr9 : Row W9 (w.heap.size + 1) 46 [.slice none 0 0, .float .f64 0] := by rw [hW9]; exact row_setRow HRV.out _
        have y0 := hr9.at_ (i := 0) rfl
        have y1 := hr9.at_ (i := 1) rfl
        have HFIN := Lib.hid (show Tp w g (.agg #[.slice none 0 0, .float .f64 0]) false (.returned (.tuple #[.agg #[.slice none 0 0, .float .f64 0], .bool false])) W9 from ⟨rfl, by rw [hW9]; exact Fg.setRow HFV.out (by omega) _⟩)
        clear hr9
        go_wp2_with (refine wpList_store_rowTo rfl 46 _ _ rfl rfl (w.heap.size + 1) #[.slice none 0 0, .float .f64 0] rfl rfl 46 _ HRV.out (by kernel_rfl) rfl (by kernel_rfl) ?_)
        rw [← hW9]
        clear hW9
        exact bodyPost_ret (v := .tuple #[.agg #[.slice none 0 0, .float .f64 0], .bool false]) (by simp [results, Tryd.results23, go_sem, y0, y1]) rfl HFIN.out
    · have t19 : (kr == 19) = true := by simp [hkr, hk]
      obtain ⟨A, L, C, f, rfl, hlv⟩ : ∃ A L C f, v = .agg #[.slice A L C, .float .f64 f] ∧ (ft (.string x)).getD (.agg #[.slice none 0 0, .float .f64 0]) = .agg #[.slice A L C, .float .f64 f] ∧ (ft (.string x)).isSome = b := by
        rcases hval with ⟨rfl, rfl, h0⟩ | ⟨A, L, C, f, rfl, rfl, h0⟩
        · exact ⟨_, _, _, _, rfl, by rw [h0]; rfl, by rw [h0]; rfl⟩
        · exact ⟨A, L, C, f, rfl, by rw [h0]; rfl, by rw [h0]; rfl⟩
      clear hkr hk hval
      have x13 := cell_fg HFV.out HTR.out.nP HTR.out.p13
      have p0 := HPV.out.at_ (i := 0) rfl
      have p1 := HPV.out.at_ (i := 1) rfl
      have hlk0 := MapF.look_ok (map_fg HFV.out hmb hmo).drew Tryd.underlying41 keyed50 (key_ref (r : Int) (by omega)) (zero67 _)
      have hlk : (Instr.lookup 41 (.map (some mb)) (.agg #[.int .u32 0, .int .u32 (r : Int)]) true).run Tryd.prog w7.drew = .ok (.tuple #[.map (some tb), .bool true]) w7.drew := by
        rw [hfo] at hlk0
        exact hlk0
      clear hlk0
      go_wp2_with fail
      go_region_held3 (fun w' => w'.cell? ⟨P0, 13, none⟩ = some (.map (some mb)) ∧ w'.cell? ⟨p, 0, none⟩ = some (.int .u32 0) ∧ w'.cell? ⟨p, 1, none⟩ = some (.int .u32 (r : Int)) ∧ (Instr.lookup 41 (.map (some mb)) (.agg #[.int .u32 0, .int .u32 (r : Int)]) true).run Tryd.prog w' = .ok (.tuple #[.map (some tb), .bool true]) w') (first | exact ⟨x13, p0, p1, hlk⟩ | assumption) (fail)
      clear hlk x13 p0 p1
      have hlk2 := MapF.look_ok (map_fg (HFV.out.trans (Fg.below (Below.refl w7.heap.size w7).drew)) htb hmt) Tryd.underlying67 keyed9 (key_str x HX.out) (zero46 _)
      rw [hlv.1, hlv.2] at hlk2
      have hh := heap_alloc_new w7.drew (.cells #[.slice none 0 0, .float .f64 0] 46)
      clear hlv hmo hmt hfo
      have hr8 := row_setRow (Row.newArr w7 46 #[.slice none 0 0, .float .f64 0]).drew #[.slice A L C, .float .f64 f]
      have m0 := hr8.at_ (i := 0) rfl
      have m1 := hr8.at_ (i := 1) rfl
      have hl7 := HRV.out.lt
      have HR8 := Lib.hid (row_far (HRV.out.alloc (.cells #[.slice none 0 0, .float .f64 0] 46)).drew (Nat.ne_of_lt hl7) #[.slice A L C, .float .f64 f])
      have HF8 := Lib.hid (Fg.setRow (HFV.out.trans (Fg.below ((Below.refl w7.heap.size w7).alloc (Nat.le_refl _) (.cells #[.slice none 0 0, .float .f64 0] 46)).drew)) (show w.heap.size ≤ w7.heap.size by omega) #[.slice A L C, .float .f64 f])
      obtain ⟨W9, hW9⟩ : ∃ x, x = ((w7.alloc (.cells #[.slice none 0 0, .float .f64 0] 46)).drew.setRow w7.heap.size #[.slice A L C, .float .f64 f]).setRow (w.heap.size + 1) #[.slice A L C, .float .f64 f] := ⟨_, rfl⟩
      have hr9 : Row W9 (w.heap.size + 1) 46 [.slice A L C, .float .f64 f] := by rw [hW9]; exact row_setRow HR8.out _
      have y0 := hr9.at_ (i := 0) rfl
      have y1 := hr9.at_ (i := 1) rfl
      have HFIN := Lib.hid (show Tp w g (.agg #[.slice A L C, .float .f64 f]) b (.returned (.tuple #[.agg #[.slice A L C, .float .f64 f], .bool b])) W9 from ⟨rfl, by rw [hW9]; exact Fg.setRow HF8.out (by omega) _⟩)
      clear hr9 hr8 hl7
      go_wp2_with (first | (refine wpList_store_rowTo rfl 46 _ _ rfl rfl w7.heap.size #[.slice A L C, .float .f64 f] rfl rfl 46 _ hh (by kernel_rfl) rfl (by kernel_rfl) ?_) | (refine wpList_store_rowTo rfl 46 _ _ rfl rfl (w.heap.size + 1) #[.slice A L C, .float .f64 f] rfl rfl 46 _ HR8.out (by kernel_rfl) rfl (by kernel_rfl) ?_))
      rw [← hW9]
      clear hW9
      exact bodyPost_ret (v := .tuple #[.agg #[.slice A L C, .float .f64 f], .bool b]) (by simp [results, Tryd.results23, go_sem, y0, y1]) rfl HFIN.out
  · have t0 := cell_later ((Below.refl w4.heap.size w4).alloc (Nat.le_refl _) (.cells #[.int .u32 0, .int .u32 0] 50)).drew s0
    have t2 := cell_later ((Below.refl w4.heap.size w4).alloc (Nat.le_refl _) (.cells #[.int .u32 0, .int .u32 0] 50)).drew s2
    have t3 := cell_later ((Below.refl w4.heap.size w4).alloc (Nat.le_refl _) (.cells #[.int .u32 0, .int .u32 0] 50)).drew s3
    have HP5 := Lib.hid (show Row (w4.alloc (.cells #[.int .u32 0, .int .u32 0] 50)).drew w4.heap.size 50 [.int .u32 0, .int .u32 0] from (Row.newArr w4 50 #[.int .u32 0, .int .u32 0]).drew)
    go_simp
    refine hK.out _ _ ⟨t0, t2, t3⟩ (fun _ => ?_)
    clear hK K
    try simp only [Act.put]
    refine wpAnyH_ready (rs := [8]) (by kernel_rfl) (by simp) ?_
    refine AllReadyH.cons rfl (fun K hK => ?_) AllReadyH.nil
    go_simp
    with_reducible refine (HFO.out _ (HST4.out.below (((Below.refl w4.heap.size w4).alloc (Nat.le_refl _) (.cells #[.int .u32 0, .int .u32 0] 50)).drew))).mono ?_
    rintro e w6 ⟨rfl, X2, Y2, hsy6, hcmp6, hfg6⟩
    have HSY6 := Lib.hid hsy6
    have hres6 := TeC.Row.fg (Q2.out.below (((Below.refl w4.heap.size w4).alloc (Nat.le_refl _) (.cells #[.int .u32 0, .int .u32 0] 50)).drew) (by omega)) hfg6 (by omega)
    have HRES6 := Lib.hid hres6
    have HF46 := Lib.hid ((Fg.below (((Below.refl w4.heap.size w4).alloc (Nat.le_refl _) (.cells #[.int .u32 0, .int .u32 0] 50)).drew)).trans hfg6)
    have HF6 := Lib.hid ((Fg.below HB4.out).trans HF46.out)
    have u0 := cell_fg HF46.out HTR.out.nP s0
    have u2 := cell_fg HF46.out HTR.out.ne s2
    have u3 := cell_fg HF46.out HTR.out.ne s3
    have HSZ6 := Lib.hid hfg6.size
    have hgl4 : g < w4.heap.size := HST4.out.sy.lt
    have hp6 := TeC.Row.fg HP5.out hfg6 (Nat.ne_of_gt hgl4)
    have k0 := hp6.at_ (i := 0) rfl
    have k1 := hp6.at_ (i := 1) rfl
    have k2 := hp6.frozen 0
    have k3 := hp6.frozen 1
    have HQ := Lib.hid (behind2 (r := (r : Int)) hsy6 hp6 hres6 HF6.out (Nat.ne_of_lt hgl4) (Nat.ne_of_lt hsz4) HB4.out.size)
    have NP := Lib.hid hsz4
    have v0 := cell_two (u := .int .u32 0) (u' := .int .u32 (r : Int)) (Nat.ne_of_lt (World.block_lt_of_cell? w4 _ s0)) u0
    have v2 := cell_two (u := .int .u32 0) (u' := .int .u32 (r : Int)) (Nat.ne_of_lt (World.block_lt_of_cell? w4 _ s2)) u2
    have v3 := cell_two (u := .int .u32 0) (u' := .int .u32 (r : Int)) (Nat.ne_of_lt (World.block_lt_of_cell? w4 _ s3)) u3
    clear hp6 hres6 hsy6 hcmp6 hfg6
    try go_simp
    refine hK.out _ _ ⟨u0, u2, u3⟩ (fun _ => ?_)
    clear hK K
    try simp only [Act.put]
    refine wpAnyH_ready (rs := [10]) (by kernel_rfl) (by simp) ?_
    refine AllReadyH.cons rfl (fun K hK => ?_) AllReadyH.nil
    go_simp
    refine hK.out _ _ ⟨v0, v2, v3⟩ (fun _ => ?_)
    clear hK K
    try simp only [Act.put]
    refine wpAnyH_done (by kernel_rfl) ?_ _
    clear u0 u2 u3 v0 v2 v3 t0 t2 t3 s0 s2 s3 k0 k1 k2 k3
    obtain ⟨p, hp⟩ : ∃ x, x = w4.heap.size := ⟨_, rfl⟩
    obtain ⟨W, hW⟩ : ∃ x, x = (w6.setCell ⟨w4.heap.size, 0, none⟩ (.int .u32 0)).setCell ⟨w4.heap.size, 1, none⟩ (.int .u32 (r : Int)) := ⟨_, rfl⟩
    have HALL := Lib.hid (show Sy W g n X2 Y2 K ∧ Row W p 50 [.int .u32 0, .int .u32 (r : Int)] ∧ Row W (w.heap.size + 1) 46 [.slice none 0 0, .float .f64 0] ∧ Fg g w W from by rw [hW, hp]; exact HQ.out)
    have hpn : w.heap.size ≤ p := by rw [hp]; exact Nat.le_of_lt (Nat.lt_of_succ_lt NP.out)
    have hpr : p ≠ (w.heap.size + 1) := by rw [hp]; exact Nat.ne_of_gt NP.out
    rw [← hW, ← hp]
    clear hW hp HQ NP
    have HPR := Lib.hid hpr
    have x0 := cell_fg HALL.out.2.2.2 HTR.out.nP HTR.out.p0
    have p0 := HALL.out.2.1.at_ (i := 0) rfl
    have p1 := HALL.out.2.1.at_ (i := 1) rfl
    have hrow : Row W q 57 [.slice (some ⟨g, 0, none⟩) n n] := TeC.Row.fg HTR.out.st.row HALL.out.2.2.2 HTR.out.nq
    have HROW := Lib.hid hrow
    have HG30 := Lib.hid (get30 q g n r X2 Y2 K W.drew (HALL.out.1.below (Below.refl W.heap.size W).drew HALL.out.1.lt) HROW.out.drew hrn hn)
    clear hrow hpr
    go_wp2_with fail
    go_region_held3 (fun w' => w'.cell? ⟨P0, 0, none⟩ = some (.slice (some ⟨q, 0, none⟩) 1 1) ∧ w'.cell? ⟨p, 0, none⟩ = some (.int .u32 0) ∧ w'.cell? ⟨p, 1, none⟩ = some (.int .u32 (r : Int))) (first | exact ⟨x0, p0, p1⟩ | exact HK2.out)
      (first | (go_at_call 30; (with_reducible refine HG30.out.mono ?_); rintro e w7 ⟨rfl, hb7⟩; have HK2 := Lib.hid (show w7.cell? ⟨P0, 0, none⟩ = some (.slice (some ⟨q, 0, none⟩) 1 1) ∧ w7.cell? ⟨p, 0, none⟩ = some (.int .u32 0) ∧ w7.cell? ⟨p, 1, none⟩ = some (.int .u32 (r : Int)) from ⟨cell_later hb7 x0, cell_later hb7 p0, cell_later hb7 p1⟩); have HB7 := Lib.hid hb7; clear hb7))
    obtain ⟨V, hV⟩ : ∃ x, x = w7 := ⟨_, rfl⟩
    have hbV : Below W.heap.size W w7 := ⟨HB7.out.os, HB7.out.tape, HB7.out.output, HB7.out.size, HB7.out.block⟩
    have HSV := Lib.hid (HALL.out.1.below hbV HALL.out.1.lt)
    have HPV := Lib.hid (HALL.out.2.1.below hbV HALL.out.2.1.lt)
    have HRV := Lib.hid (HALL.out.2.2.1.below hbV HALL.out.2.2.1.lt)
    have HFV := Lib.hid (HALL.out.2.2.2.trans (Fg.below hbV))
    clear hV HK2 HB7 hbV HALL HROW HG30 x0 p0 p1
    have k8 := HSV.out.ck r hrn
    obtain ⟨kr, hkr⟩ : ∃ x, x = K r := ⟨_, rfl⟩
    rw [← hkr] at k8
    have z0 := HRV.out.at_ (i := 0) rfl
    have z1 := HRV.out.at_ (i := 1) rfl
    have z2 := HRV.out.frozen 0
    have z3 := HRV.out.frozen 1
    rcases HANS.out with ⟨rfl, rfl, hno⟩ | ⟨hk, c, fo, tb, c2, ft, hmo, hmb, htb, hfo, hmt, hval⟩
    · by_cases h19 : kr = 19
      · rcases hno with hno | ⟨c, fo, hmo, hmb, hfo⟩
        · exact absurd (hkr.symm.trans h19) hno
        have t19 : (kr == 19) = true := by simp [h19]
        clear h19 hkr
        have x13 := cell_fg HFV.out HTR.out.nP HTR.out.p13
        have p0 := HPV.out.at_ (i := 0) rfl
        have p1 := HPV.out.at_ (i := 1) rfl
        have hlk0 := MapF.look_ok (map_fg HFV.out hmb hmo).drew Tryd.underlying41 keyed50 (key_ref (r : Int) (by omega)) (zero67 _)
        have hlk : (Instr.lookup 41 (.map (some mb)) (.agg #[.int .u32 0, .int .u32 (r : Int)]) true).run Tryd.prog w7.drew = .ok (.tuple #[.map none, .bool false]) w7.drew := by
          rw [hfo] at hlk0
          exact hlk0
        clear hlk0
        go_wp2_with fail
        go_region_held3 (fun w' => w'.cell? ⟨P0, 13, none⟩ = some (.map (some mb)) ∧ w'.cell? ⟨p, 0, none⟩ = some (.int .u32 0) ∧ w'.cell? ⟨p, 1, none⟩ = some (.int .u32 (r : Int)) ∧ (Instr.lookup 41 (.map (some mb)) (.agg #[.int .u32 0, .int .u32 (r : Int)]) true).run Tryd.prog w' = .ok (.tuple #[.map none, .bool false]) w') (first | exact ⟨x13, p0, p1, hlk⟩ | assumption) (fail)
        clear hlk x13 p0 p1
        obtain ⟨W9, hW9⟩ : ∃ x, x = (w7.drew).setRow (w.heap.size + 1) #[.slice none 0 0, .float .f64 0] := ⟨_, rfl⟩
        have hr9 : Row W9 (w.heap.size + 1) 46 [.slice none 0 0, .float .f64 0] := by rw [hW9]; exact row_setRow HRV.out.drew _
        have y0 := hr9.at_ (i := 0) rfl
        have y1 := hr9.at_ (i := 1) rfl
        have HFIN := Lib.hid (show Tp w g (.agg #[.slice none 0 0, .float .f64 0]) false (.returned (.tuple #[.agg #[.slice none 0 0, .float .f64 0], .bool false])) W9 from ⟨rfl, by rw [hW9]; exact Fg.setRow (HFV.out.trans (Fg.below (Below.refl w7.heap.size w7).drew)) (by omega) _⟩)
        clear hr9
        go_wp2_with (refine wpList_store_rowTo rfl 46 _ _ rfl rfl (w.heap.size + 1) #[.slice none 0 0, .float .f64 0] rfl rfl 46 _ HRV.out.drew (by kernel_rfl) rfl (by kernel_rfl) ?_)
        rw [← hW9]
        clear hW9
        exact bodyPost_ret (v := .tuple #[.agg #[.slice none 0 0, .float .f64 0], .bool false]) (by simp [results, Tryd.results23, go_sem, y0, y1]) rfl HFIN.out
      · have t19 : (kr == 19) = false := by simp [h19]
        clear h19 hkr hno
        obtain ⟨W9, hW9⟩ : ∃ x, x = (w7).setRow (w.heap.size + 1) #[.slice none 0 0, .float .f64 0] := ⟨_, rfl⟩
        have hr9 : Row W9 (w.heap.size + 1) 46 [.slice none 0 0, .float .f64 0] := by rw [hW9]; exact row_setRow HRV.out _
        have y0 := hr9.at_ (i := 0) rfl
        have y1 := hr9.at_ (i := 1) rfl
        have HFIN := Lib.hid (show Tp w g (.agg #[.slice none 0 0, .float .f64 0]) false (.returned (.tuple #[.agg #[.slice none 0 0, .float .f64 0], .bool false])) W9 from ⟨rfl, by rw [hW9]; exact Fg.setRow HFV.out (by omega) _⟩)
        clear hr9
        go_wp2_with (refine wpList_store_rowTo rfl 46 _ _ rfl rfl (w.heap.size + 1) #[.slice none 0 0, .float .f64 0] rfl rfl 46 _ HRV.out (by kernel_rfl) rfl (by kernel_rfl) ?_)
        rw [← hW9]
        clear hW9
        exact bodyPost_ret (v := .tuple #[.agg #[.slice none 0 0, .float .f64 0], .bool false]) (by simp [results, Tryd.results23, go_sem, y0, y1]) rfl HFIN.out
    · have t19 : (kr == 19) = true := by simp [hkr, hk]
      obtain ⟨A, L, C, f, rfl, hlv⟩ : ∃ A L C f, v = .agg #[.slice A L C, .float .f64 f] ∧ (ft (.string x)).getD (.agg #[.slice none 0 0, .float .f64 0]) = .agg #[.slice A L C, .float .f64 f] ∧ (ft (.string x)).isSome = b := by
        rcases hval with ⟨rfl, rfl, h0⟩ | ⟨A, L, C, f, rfl, rfl, h0⟩
        · exact ⟨_, _, _, _, rfl, by rw [h0]; rfl, by rw [h0]; rfl⟩
        · exact ⟨A, L, C, f, rfl, by rw [h0]; rfl, by rw [h0]; rfl⟩
      clear hkr hk hval
      have x13 := cell_fg HFV.out HTR.out.nP HTR.out.p13
      have p0 := HPV.out.at_ (i := 0) rfl
      have p1 := HPV.out.at_ (i := 1) rfl
      have hlk0 := MapF.look_ok (map_fg HFV.out hmb hmo).drew Tryd.underlying41 keyed50 (key_ref (r : Int) (by omega)) (zero67 _)
      have hlk : (Instr.lookup 41 (.map (some mb)) (.agg #[.int .u32 0, .int .u32 (r : Int)]) true).run Tryd.prog w7.drew = .ok (.tuple #[.map (some tb), .bool true]) w7.drew := by
        rw [hfo] at hlk0
        exact hlk0
      clear hlk0
      go_wp2_with fail
      go_region_held3 (fun w' => w'.cell? ⟨P0, 13, none⟩ = some (.map (some mb)) ∧ w'.cell? ⟨p, 0, none⟩ = some (.int .u32 0) ∧ w'.cell? ⟨p, 1, none⟩ = some (.int .u32 (r : Int)) ∧ (Instr.lookup 41 (.map (some mb)) (.agg #[.int .u32 0, .int .u32 (r : Int)]) true).run Tryd.prog w' = .ok (.tuple #[.map (some tb), .bool true]) w') (first | exact ⟨x13, p0, p1, hlk⟩ | assumption) (fail)
      clear hlk x13 p0 p1
      have hlk2 := MapF.look_ok (map_fg (HFV.out.trans (Fg.below (Below.refl w7.heap.size w7).drew)) htb hmt) Tryd.underlying67 keyed9 (key_str x HX.out) (zero46 _)
      rw [hlv.1, hlv.2] at hlk2
      have hh := heap_alloc_new w7.drew (.cells #[.slice none 0 0, .float .f64 0] 46)
      clear hlv hmo hmt hfo
      have hr8 := row_setRow (Row.newArr w7 46 #[.slice none 0 0, .float .f64 0]).drew #[.slice A L C, .float .f64 f]
      have m0 := hr8.at_ (i := 0) rfl
      have m1 := hr8.at_ (i := 1) rfl
      have hl7 := HRV.out.lt
      have HR8 := Lib.hid (row_far (HRV.out.alloc (.cells #[.slice none 0 0, .float .f64 0] 46)).drew (Nat.ne_of_lt hl7) #[.slice A L C, .float .f64 f])
      have HF8 := Lib.hid (Fg.setRow (HFV.out.trans (Fg.below ((Below.refl w7.heap.size w7).alloc (Nat.le_refl _) (.cells #[.slice none 0 0, .float .f64 0] 46)).drew)) (show w.heap.size ≤ w7.heap.size by omega) #[.slice A L C, .float .f64 f])
      obtain ⟨W9, hW9⟩ : ∃ x, x = ((w7.alloc (.cells #[.slice none 0 0, .float .f64 0] 46)).drew.setRow w7.heap.size #[.slice A L C, .float .f64 f]).setRow (w.heap.size + 1) #[.slice A L C, .float .f64 f] := ⟨_, rfl⟩
      have hr9 : Row W9 (w.heap.size + 1) 46 [.slice A L C, .float .f64 f] := by rw [hW9]; exact row_setRow HR8.out _
      have y0 := hr9.at_ (i := 0) rfl
      have y1 := hr9.at_ (i := 1) rfl
      have HFIN := Lib.hid (show Tp w g (.agg #[.slice A L C, .float .f64 f]) b (.returned (.tuple #[.agg #[.slice A L C, .float .f64 f], .bool b])) W9 from ⟨rfl, by rw [hW9]; exact Fg.setRow HF8.out (by omega) _⟩)
      clear hr9 hr8 hl7
      go_wp2_with (first | (refine wpList_store_rowTo rfl 46 _ _ rfl rfl w7.heap.size #[.slice A L C, .float .f64 f] rfl rfl 46 _ hh (by kernel_rfl) rfl (by kernel_rfl) ?_) | (refine wpList_store_rowTo rfl 46 _ _ rfl rfl (w.heap.size + 1) #[.slice A L C, .float .f64 f] rfl rfl 46 _ HR8.out (by kernel_rfl) rfl (by kernel_rfl) ?_))
      rw [← hW9]
      clear hW9
      exact bodyPost_ret (v := .tuple #[.agg #[.slice A L C, .float .f64 f], .bool b]) (by simp [results, Tryd.results23, go_sem, y0, y1]) rfl HFIN.out

noncomputable def prn (q mb : Nat) : Array Value := (Tryd.prog.built 106 [(0, .agg #[.slice (some ⟨q, 0, none⟩) 1 1]), (12, .agg ((Tryd.prog.built 81 [(1, .map (some mb))]).getD #[]))]).getD #[]
end Go.Proofs.YtnjjenellkpkaaaDoor.TeG
