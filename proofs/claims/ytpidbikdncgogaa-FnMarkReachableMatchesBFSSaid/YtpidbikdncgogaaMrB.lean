/- FnMarkReachableMatchesBFS: what the builder builds. -/
import Derived.Test.YtpidbikdncgogaaRows
import Derived.Test.YtpidbikdncgogaaMem
import Derived.Test.YtpidbikdncgogaaSl
import Derived.Test.YtpidbikdncgogaaMrS
import Derived.Carry
import Derived.WalkKit
import Derived.ProofKit
import Derived.OpenShut
import Derived.Below
import Derived.WalkLawsBesides
import Derived.Lib.Hide
import Derived.Outline
import Derived.RegionTactic
import Derived.Deep.QuietTactic
import Derived.BigQuiet
import Derived.WalkSpells
import Derived.Deep.OwnRows
import Derived.IntWalk
import Derived.Deep.DeepMust
namespace Go.Proofs.Ytpidbikdncgogaa.MrB
open Go.RowKit Mem Sl
set_option linter.unusedVariables false
open Args Fvs Fxs Argn Tab MrI MrA MrC MrS

def Z90 : Array Value := #[.pointer none, .pointer none, .string ByteArray.empty, .string ByteArray.empty, .string ByteArray.empty, .string ByteArray.empty, .int .u8 0, .int .i32 0, .int .i32 0, .int .i32 0, .int .u32 0, .int .u32 0, .int .u16 0, .int .u8 0, .int .u8 0]
def Z103 : Array Value := #[.slice none 0 0, .slice none 0 0, .slice none 0 0, .slice none 0 0, .map none, .map none, .map none, .slice none 0 0, .bool false, .bool false, .bool false]
theorem info90 : ∃ z, (Try.prog.info? 90).map (fun i => (i.zero, i.size, decide (i.bytes ≤ 1000))) = some (some z, 15, true) ∧ z.cells = Z90 := ⟨((Try.prog.info? 90).bind (·.zero)).getD undef, by kernel_rfl, by kernel_rfl⟩
theorem info103 : ∃ z, (Try.prog.info? 103).map (fun i => (i.zero, i.size, decide (i.bytes ≤ 1000))) = some (some z, 11, true) ∧ z.cells = Z103 := ⟨((Try.prog.info? 103).bind (·.zero)).getD undef, by kernel_rfl, by kernel_rfl⟩
theorem info95 : ∃ z, (Try.prog.info? 95).map (fun i => (i.zero, i.size, decide (i.bytes ≤ 1000))) = some (some z, 2, true) ∧ z.cells = #[.int .u32 0, .int .u32 0] := ⟨((Try.prog.info? 95).bind (·.zero)).getD undef, by kernel_rfl, by kernel_rfl⟩
theorem info62 : ∃ z, (Try.prog.info? 62).map (fun i => (i.zero, i.size, decide (i.bytes ≤ 1000))) = some (some z, 24, true) ∧ z.cells.size = 24 := ⟨((Try.prog.info? 62).bind (·.zero)).getD undef, by kernel_rfl, by kernel_rfl⟩
theorem info104 : (Try.prog.info? 104).map (fun i => (i.zero, i.size, i.bytes)) = some (some (.pointer none), 1, 8) := by kernel_rfl
noncomputable def c144 : Array Value := (Try.prog.built 144 []).getD #[]
theorem built144 : Try.prog.built 144 [] = some c144 := by kernel_rfl
theorem c144_size : c144.size = 64 := by kernel_rfl
theorem c144_at : c144[20]? = some (.slice none 0 0) ∧ c144[35]? = some (.slice none 0 0) ∧ c144[63]? = some (.int .u32 0) := ⟨by kernel_rfl, by kernel_rfl, by kernel_rfl⟩
theorem made144 (w : World) : Fv (w.alloc (.cells c144 144)) w.heap.size 64 (fun i => (c144[i]?).getD undef) := by
  have hr := Row.newArr w 144 c144
  refine ⟨hr.lt, fun i hi => ?_, fun i => hr.frozen i⟩
  have h1 : c144.toList[i]? = some ((c144[i]?).getD undef) := by
    rw [Array.getElem?_toList, Array.getElem?_eq_getElem (by rw [c144_size]; exact hi)]; rfl
  exact hr.at_ h1
/-- A record as it is built. -/
def recB (d : Dat) (i : Nat) : Nat → Nat → Value := fun j c => if c = 10 then .int .u32 (flp (d.rt i j)) else if c = 12 then .int .u16 (if d.rx i j = true then 1024 else 0) else if c = 14 then .int .u8 (d.rk i j) else Z90.getD c undef
/-- A part as it is built. -/
def partB (d : Dat) (i : Nat) (I D : Nat → Nat) : Nat → Nat → Value := fun j c => if c = 2 then .slice (some ⟨I j, 0, none⟩) (d.ql i j) (d.ql i j) else if c = 7 then .slice (some ⟨D j, 0, none⟩) (d.dl i j) (d.dl i j) else if c = 8 then .bool (d.cb i j) else if c = 9 then .bool (d.ft i j) else Z103.getD c undef
structure Fh where
  R : Nat
  rc : Nat
  P : Nat
  E : Nat
  I : Nat → Nat
  D : Nat → Nat
/-- A file's lists and its node. -/
structure Body (w : World) (d : Dat) (i : Nat) (h : Fh) : Prop where
  r20 : w.cell? ⟨h.R, 20, none⟩ = some (.slice (some ⟨h.P, 0, none⟩) (d.pl i) (d.pl i))
  r35 : w.cell? ⟨h.R, 35, none⟩ = some (.slice (some ⟨h.rc, 0, none⟩) (d.rl i) (d.rl i))
  r63 : w.cell? ⟨h.R, 63, none⟩ = some (.int .u32 (flp (d.css i)))
  rcd : Tb w h.rc (d.rl i) 15 (recB d i)
  part : Tb w h.P (d.pl i) 11 (partB d i h.I h.D)
  dep : ∀ j, j < d.pl i → Tb w (h.D j) (d.dl i j) 2 (depT (d.df i j) (d.dp i j))
/-- The file's own row. -/
structure Row4 (w : World) (O i : Nat) (h : Fh) (lv : Bool) : Prop where
  f0 : w.cell? ⟨O, i * 24, none⟩ = some (.slice (some ⟨h.E, 0, none⟩) 32 32)
  f2 : w.cell? ⟨O, i * 24 + 2, none⟩ = some (.iface 104 (.pointer (some ⟨h.R, 0, none⟩)))
  f22 : w.cell? ⟨O, i * 24 + 22, none⟩ = some (.int .u8 0)
  f23 : w.cell? ⟨O, i * 24 + 23, none⟩ = some (.bool lv)
/-- The blocks of a file, but for its bits. -/
def Nb (h : Fh) (pl : Nat) (b : Nat) : Prop := b = h.R ∨ b = h.rc ∨ b = h.P ∨ ∃ j, j < pl ∧ b = h.D j
theorem Body.fx {Q : Nat → Prop} {w w' : World} {d : Dat} {i : Nat} {h : Fh} (b : Body w d i h) (hf : Fx Q w w') (hq : ∀ x, Nb h (d.pl i) x → ¬ Q x) : Body w' d i h := by
  have c : ∀ o v, w.cell? ⟨h.R, o, none⟩ = some v → w'.cell? ⟨h.R, o, none⟩ = some v := fun o v hv => (hf.cell (cell_lt hv) (hq _ (.inl rfl))).trans hv
  exact ⟨c _ _ b.r20, c _ _ b.r35, c _ _ b.r63, b.rcd.fx hf (hq _ (.inr (.inl rfl))), b.part.fx hf (hq _ (.inr (.inr (.inl rfl)))), fun j hj => (b.dep j hj).fx hf (hq _ (.inr (.inr (.inr ⟨j, hj, rfl⟩))))⟩
theorem Body.later {w w' : World} {d : Dat} {i : Nat} {h : Fh} (b : Body w d i h) (hb : Below w.heap.size w w') : Body w' d i h := b.fx (Q := fun _ => False) (Fx.of_below hb) (fun _ _ h => h)
theorem Body.lt {w : World} {d : Dat} {i : Nat} {h : Fh} (b : Body w d i h) {x : Nat} (hx : Nb h (d.pl i) x) : x < w.heap.size := by
  rcases hx with rfl | rfl | rfl | ⟨j, hj, rfl⟩
  · exact cell_lt b.r20
  · exact b.rcd.lt
  · exact b.part.lt
  · exact (b.dep j hj).lt
/-- What row i must hold. -/
structure RowOk (T : Nat → Nat → Value) (i : Nat) (h : Fh) (lv : Bool) : Prop where
  f0 : T i 0 = .slice (some ⟨h.E, 0, none⟩) 32 32
  f2 : T i 2 = .iface 104 (.pointer (some ⟨h.R, 0, none⟩))
  f20 : T i 20 = .int .u32 4294967295
  f22 : T i 22 = .int .u8 0
  f23 : T i 23 = .bool lv
/-- Before file k. -/
structure Lb (n k : Nat) (d : Dat) (H : Nat → Fh) (T : Nat → Nat → Value) (w wr : World) : Prop where
  tb : Tb wr w.heap.size n 24 T
  q : ∃ V, Fv wr (w.heap.size + 1) n V
  row : ∀ i, i < k → RowOk T i (H i) (d.lv i)
  body : ∀ i, i < k → Body wr d i (H i)
  bits : ∀ i, i < k → Fv wr (H i).E 32 (fun _ => .int .u8 0)
  lo : ∀ i, i < k → ∀ b, Nb (H i) (d.pl i) b ∨ b = (H i).E → w.heap.size + 2 ≤ b
  ap : ∀ i, i < k → ∀ b, Nb (H i) (d.pl i) b → b < (H i).E
  cr : ∀ i j, i < j → j < k → ∀ b b', (Nb (H i) (d.pl i) b ∨ b = (H i).E) → (Nb (H j) (d.pl j) b' ∨ b' = (H j).E) → b < b'
  bel : Below w.heap.size w wr
  sz : w.heap.size + 2 ≤ wr.heap.size
theorem lb_next {n k : Nat} {d : Dat} {H : Nat → Fh} {T T' : Nat → Nat → Value} {w wr W : World} {h : Fh} (l : Lb n k d H T w wr) (ht : Tb W w.heap.size n 24 T') (hq : ∃ V, Fv W (w.heap.size + 1) n V) (hlow : ∀ i, i < k → ∀ c, c < 24 → T' i c = T i c) (hrow : RowOk T' k h (d.lv k)) (hb : Body W d k h) (he : Fv W h.E 32 (fun _ => .int .u8 0))
    (hlo : ∀ b, Nb h (d.pl k) b ∨ b = h.E → wr.heap.size ≤ b) (hap : ∀ b, Nb h (d.pl k) b → b < h.E) (hf : Fx (fun b => b = w.heap.size ∨ b = w.heap.size + 1) wr W) : Lb n (k + 1) d (up H k h) T' w W := by
  have hsz := l.sz
  have lt : ∀ i, i < k → ∀ b, Nb (H i) (d.pl i) b ∨ b = (H i).E → b < wr.heap.size := fun i hi b hb => by
    rcases hb with hb | rfl
    · exact (l.body i hi).lt hb
    · exact (l.bits i hi).lt
  refine ⟨ht, hq, fun i hi => ?_, fun i hi => ?_, fun i hi => ?_, fun i hi b hb => ?_, fun i hi b hb => ?_, fun i j hij hj b b' hb1 hb' => ?_, l.bel.trans (hf.below l.bel.size (fun j hj => by rcases hj with rfl | rfl <;> omega)), Nat.le_trans hsz hf.size⟩
  · by_cases e : i = k
    · subst e; rw [up_self]; exact hrow
    · rw [up_ne _ _ e]
      have r := l.row i (by omega)
      have c := hlow i (by omega)
      exact ⟨(c 0 (by decide)).trans r.f0, (c 2 (by decide)).trans r.f2, (c 20 (by decide)).trans r.f20, (c 22 (by decide)).trans r.f22, (c 23 (by decide)).trans r.f23⟩
  · by_cases e : i = k
    · subst e; rw [up_self]; exact hb
    · rw [up_ne _ _ e]
      exact (l.body i (by omega)).fx hf (fun x hx hh => by have := l.lo i (by omega) x (.inl hx); omega)
  · by_cases e : i = k
    · subst e; rw [up_self]; exact he
    · rw [up_ne _ _ e]
      have b := l.bits i (by omega)
      have h1 := l.lo i (by omega) _ (.inr rfl)
      have hne : ¬ ((H i).E = w.heap.size ∨ (H i).E = w.heap.size + 1) := by omega
      exact ⟨Nat.lt_of_lt_of_le b.lt hf.size, fun x hx => (hf.cell b.lt hne).trans (b.cell x hx), fun x => (hf.frozen b.lt hne).trans (b.frozen x)⟩
  · by_cases e : i = k
    · subst e; rw [up_self] at hb; have := hlo b hb; omega
    · rw [up_ne _ _ e] at hb; exact l.lo i (by omega) b hb
  · by_cases e : i = k
    · subst e; rw [up_self] at hb ⊢; exact hap b hb
    · rw [up_ne _ _ e] at hb ⊢; exact l.ap i (by omega) b hb
  · have hik : i ≠ k := by omega
    rw [up_ne _ _ hik] at hb1
    by_cases e : j = k
    · subst e; rw [up_self] at hb'
      have := lt i (by omega) b hb1
      have := hlo b' hb'
      omega
    · rw [up_ne _ _ e] at hb'
      exact l.cr i j hij (by omega) b b' hb1 hb'
/-- Before part j of file k: block P. -/
structure Lq (d : Dat) (k j P : Nat) (I D : Nat → Nat) (T : Nat → Nat → Value) (wx wr : World) : Prop where
  tb : Tb wr P (d.pl k) 11 T
  tk : ∀ i, i < j → ∀ c, c < 11 → T i c = partB d k I D i c
  tz : ∀ i, j ≤ i → ∀ c, c < 11 → T i c = Z103.getD c undef
  dep : ∀ i, i < j → Tb wr (D i) (d.dl k i) 2 (depT (d.df k i) (d.dp k i))
  lo : ∀ i, i < j → P < D i
  bel : Below P wx wr
theorem lq_next {d : Dat} {k j P : Nat} {I D : Nat → Nat} {T T' : Nat → Nat → Value} {wx wr wy : World} {Ij Dj : Nat} (h : Lq d k j P I D T wx wr) (ht : Tb wy P (d.pl k) 11 T') (hlow : ∀ i, i ≠ j → ∀ c, c < 11 → T' i c = T i c) (hrow : ∀ c, c < 11 → T' j c = partB d k (fun _ => Ij) (fun _ => Dj) j c)
    (hd : Tb wy Dj (d.dl k j) 2 (depT (d.df k j) (d.dp k j))) (hl : P < Dj) (hf : Fx (fun b => b = P) wr wy) (hpx : P ≤ wx.heap.size) : Lq d k (j + 1) P (up I j Ij) (up D j Dj) T' wx wy := by
  refine ⟨ht, fun i hi c hc => ?_, fun i hi c hc => (hlow i (by omega) c hc).trans (h.tz i (by omega) c hc), fun i hi => ?_, fun i hi => ?_, h.bel.trans (hf.below (Nat.le_trans hpx h.bel.size) (fun j hj => by omega))⟩
  · by_cases e : i = j
    · subst e
      rw [hrow c hc]
      unfold partB
      simp only [up_self]
    · rw [hlow i e c hc, h.tk i (by omega) c hc]
      unfold partB
      simp only [up_ne _ _ e]
  · by_cases e : i = j
    · subst e; rw [up_self]; exact hd
    · rw [up_ne _ _ e]
      have := h.lo i (by omega)
      exact (h.dep i (by omega)).fx hf (by omega)
  · by_cases e : i = j
    · subst e; rw [up_self]; exact hl
    · rw [up_ne _ _ e]; exact h.lo i (by omega)
theorem up2_row (T : Nat → Nat → Value) {k i : Nat} (c c' : Nat) (v : Value) (h : i ≠ k) : up2 T k c v i c' = T i c' := if_neg (fun e => h e.1)
theorem up2_col (T : Nat → Nat → Value) {c c' : Nat} (k i : Nat) (v : Value) (h : c' ≠ c) : up2 T k c v i c' = T i c' := if_neg (fun e => h e.2)
theorem up2_at (T : Nat → Nat → Value) (k c : Nat) (v : Value) : up2 T k c v k c = v := if_pos ⟨rfl, rfl⟩
def recZ (d : Dat) (k j : Nat) : Nat → Nat → Value := upto2 (recB d k) (fun c => Z90.getD c undef) j
theorem recZ_at (d : Dat) (k j c : Nat) : recZ d k j j c = Z90.getD c undef := upto2_ge _ _ (Nat.lt_irrefl j) c
theorem rec_fin {d : Dat} {k j : Nat} {T' : Nat → Nat → Value} (h0 : ∀ i c, i ≠ j → T' i c = recZ d k j i c) (h1 : ∀ c, c ≠ 10 → c ≠ 12 → c ≠ 14 → T' j c = Z90.getD c undef) (h10 : T' j 10 = .int .u32 (flp (d.rt k j))) (h12 : T' j 12 = .int .u16 (if d.rx k j = true then 1024 else 0)) (h14 : T' j 14 = .int .u8 (d.rk k j)) (i c : Nat) : T' i c = recZ d k (j + 1) i c := by
  by_cases e : i = j
  · subst e
    show _ = upto2 (recB d k) _ (i + 1) i c
    rw [upto2_lt _ _ (Nat.lt_succ_self i)]
    unfold recB
    by_cases e10 : c = 10
    · subst e10; rw [if_pos rfl]; exact h10
    · rw [if_neg e10]
      by_cases e12 : c = 12
      · subst e12; rw [if_pos rfl]; exact h12
      · rw [if_neg e12]
        by_cases e14 : c = 14
        · subst e14; rw [if_pos rfl]; exact h14
        · rw [if_neg e14]; exact h1 c e10 e12 e14
  · rw [h0 i c e]
    unfold recZ upto2
    have : (i < j + 1) = (i < j) := by apply propext; omega
    simp only [this]
theorem lq_start {d : Dat} {k P : Nat} {I D : Nat → Nat} {wx wr : World} (h : Tb wr P (d.pl k) 11 (fun _ c => Z103.getD c undef)) (hb : Below P wx wr) : Lq d k 0 P I D (fun _ c => Z103.getD c undef) wx wr :=
  ⟨h, fun i hi => absurd hi (Nat.not_lt_zero i), fun _ _ _ _ => rfl, fun i hi => absurd hi (Nat.not_lt_zero i), fun i hi => absurd hi (Nat.not_lt_zero i), hb⟩
/-- A part's row, its four cells set. -/
def prow (T : Nat → Nat → Value) (j : Nat) (v2 v7 v8 v9 : Value) : Nat → Nat → Value := up2 (up2 (up2 (up2 T j 2 v2) j 7 v7) j 8 v8) j 9 v9
theorem prow_other (T : Nat → Nat → Value) {j i : Nat} (v2 v7 v8 v9 : Value) (h : i ≠ j) (c : Nat) : prow T j v2 v7 v8 v9 i c = T i c := by
  unfold prow
  rw [up2_row _ _ _ _ h, up2_row _ _ _ _ h, up2_row _ _ _ _ h, up2_row _ _ _ _ h]
theorem prow_row {d : Dat} {k j : Nat} {T : Nat → Nat → Value} (hz : ∀ c, c < 11 → T j c = Z103.getD c undef) (Ij Dj : Nat) : ∀ c, c < 11 → prow T j (.slice (some ⟨Ij, 0, none⟩) (d.ql k j) (d.ql k j)) (.slice (some ⟨Dj, 0, none⟩) (d.dl k j) (d.dl k j)) (.bool (d.cb k j)) (.bool (d.ft k j)) j c = partB d k (fun _ => Ij) (fun _ => Dj) j c := fun c hc => by
  unfold prow partB
  by_cases e9 : c = 9
  · subst e9; rw [up2_at]; rfl
  · rw [up2_col _ _ _ _ e9]
    by_cases e8 : c = 8
    · subst e8; rw [up2_at]; rfl
    · rw [up2_col _ _ _ _ e8]
      by_cases e7 : c = 7
      · subst e7; rw [up2_at]; rfl
      · rw [up2_col _ _ _ _ e7]
        by_cases e2 : c = 2
        · subst e2; rw [up2_at]; rfl
        · rw [up2_col _ _ _ _ e2, if_neg e2, if_neg e7, if_neg e8, if_neg e9]
          exact hz c hc
theorem fv_fx {Q : Nat → Prop} {w w' : World} {g n : Nat} {V : Nat → Value} (h : Fv w g n V) (hf : Fx Q w w') (hg : ¬ Q g) : Fv w' g n V :=
  ⟨Nat.lt_of_lt_of_le h.lt hf.size, fun i hi => (hf.cell h.lt hg).trans (h.cell i hi), fun i => (hf.frozen h.lt hg).trans (h.frozen i)⟩
/-- File k's row, its side effects told. -/
def Cf (n k O R : Nat) (T : Nat → Nat → Value) (wl wx : World) : Prop :=
  ∃ T', Tb wx O n 24 T' ∧ (∀ i, i < k → ∀ c, c < 24 → T' i c = T i c) ∧ T' k 2 = .iface 104 (.pointer (some ⟨R, 0, none⟩)) ∧ T' k 22 = .int .u8 0 ∧ Fx (fun b => b = O) wl wx
def Bl (n : Nat) (d : Dat) (w : World) (e : Ending) (w' : World) : Prop :=
  ∃ H T, e = .returned (.tuple #[.slice (some ⟨w.heap.size, 0, none⟩) n n, .slice (some ⟨w.heap.size + 1, 0, none⟩) n n]) ∧ Lb n n d H T w w'
end Go.Proofs.Ytpidbikdncgogaa.MrB
