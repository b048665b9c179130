/- FnMarkReachableMatchesBFS: words for the clone. -/
import Derived.Test.YtpidbikdncgogaaRows
import Derived.Test.YtpidbikdncgogaaMem
import Derived.Test.YtpidbikdncgogaaSl
import Derived.Test.YtpidbikdncgogaaMrA
import Derived.Test.YtpidbikdncgogaaTab
import Derived.Carry
import Derived.WalkKit
import Derived.ProofKit
import Derived.OpenShut
import Derived.Below
import Derived.WalkLawsBesides
import Derived.Lib.Hide
import Derived.Outline
import Derived.RegionTactic
import Derived.Deep.QuietTactic
import Derived.BigQuiet
import Derived.WalkSpells
import Derived.Deep.OwnRows
import Derived.IntWalk
import Derived.Deep.DeepMust
namespace Go.Proofs.Ytpidbikdncgogaa.MrC
open Go.RowKit Mem Sl
set_option linter.unusedVariables false
open Args Fvs Fxs Argn Tab MrI MrA

theorem info73 : ∃ z, (Try.prog.info? 73).map (fun i => (i.zero, i.size, decide (i.bytes ≤ 1000))) = some (some z, 3, true) ∧ z.cells = #[.int .i32 0, .int .u8 0, .bool false] := ⟨((Try.prog.info? 73).bind (·.zero)).getD undef, by kernel_rfl, by kernel_rfl⟩
theorem info71 : ∃ z, (Try.prog.info? 71).map (fun i => (i.zero, i.size, decide (i.bytes ≤ 1000))) = some (some z, 4, true) ∧ z.cells = #[.slice none 0 0, .slice none 0 0, .bool false, .bool false] := ⟨((Try.prog.info? 71).bind (·.zero)).getD undef, by kernel_rfl, by kernel_rfl⟩
theorem info75 : ∃ z, (Try.prog.info? 75).map (fun i => (i.zero, i.size, decide (i.bytes ≤ 1000))) = some (some z, 2, true) ∧ z.cells = #[.int .u32 0, .int .u32 0] := ⟨((Try.prog.info? 75).bind (·.zero)).getD undef, by kernel_rfl, by kernel_rfl⟩
theorem info68 : ∃ z, (Try.prog.info? 68).map (fun i => (i.zero, i.size, decide (i.bytes ≤ 1000))) = some (some z, 5, true) ∧ z.cells = #[.int .i32 0, .bool false, .bool false, .slice none 0 0, .slice none 0 0] := ⟨((Try.prog.info? 68).bind (·.zero)).getD undef, by kernel_rfl, by kernel_rfl⟩
theorem info23 : ∃ z, (Try.prog.info? 23).map (fun i => (i.zero, i.size, decide (i.bytes ≤ 1000))) = some (some z, 1, true) ∧ z.cells = #[.int .u32 0] := ⟨((Try.prog.info? 23).bind (·.zero)).getD undef, by kernel_rfl, by kernel_rfl⟩
def recT (d : Dat) (k : Nat) : Nat → Nat → Value := fun j c => match c with | 0 => .int .i32 (d.rt k j) | 1 => .int .u8 (d.rk k j) | _ => .bool (d.rx k j)
def depT (f p : Nat → Int) : Nat → Nat → Value := fun q c => match c with | 0 => .int .u32 (f q) | _ => .int .u32 (p q)
def qT (f : Nat → Int) : Nat → Nat → Value := fun q _ => .int .u32 (f q)
def partT (d : Dat) (k : Nat) (QA DA : Nat → Option Addr) (QC DC : Nat → Nat) : Nat → Nat → Value := fun j c => match c with | 0 => .slice (QA j) (d.ql k j) (QC j) | 1 => .slice (DA j) (d.dl k j) (DC j) | 2 => .bool (d.cb k j) | _ => .bool (d.ft k j)
def fileT (d : Dat) (h : Hdr) : Nat → Nat → Value := fun i c => match c with | 0 => .int .i32 (d.css i) | 1 => .bool (d.se i) | 2 => .bool (d.lv i) | 3 => .slice (h.RA i) (d.rl i) (h.RC i) | _ => .slice (h.PA i) (d.pl i) (h.PC i)
/-- What lies from lo on is kept. -/
structure Kp (lo : Nat) (w w' : World) : Prop where
  size : w.heap.size ≤ w'.heap.size
  block : ∀ b, lo ≤ b → b < w.heap.size → w'.heap[b]? = w.heap[b]?
section
variable {w w' w'' : World} {lo : Nat}
theorem Kp.of_below (h : Below w.heap.size w w') : Kp lo w w' := ⟨h.size, fun b _ hb => h.block b hb⟩
theorem Kp.of_fx {P : Nat → Prop} (h : Fx P w w') (hp : ∀ b, lo ≤ b → ¬ P b) : Kp lo w w' := ⟨h.size, fun b hl hb => h.block b hb (hp b hl)⟩
theorem Kp.trans (h : Kp lo w w') (k : Kp lo w' w'') : Kp lo w w'' := ⟨Nat.le_trans h.size k.size, fun b hl hb => (k.block b hl (Nat.lt_of_lt_of_le hb h.size)).trans (h.block b hl hb)⟩
theorem Kp.cell (h : Kp lo w w') {b o : Nat} {v : Value} (hl : lo ≤ b) (hv : w.cell? ⟨b, o, none⟩ = some v) : w'.cell? ⟨b, o, none⟩ = some v := (World.cell?_of_block (a := ⟨b, o, none⟩) (h.block b hl (cell_lt hv))).trans hv
end
/-- A slice of rows of s cells at the head of a block from lo on. -/
def TbAt (w : World) (lo : Nat) (A : Option Addr) (n s : Nat) (D : Nat → Nat → Value) : Prop := ∀ i, i < n → ∃ b, A = some ⟨b, 0, none⟩ ∧ lo ≤ b ∧ b < w.heap.size ∧ ∀ c, c < s → w.cell? ⟨b, i * s + c, none⟩ = some (D i c)
theorem TbAt.keep {w w' : World} {lo : Nat} {A : Option Addr} {n s : Nat} {D : Nat → Nat → Value} (h : TbAt w lo A n s D) (k : Kp lo w w') : TbAt w' lo A n s D := fun i hi => by
  obtain ⟨b, h1, h2, h3, h4⟩ := h i hi
  exact ⟨b, h1, h2, Nat.lt_of_lt_of_le h3 k.size, fun c hc => k.cell h2 (h4 c hc)⟩
theorem TbAt.lower {w : World} {lo lo' : Nat} {A : Option Addr} {n s : Nat} {D : Nat → Nat → Value} (h : TbAt w lo A n s D) (hl : lo' ≤ lo) : TbAt w lo' A n s D := fun i hi => by
  obtain ⟨b, h1, h2, h3, h4⟩ := h i hi
  exact ⟨b, h1, Nat.le_trans hl h2, h3, h4⟩
theorem tbAt_none {w : World} {lo n s : Nat} {A : Option Addr} {D : Nat → Nat → Value} (h : n = 0) : TbAt w lo A n s D := fun i hi => absurd hi (by omega)
theorem tbAt_of {w : World} {lo g n s : Nat} {D : Nat → Nat → Value} (h : Tb w g n s D) (hl : lo ≤ g) : TbAt w lo (some ⟨g, 0, none⟩) n s D := fun i hi => ⟨g, rfl, hl, h.lt, fun c hc => h.cell i c hi hc⟩
/-- One file's lists. -/
structure One (w : World) (lo : Nat) (d : Dat) (k : Nat) (RA PA : Option Addr) (QA DA : Nat → Option Addr) (QC DC : Nat → Nat) : Prop where
  rcd : TbAt w lo RA (d.rl k) 3 (recT d k)
  part : TbAt w lo PA (d.pl k) 4 (partT d k QA DA QC DC)
  qr : ∀ j, j < d.pl k → TbAt w lo (QA j) (d.ql k j) 1 (qT (d.qv k j))
  dep : ∀ j, j < d.pl k → TbAt w lo (DA j) (d.dl k j) 2 (depT (d.df k j) (d.dp k j))
theorem One.keep {w w' : World} {lo : Nat} {d : Dat} {k : Nat} {RA PA : Option Addr} {QA DA : Nat → Option Addr} {QC DC : Nat → Nat} (h : One w lo d k RA PA QA DA QC DC) (q : Kp lo w w') : One w' lo d k RA PA QA DA QC DC :=
  ⟨h.rcd.keep q, h.part.keep q, fun j hj => (h.qr j hj).keep q, fun j hj => (h.dep j hj).keep q⟩
/-- Before file k. -/
structure Lc (n k : Nat) (d : Dat) (h : Hdr) (T : Nat → Nat → Value) (w wr : World) : Prop where
  tb : Tb wr w.heap.size n 5 T
  tk : ∀ i, i < k → ∀ c, c < 5 → T i c = fileT d h i c
  one : ∀ i, i < k → One wr (w.heap.size + 1) d i (h.RA i) (h.PA i) (h.QA i) (h.DA i) (h.QC i) (h.DC i)
  bel : Below w.heap.size w wr
theorem lc_fs {n : Nat} {d : Dat} {h : Hdr} {T : Nat → Nat → Value} {w wr : World} (l : Lc n n d h T w wr) (h1 : ∀ i, i < n → d.rl i ≤ maxLen ∧ d.pl i ≤ maxLen) (h2 : ∀ i, i < n → ∀ j, j < d.pl i → d.ql i j ≤ maxLen ∧ d.dl i j ≤ maxLen) : Fs wr (some ⟨w.heap.size, 0, none⟩) n d h := by
  refine ⟨fun i hi => ?_, fun i hi j hj => ?_, fun i hi j hj => ?_, fun i hi j hj k hk => ?_, fun i hi j hj k hk => ?_, h1, h2⟩
  · have c := fun j hj => l.tb.at_ (i := i) (j := j) hi hj (l.tk i hi j hj)
    refine ⟨w.heap.size, 0, rfl, l.tb.lt, ?_, ?_, ?_, ?_, ?_⟩ <;> rw [Nat.zero_add]
    · exact c 0 (by decide)
    · exact c 1 (by decide)
    · exact c 2 (by decide)
    · exact c 3 (by decide)
    · exact c 4 (by decide)
  · obtain ⟨b, e, _, hb, c⟩ := (l.one i hi).rcd j hj
    refine ⟨b, 0, e, hb, ?_, ?_, ?_⟩ <;> rw [Nat.zero_add]
    · exact c 0 (by decide)
    · exact c 1 (by decide)
    · exact c 2 (by decide)
  · obtain ⟨b, e, _, hb, c⟩ := (l.one i hi).part j hj
    refine ⟨b, 0, e, hb, ?_, ?_, ?_, ?_⟩ <;> rw [Nat.zero_add]
    · exact c 0 (by decide)
    · exact c 1 (by decide)
    · exact c 2 (by decide)
    · exact c 3 (by decide)
  · obtain ⟨b, e, _, hb, c⟩ := (l.one i hi).qr j hj k hk
    refine ⟨b, 0, e, hb, ?_⟩
    have := c 0 (by decide)
    rw [Nat.mul_one, Nat.add_zero] at this
    rw [Nat.zero_add]; exact this
  · obtain ⟨b, e, _, hb, c⟩ := (l.one i hi).dep j hj k hk
    refine ⟨b, 0, e, hb, ?_, ?_⟩ <;> rw [Nat.zero_add]
    · exact c 0 (by decide)
    · exact c 1 (by decide)
/-- The row of file k in the copy, its lists' heads apart. -/
def rowT (d : Dat) (k : Nat) (v3 v4 : Value) : Nat → Value := fun c => match c with | 0 => .int .i32 (d.css k) | 1 => .bool (d.se k) | 2 => .bool (d.lv k) | 3 => v3 | _ => v4
/-- File k, its records done. -/
def Ca (n k : Nat) (d : Dat) (h : Hdr) (v4 : Value) (O : Nat) (w2 wx : World) : Prop :=
  ∃ RA RC T, Tb wx O n 5 T ∧ (∀ i, i < k → ∀ c, c < 5 → T i c = fileT d h i c) ∧ (∀ c, c < 5 → T k c = rowT d k (.slice RA (d.rl k) RC) v4 c) ∧ TbAt wx (O + 1) RA (d.rl k) 3 (recT d k) ∧ Fx (fun j => j = O) w2 wx
/-- Before part j. -/
structure Lp (d : Dat) (k j p1 : Nat) (QA DA : Nat → Option Addr) (QC DC : Nat → Nat) (T : Nat → Nat → Value) (wx wr : World) : Prop where
  tb : Tb wr p1 (d.pl k) 4 T
  tk : ∀ i, i < j → ∀ c, c < 4 → T i c = partT d k QA DA QC DC i c
  qr : ∀ i, i < j → TbAt wr (p1 + 1) (QA i) (d.ql k i) 1 (qT (d.qv k i))
  dep : ∀ i, i < j → TbAt wr (p1 + 1) (DA i) (d.dl k i) 2 (depT (d.df k i) (d.dp k i))
  bel : Below p1 wx wr
def prowT (d : Dat) (k j : Nat) (v0 v1 : Value) : Nat → Value := fun c => match c with | 0 => v0 | 1 => v1 | 2 => .bool (d.cb k j) | _ => .bool (d.ft k j)
/-- Part j, its records done. -/
def Cb (d : Dat) (k j p1 : Nat) (QA DA : Nat → Option Addr) (QC DC : Nat → Nat) (v1 : Value) (w6 wx : World) : Prop :=
  ∃ QAj QCj T, Tb wx p1 (d.pl k) 4 T ∧ (∀ i, i < j → ∀ c, c < 4 → T i c = partT d k QA DA QC DC i c) ∧ (∀ c, c < 4 → T j c = prowT d k j (.slice QAj (d.ql k j) QCj) v1 c) ∧ TbAt wx (p1 + 1) QAj (d.ql k j) 1 (qT (d.qv k j)) ∧ Fx (fun b => b = p1) w6 wx
section
variable {d : Dat} {p1 : Nat} {QA DA : Nat → Option Addr} {QC DC : Nat → Nat} {T : Nat → Nat → Value} {wx wr wy : World}
theorem lp_start {k : Nat} (h : Tb wr p1 (d.pl k) 4 T) (hb : Below p1 wx wr) : Lp d k 0 p1 QA DA QC DC T wx wr := ⟨h, fun i hi => absurd hi (Nat.not_lt_zero i), fun i hi => absurd hi (Nat.not_lt_zero i), fun i hi => absurd hi (Nat.not_lt_zero i), hb⟩
/-- One part more: its row is whole. -/
theorem lp_next {k j : Nat} {T' : Nat → Nat → Value} {QAj DAj : Option Addr} {QCj DCj : Nat} (h : Lp d k j p1 QA DA QC DC T wx wr) (ht : Tb wy p1 (d.pl k) 4 T') (hlow : ∀ i, i < j → ∀ c, c < 4 → T' i c = partT d k QA DA QC DC i c)
    (hrow : ∀ c, c < 4 → T' j c = prowT d k j (.slice QAj (d.ql k j) QCj) (.slice DAj (d.dl k j) DCj) c) (hq : TbAt wy (p1 + 1) QAj (d.ql k j) 1 (qT (d.qv k j))) (hd : TbAt wy (p1 + 1) DAj (d.dl k j) 2 (depT (d.df k j) (d.dp k j)))
    (hf : Fx (fun b => b = p1) wr wy) (hpx : p1 ≤ wx.heap.size) : Lp d k (j + 1) p1 (up QA j QAj) (up DA j DAj) (up QC j QCj) (up DC j DCj) T' wx wy := by
  have kp : Kp (p1 + 1) wr wy := Kp.of_fx hf (fun b hb e => by omega)
  refine ⟨ht, fun i hi c hc => ?_, fun i hi => ?_, fun i hi => ?_, h.bel.trans (hf.below (Nat.le_trans hpx (h.bel.size)) (fun j hj => by omega))⟩
  · by_cases e : i = j
    · subst e
      rw [hrow c hc]
      unfold prowT partT
      simp only [up_self]
    · rw [hlow i (by omega) c hc]
      unfold partT
      simp only [up_ne _ _ e]
  · by_cases e : i = j
    · subst e; rw [up_self]; exact hq
    · rw [up_ne _ _ e]; exact (h.qr i (by omega)).keep kp
  · by_cases e : i = j
    · subst e; rw [up_self]; exact hd
    · rw [up_ne _ _ e]; exact (h.dep i (by omega)).keep kp
end
/-- The headers, file k's put in. -/
def hput (h : Hdr) (k : Nat) (RA PA : Option Addr) (RC PC : Nat) (QA DA : Nat → Option Addr) (QC DC : Nat → Nat) : Hdr :=
  ⟨up h.RA k RA, up h.RC k RC, up h.PA k PA, up h.PC k PC, up h.QA k QA, up h.QC k QC, up h.DA k DA, up h.DC k DC⟩
theorem lc_next {n k : Nat} {d : Dat} {h : Hdr} {T T' : Nat → Nat → Value} {w wr wy : World} {RA PA : Option Addr} {RC PC : Nat} {QA DA : Nat → Option Addr} {QC DC : Nat → Nat} (l : Lc n k d h T w wr) (ht : Tb wy w.heap.size n 5 T') (hlow : ∀ i, i < k → ∀ c, c < 5 → T' i c = fileT d h i c)
    (hrow : ∀ c, c < 5 → T' k c = rowT d k (.slice RA (d.rl k) RC) (.slice PA (d.pl k) PC) c) (ho : One wy (w.heap.size + 1) d k RA PA QA DA QC DC) (hf : Fx (fun j => j = w.heap.size) wr wy) : Lc n (k + 1) d (hput h k RA PA RC PC QA DA QC DC) T' w wy := by
  have kp : Kp (w.heap.size + 1) wr wy := Kp.of_fx hf (fun b hb e => by omega)
  refine ⟨ht, fun i hi c hc => ?_, fun i hi => ?_, l.bel.trans (hf.below l.bel.size (fun j hj => by omega))⟩
  · by_cases e : i = k
    · subst e
      rw [hrow c hc]
      unfold rowT fileT hput
      simp only [up_self]
    · rw [hlow i (by omega) c hc]
      unfold fileT hput
      simp only [up_ne _ _ e]
  · by_cases e : i = k
    · subst e
      unfold hput
      simp only [up_self]
      exact ho
    · unfold hput
      simp only [up_ne _ _ e]
      exact (l.one i (by omega)).keep kp
theorem up2_low (T : Nat → Nat → Value) {k i : Nat} (c c' : Nat) (v : Value) (h : i < k) : up2 T k c v i c' = T i c' := if_neg (fun e => by omega)
theorem row_up3 {d : Dat} {k : Nat} {T : Nat → Nat → Value} {v3 v3' v4 : Value} (h : ∀ c, c < 5 → T k c = rowT d k v3 v4 c) : ∀ c, c < 5 → up2 T k 3 v3' k c = rowT d k v3' v4 c := fun c hc => by
  have : c = 0 ∨ c = 1 ∨ c = 2 ∨ c = 3 ∨ c = 4 := by omega
  unfold up2
  rcases this with rfl | rfl | rfl | rfl | rfl <;> first | (rw [if_pos ⟨rfl, rfl⟩]; rfl) | (rw [if_neg (by omega), h _ hc]; rfl)
theorem row_up4 {d : Dat} {k : Nat} {T : Nat → Nat → Value} {v3 v4 v4' : Value} (h : ∀ c, c < 5 → T k c = rowT d k v3 v4 c) : ∀ c, c < 5 → up2 T k 4 v4' k c = rowT d k v3 v4' c := fun c hc => by
  have : c = 0 ∨ c = 1 ∨ c = 2 ∨ c = 3 ∨ c = 4 := by omega
  unfold up2
  rcases this with rfl | rfl | rfl | rfl | rfl <;> first | (rw [if_pos ⟨rfl, rfl⟩]; rfl) | (rw [if_neg (by omega), h _ hc]; rfl)
theorem prow_up0 {d : Dat} {k j : Nat} {T : Nat → Nat → Value} {v0 v0' v1 : Value} (h : ∀ c, c < 4 → T j c = prowT d k j v0 v1 c) : ∀ c, c < 4 → up2 T j 0 v0' j c = prowT d k j v0' v1 c := fun c hc => by
  have : c = 0 ∨ c = 1 ∨ c = 2 ∨ c = 3 := by omega
  unfold up2
  rcases this with rfl | rfl | rfl | rfl <;> first | (rw [if_pos ⟨rfl, rfl⟩]; rfl) | (rw [if_neg (by omega), h _ hc]; rfl)
theorem prow_up1 {d : Dat} {k j : Nat} {T : Nat → Nat → Value} {v0 v1 v1' : Value} (h : ∀ c, c < 4 → T j c = prowT d k j v0 v1 c) : ∀ c, c < 4 → up2 T j 1 v1' j c = prowT d k j v0 v1' c := fun c hc => by
  have : c = 0 ∨ c = 1 ∨ c = 2 ∨ c = 3 := by omega
  unfold up2
  rcases this with rfl | rfl | rfl | rfl <;> first | (rw [if_pos ⟨rfl, rfl⟩]; rfl) | (rw [if_neg (by omega), h _ hc]; rfl)
theorem row_list (d : Dat) (k : Nat) (v3 v4 : Value) : ∀ c, c < 5 → ([.int .i32 (d.css k), .bool (d.se k), .bool (d.lv k), v3, v4] : List Value)[c]? = some (rowT d k v3 v4 c) := fun c hc => by
  have : c = 0 ∨ c = 1 ∨ c = 2 ∨ c = 3 ∨ c = 4 := by omega
  rcases this with rfl | rfl | rfl | rfl | rfl <;> rfl
theorem prow_list (d : Dat) (k j : Nat) (v0 v1 : Value) : ∀ c, c < 4 → ([v0, v1, .bool (d.cb k j), .bool (d.ft k j)] : List Value)[c]? = some (prowT d k j v0 v1 c) := fun c hc => by
  have : c = 0 ∨ c = 1 ∨ c = 2 ∨ c = 3 := by omega
  rcases this with rfl | rfl | rfl | rfl <;> rfl
theorem rec_list (d : Dat) (k j : Nat) : ∀ c, c < 3 → ([.int .i32 (d.rt k j), .int .u8 (d.rk k j), .bool (d.rx k j)] : List Value)[c]? = some (recT d k j c) := fun c hc => by
  have : c = 0 ∨ c = 1 ∨ c = 2 := by omega
  rcases this with rfl | rfl | rfl <;> rfl
theorem dep_list (f p : Nat → Int) (j : Nat) : ∀ c, c < 2 → ([.int .u32 (f j), .int .u32 (p j)] : List Value)[c]? = some (depT f p j c) := fun c hc => by
  have : c = 0 ∨ c = 1 := by omega
  rcases this with rfl | rfl <;> rfl
theorem q_list (f : Nat → Int) (j : Nat) : ∀ c, c < 1 → ([.int .u32 (f j)] : List Value)[c]? = some (qT f j c) := fun c hc => by
  obtain rfl : c = 0 := by omega
  rfl
theorem upRow_self (T : Nat → Nat → Value) (k : Nat) (D : Nat → Value) (c : Nat) : upRow T k D k c = D c := if_pos rfl
theorem upRow_low (T : Nat → Nat → Value) {k i : Nat} (D : Nat → Value) (c : Nat) (h : i < k) : upRow T k D i c = T i c := if_neg (by omega)
def Cl (n : Nat) (d : Dat) (w : World) (e : Ending) (w' : World) : Prop := ∃ A c h, e = .returned (.slice A n c) ∧ n ≤ c ∧ c ≤ maxLen ∧ Fs w' A n d h ∧ Below w.heap.size w w'
end Go.Proofs.Ytpidbikdncgogaa.MrC
