/- FnSortedCrossChunkImportsOrderFree: the two arrays. -/
import Derived.Test.YtfcpjckecjjmjaaSoS
import Derived.Test.YtfcpjckecjjmjaaTab
import Derived.Test.YtfcpjckecjjmjaaShelf
import Derived.WalkKit
import Derived.ProofKit
import Derived.OpenShut
import Derived.Below
import Derived.WalkLawsBesides
import Derived.Lib.Hide
import Derived.Outline
import Derived.RegionTactic
import Derived.Deep.QuietTactic
import Derived.BigQuiet
import Derived.WalkSpells
import Derived.Deep.OwnRows
import Derived.IntWalk
import Derived.Deep.DeepMust
namespace Go.Proofs.Ytfcpjckecjjmjaa.SoX
open Go.RowKit Go.Sort Go.Shelf Mem Args Fvs Fxs Tab SoA SoS
set_option linter.unusedVariables false

theorem swp_size {α : Type} [Inhabited α] (d : Array α) (i j : Nat) : (swp d i j).size = d.size := by simp [swp]
theorem swp_at {α : Type} [Inhabited α] (d : Array α) (i j k : Nat) (hi : i < d.size) (hj : j < d.size) (hk : k < d.size) : (swp d i j)[k]! = if k = j then d[i]! else if k = i then d[j]! else d[k]! := by
  unfold swp
  rw [getElem!_pos _ k (by simpa using hk), Array.getElem_setIfInBounds (by simpa using hk)]
  by_cases e : j = k
  · subst e; simp
  · rw [if_neg e, if_neg (fun h => e h.symm), Array.getElem_setIfInBounds hk]
    by_cases e2 : i = k
    · subst e2; simp
    · rw [if_neg e2, if_neg (fun h => e2 h.symm), getElem!_pos d k hk]
/-- Block g holds the rows d, k cells each; all else is as in w0. -/
structure Rw {α : Type} [Inhabited α] (k : Nat) (V : α → Nat → Value) (g n : Nat) (w0 w : World) (d : Array α) : Prop where
  sz : d.size = n
  tb : Tb w g n k (fun i j => V d[i]! j)
  fx : Fx (fun b => b = g) w0 w
  lt : g < w0.heap.size
section
variable {α : Type} [Inhabited α] {k : Nat} {V : α → Nat → Value} {g n : Nat} {w0 w w' : World} {d : Array α}
theorem Rw.later (h : Rw k V g n w0 w d) (hb : Below w0.heap.size w w') : Rw k V g n w0 w' d :=
  ⟨h.sz, h.tb.below hb h.lt, ⟨hb.os.trans h.fx.os, hb.tape.trans h.fx.tape, hb.output.trans h.fx.output, Nat.le_trans h.fx.size hb.size, fun j hj hp => (hb.block j hj).trans (h.fx.block j hj hp)⟩, h.lt⟩
theorem Rw.drew (h : Rw k V g n w0 w d) : Rw k V g n w0 w.drew d := h.later ⟨rfl, rfl, rfl, Nat.le_refl _, fun _ _ => rfl⟩
theorem ab_refl (B : Nat) (w : World) : Ab B w w := ⟨Nat.le_refl _, fun _ _ _ => rfl⟩
theorem ab_drew {B : Nat} (h : Ab B w w') : Ab B w w'.drew := h
theorem ab_set {B : Nat} (h : Ab B w w') {g : Nat} (hg : g < B) (o : Nat) (u : Value) : Ab B w (w'.setCell ⟨g, o, none⟩ u) :=
  ⟨by simpa using h.1, fun k hk hl => (Below.heap_setCell w' ⟨g, o, none⟩ u k (show k ≠ g by omega)).trans (h.2 k hk hl)⟩
end
abbrev IRow := ByteArray × Int × Int
/-- An item's cells. -/
def VI (x : IRow) : Nat → Value
  | 0 => .string x.1
  | 1 => .int .u32 x.2.1
  | _ => .int .u32 x.2.2
abbrev MRow := Nat × Nat × Nat × Int
/-- An import's cells. -/
def VM (x : MRow) : Nat → Value
  | 0 => .slice (some ⟨x.1, 0, none⟩) x.2.1 x.2.2.1
  | _ => .int .u32 x.2.2.2
theorem mLessI (rv : Value) (w : World) : Sem.run Try.prog (method (Try.prog.types.size + 100) 37 rv "Less") w = .ok (57, rv) w := by kernel_rfl
theorem eLessI : ∀ (args : Array Value) (w : World), (callFunc 57 args).run Try.prog w = .ok (.enter 57 args) w := enters_of Try.func57 (by kernel_rfl) rfl
theorem mSwapI (rv : Value) (w : World) : Sem.run Try.prog (method (Try.prog.types.size + 100) 37 rv "Swap") w = .ok (58, rv) w := by kernel_rfl
theorem eSwapI : ∀ (args : Array Value) (w : World), (callFunc 58 args).run Try.prog w = .ok (.enter 58 args) w := enters_of Try.func58 (by kernel_rfl) rfl
theorem mLenI (rv : Value) (w : World) : Sem.run Try.prog (method (Try.prog.types.size + 100) 37 rv "Len") w = .ok (56, rv) w := by kernel_rfl
theorem eLenI : ∀ (args : Array Value) (w : World), (callFunc 56 args).run Try.prog w = .ok (.enter 56 args) w := enters_of Try.func56 (by kernel_rfl) rfl
theorem mLessM (rv : Value) (w : World) : Sem.run Try.prog (method (Try.prog.types.size + 100) 29 rv "Less") w = .ok (54, rv) w := by kernel_rfl
theorem eLessM : ∀ (args : Array Value) (w : World), (callFunc 54 args).run Try.prog w = .ok (.enter 54 args) w := enters_of Try.func54 (by kernel_rfl) rfl
theorem mSwapM (rv : Value) (w : World) : Sem.run Try.prog (method (Try.prog.types.size + 100) 29 rv "Swap") w = .ok (55, rv) w := by kernel_rfl
theorem eSwapM : ∀ (args : Array Value) (w : World), (callFunc 55 args).run Try.prog w = .ok (.enter 55 args) w := enters_of Try.func55 (by kernel_rfl) rfl
theorem mLenM (rv : Value) (w : World) : Sem.run Try.prog (method (Try.prog.types.size + 100) 29 rv "Len") w = .ok (10, rv) w := by kernel_rfl
theorem eLenM : ∀ (args : Array Value) (w : World), (callFunc 10 args).run Try.prog w = .ok (.enter 10 args) w := enters_of Try.func10 (by kernel_rfl) rfl

set_option maxHeartbeats 800000 in
theorem swap_IRow (g n c i j : Nat) (d : Array IRow) (w0 w : World) (h : Rw 3 VI g n w0 w d) (hi : i < n) (hj : j < n) (hn : n ≤ 1048576) :
    Calls Try.prog 58 #[.slice (some ⟨g, 0, none⟩) n c, .int .i64 i, .int .i64 j] w fun e w' => e = .returned (.tuple #[]) ∧ Rw 3 VI g n w0 w' (Sort.swp d i j) ∧ Ab w0.heap.size w w' := by
  obtain ⟨x, hx⟩ : ∃ x, x = d[i]! := ⟨_, rfl⟩
  obtain ⟨y, hy⟩ : ∃ y, y = d[j]! := ⟨_, rfl⟩
  have a0 : w.cell? ⟨g, i * 3, none⟩ = some (.string x.1) := by rw [hx]; exact h.tb.cell i 0 hi (by omega)
  have a1 : w.cell? ⟨g, i * 3 + 1, none⟩ = some (.int .u32 x.2.1) := by rw [hx]; exact h.tb.cell i 1 hi (by omega)
  have a2 : w.cell? ⟨g, i * 3 + 2, none⟩ = some (.int .u32 x.2.2) := by rw [hx]; exact h.tb.cell i 2 hi (by omega)
  have b0 : w.cell? ⟨g, j * 3, none⟩ = some (.string y.1) := by rw [hy]; exact h.tb.cell j 0 hj (by omega)
  have b1 : w.cell? ⟨g, j * 3 + 1, none⟩ = some (.int .u32 y.2.1) := by rw [hy]; exact h.tb.cell j 1 hj (by omega)
  have b2 : w.cell? ⟨g, j * 3 + 2, none⟩ = some (.int .u32 y.2.2) := by rw [hy]; exact h.tb.cell j 2 hj (by omega)
  have fz := h.tb.frozen
  have HRW := Lib.hid (show Rw 3 VI g n w0 ((((((w.setCell ⟨g, i * 3, none⟩ (.string y.1)).setCell ⟨g, i * 3 + 1, none⟩ (.int .u32 y.2.1)).setCell ⟨g, i * 3 + 2, none⟩ (.int .u32 y.2.2)).setCell ⟨g, j * 3, none⟩ (.string x.1)).setCell ⟨g, j * 3 + 1, none⟩ (.int .u32 x.2.1)).setCell ⟨g, j * 3 + 2, none⟩ (.int .u32 x.2.2)) (Sort.swp d i j) from by
    refine ⟨(swp_size _ _ _).trans h.sz, Tb.congr ((((((((((((h.tb).set (j := 0) hi (by omega) (.string y.1))).set (j := 1) hi (by omega) (.int .u32 y.2.1))).set (j := 2) hi (by omega) (.int .u32 y.2.2))).set (j := 0) hj (by omega) (.string x.1))).set (j := 1) hj (by omega) (.int .u32 x.2.1))).set (j := 2) hj (by omega) (.int .u32 x.2.2)) ?_, ((((((h.fx.put g (i * 3) (.string y.1) rfl).put g (i * 3 + 1) (.int .u32 y.2.1) rfl).put g (i * 3 + 2) (.int .u32 y.2.2) rfl).put g (j * 3) (.string x.1) rfl).put g (j * 3 + 1) (.int .u32 x.2.1) rfl).put g (j * 3 + 2) (.int .u32 x.2.2) rfl), h.lt⟩
    intro r l hr hl
    have sz := h.sz
    rw [swp_at d i j r (by omega) (by omega) (by omega), ← hx, ← hy]
    have e : l = 0 ∨ l = 1 ∨ l = 2 := by omega
    by_cases h1 : r = j
    · subst h1
      rcases e with rfl | rfl | rfl <;> simp [up2, VI]
    · by_cases h2 : r = i
      · subst h2
        rcases e with rfl | rfl | rfl <;> simp [up2, VI, h1]
      · rcases e with rfl | rfl | rfl <;> simp [up2, VI, h1, h2])
  have HB := Lib.hid (ab_drew (ab_set (ab_set (ab_set (ab_set (ab_set (ab_set (ab_refl w0.heap.size w) h.lt (i * 3) (.string y.1)) h.lt (i * 3 + 1) (.int .u32 y.2.1)) h.lt (i * 3 + 2) (.int .u32 y.2.2)) h.lt (j * 3) (.string x.1)) h.lt (j * 3 + 1) (.int .u32 x.2.1)) h.lt (j * 3 + 2) (.int .u32 x.2.2)))
  have HXY := Lib.hid (show i = j → y = x from fun e => by rw [hx, hy, e])
  clear h hx hy
  by_cases hij : i = j
  · obtain rfl := HXY.out hij
    subst hij
    clear b0 b1 b2
    go_enter Try.func58, Try.ntmps58
    go_wp2
    go_region
    go_end0
    exact ⟨rfl, HRW.out.drew, HB.out⟩
  · go_enter Try.func58, Try.ntmps58
    go_wp2
    go_region
    go_end0
    exact ⟨rfl, HRW.out.drew, HB.out⟩

set_option maxHeartbeats 800000 in
theorem swap_MRow (g n c i j : Nat) (d : Array MRow) (w0 w : World) (h : Rw 2 VM g n w0 w d) (hi : i < n) (hj : j < n) (hn : n ≤ 1048576) :
    Calls Try.prog 55 #[.slice (some ⟨g, 0, none⟩) n c, .int .i64 i, .int .i64 j] w fun e w' => e = .returned (.tuple #[]) ∧ Rw 2 VM g n w0 w' (Sort.swp d i j) ∧ Ab w0.heap.size w w' := by
  obtain ⟨x, hx⟩ : ∃ x, x = d[i]! := ⟨_, rfl⟩
  obtain ⟨y, hy⟩ : ∃ y, y = d[j]! := ⟨_, rfl⟩
  have a0 : w.cell? ⟨g, i * 2, none⟩ = some (.slice (some ⟨x.1, 0, none⟩) x.2.1 x.2.2.1) := by rw [hx]; exact h.tb.cell i 0 hi (by omega)
  have a1 : w.cell? ⟨g, i * 2 + 1, none⟩ = some (.int .u32 x.2.2.2) := by rw [hx]; exact h.tb.cell i 1 hi (by omega)
  have b0 : w.cell? ⟨g, j * 2, none⟩ = some (.slice (some ⟨y.1, 0, none⟩) y.2.1 y.2.2.1) := by rw [hy]; exact h.tb.cell j 0 hj (by omega)
  have b1 : w.cell? ⟨g, j * 2 + 1, none⟩ = some (.int .u32 y.2.2.2) := by rw [hy]; exact h.tb.cell j 1 hj (by omega)
  have fz := h.tb.frozen
  have HRW := Lib.hid (show Rw 2 VM g n w0 ((((w.setCell ⟨g, i * 2, none⟩ (.slice (some ⟨y.1, 0, none⟩) y.2.1 y.2.2.1)).setCell ⟨g, i * 2 + 1, none⟩ (.int .u32 y.2.2.2)).setCell ⟨g, j * 2, none⟩ (.slice (some ⟨x.1, 0, none⟩) x.2.1 x.2.2.1)).setCell ⟨g, j * 2 + 1, none⟩ (.int .u32 x.2.2.2)) (Sort.swp d i j) from by
    refine ⟨(swp_size _ _ _).trans h.sz, Tb.congr ((((((((h.tb).set (j := 0) hi (by omega) (.slice (some ⟨y.1, 0, none⟩) y.2.1 y.2.2.1))).set (j := 1) hi (by omega) (.int .u32 y.2.2.2))).set (j := 0) hj (by omega) (.slice (some ⟨x.1, 0, none⟩) x.2.1 x.2.2.1))).set (j := 1) hj (by omega) (.int .u32 x.2.2.2)) ?_, ((((h.fx.put g (i * 2) (.slice (some ⟨y.1, 0, none⟩) y.2.1 y.2.2.1) rfl).put g (i * 2 + 1) (.int .u32 y.2.2.2) rfl).put g (j * 2) (.slice (some ⟨x.1, 0, none⟩) x.2.1 x.2.2.1) rfl).put g (j * 2 + 1) (.int .u32 x.2.2.2) rfl), h.lt⟩
    intro r l hr hl
    have sz := h.sz
    rw [swp_at d i j r (by omega) (by omega) (by omega), ← hx, ← hy]
    have e : l = 0 ∨ l = 1 := by omega
    by_cases h1 : r = j
    · subst h1
      rcases e with rfl | rfl <;> simp [up2, VM]
    · by_cases h2 : r = i
      · subst h2
        rcases e with rfl | rfl <;> simp [up2, VM, h1]
      · rcases e with rfl | rfl <;> simp [up2, VM, h1, h2])
  have HB := Lib.hid (ab_drew (ab_set (ab_set (ab_set (ab_set (ab_refl w0.heap.size w) h.lt (i * 2) (.slice (some ⟨y.1, 0, none⟩) y.2.1 y.2.2.1)) h.lt (i * 2 + 1) (.int .u32 y.2.2.2)) h.lt (j * 2) (.slice (some ⟨x.1, 0, none⟩) x.2.1 x.2.2.1)) h.lt (j * 2 + 1) (.int .u32 x.2.2.2)))
  have HXY := Lib.hid (show i = j → y = x from fun e => by rw [hx, hy, e])
  clear h hx hy
  by_cases hij : i = j
  · obtain rfl := HXY.out hij
    subst hij
    clear b0 b1
    go_enter Try.func55, Try.ntmps55
    go_wp2
    go_region
    go_end0
    exact ⟨rfl, HRW.out.drew, HB.out⟩
  · go_enter Try.func55, Try.ntmps55
    go_wp2
    go_region
    go_end0
    exact ⟨rfl, HRW.out.drew, HB.out⟩

set_option maxHeartbeats 800000 in
theorem less_IRow (g n c i j : Nat) (d : Array IRow) (w0 w : World) (h : Rw 3 VI g n w0 w d) (hi : i < n) (hj : j < n) (hn : n ≤ 1048576) :
    Calls Try.prog 57 #[.slice (some ⟨g, 0, none⟩) n c, .int .i64 i, .int .i64 j] w fun e w' => e = .returned (.bool (Op.bytesLess (d[i]!).1.toList (d[j]!).1.toList)) ∧ Rw 3 VI g n w0 w' d ∧ Ab w0.heap.size w w' := by
  obtain ⟨x, hx⟩ : ∃ x, x = d[i]! := ⟨_, rfl⟩
  obtain ⟨y, hy⟩ : ∃ y, y = d[j]! := ⟨_, rfl⟩
  have a0 : w.cell? ⟨g, i * 3, none⟩ = some (.string x.1) := by rw [hx]; exact h.tb.cell i 0 hi (by omega)
  have b0 : w.cell? ⟨g, j * 3, none⟩ = some (.string y.1) := by rw [hy]; exact h.tb.cell j 0 hj (by omega)
  rw [← hx, ← hy]
  have HR := Lib.hid h
  clear h hx hy
  go_enter Try.func57, Try.ntmps57
  go_wp2
  go_region
  go_wp2
  go_ret
  exact ⟨rfl, HR.out.drew, ab_drew (ab_refl _ _)⟩
set_option maxHeartbeats 800000 in
theorem less_MRow (g n c i j : Nat) (d : Array MRow) (w0 w : World) (h : Rw 2 VM g n w0 w d) (hi : i < n) (hj : j < n) (hn : n ≤ 1048576) :
    Calls Try.prog 54 #[.slice (some ⟨g, 0, none⟩) n c, .int .i64 i, .int .i64 j] w fun e w' => e = .returned (.bool (decide ((d[i]!).2.2.2 < (d[j]!).2.2.2))) ∧ Rw 2 VM g n w0 w' d ∧ Ab w0.heap.size w w' := by
  obtain ⟨x, hx⟩ : ∃ x, x = d[i]! := ⟨_, rfl⟩
  obtain ⟨y, hy⟩ : ∃ y, y = d[j]! := ⟨_, rfl⟩
  have a0 : w.cell? ⟨g, i * 2 + 1, none⟩ = some (.int .u32 x.2.2.2) := by rw [hx]; exact h.tb.cell i 1 hi (by omega)
  have b0 : w.cell? ⟨g, j * 2 + 1, none⟩ = some (.int .u32 y.2.2.2) := by rw [hy]; exact h.tb.cell j 1 hj (by omega)
  rw [← hx, ← hy]
  have HR := Lib.hid h
  clear h hx hy
  go_enter Try.func54, Try.ntmps54
  go_wp2
  go_region
  go_wp2
  go_ret
  exact ⟨rfl, HR.out.drew, ab_drew (ab_refl _ _)⟩
end Go.Proofs.Ytfcpjckecjjmjaa.SoX
