/- FnSortedCrossChunkImportsOrderFree: sort.Sort at the two arrays. -/
import Derived.Test.YtfcpjckecjjmjaaSoX
import Derived.Sort.LotA
import Derived.WalkKit
import Derived.ProofKit
import Derived.OpenShut
import Derived.Below
import Derived.WalkLawsBesides
import Derived.Lib.Hide
import Derived.Outline
import Derived.RegionTactic
import Derived.Deep.QuietTactic
import Derived.BigQuiet
import Derived.WalkSpells
import Derived.Deep.OwnRows
import Derived.IntWalk
import Derived.Deep.DeepMust
namespace Go.Proofs.Ytfcpjckecjjmjaa.SoY
open Go.RowKit Go.Sort Go.Shelf Mem Args Fvs Fxs Tab SoA SoS SoX
set_option linter.unusedVariables false

def ltI (x y : IRow) : Bool := Op.bytesLess x.1.toList y.1.toList
def ltM (x y : MRow) : Bool := decide (x.2.2.2 < y.2.2.2)
theorem swoI : SWO ltI := by
  refine ⟨fun x => ?_, fun x y z h1 h2 => ?_, fun x y z h1 h2 => ?_⟩ <;> simp only [ltI, bytesLess_eq] at *
  · exact swo_ltStr.irrefl x.1.toList
  · exact swo_ltStr.trans x.1.toList y.1.toList z.1.toList h1 h2
  · exact swo_ltStr.ntrans x.1.toList y.1.toList z.1.toList h1 h2
theorem swoM : SWO ltM := by
  refine ⟨fun x => ?_, fun x y z h1 h2 => ?_, fun x y z h1 h2 => ?_⟩ <;> simp only [ltM, decide_eq_true_eq, decide_eq_false_iff_not] at * <;> omega

theorem ifcI (g n c : Nat) (w0 : World) (hn : n ≤ 1048576) : Ifc Try.prog 37 (.slice (some ⟨g, 0, none⟩) n c) 57 58 ltI n w0.heap.size (fun w d => Rw 3 VI g n w0 w d) where
  mL := mLessI _
  mS := mSwapI _
  eL := eLessI
  eS := eSwapI
  size := fun _ _ h => h.sz
  has := fun _ _ h => h.fx.size
  lessA := fun w d i j h hi hj => less_IRow g n c i j d w0 w h hi hj hn
  swapA := fun w d i j h hi hj => swap_IRow g n c i j d w0 w h hi hj hn
  later := fun w w' d h hb => h.later hb
set_option maxHeartbeats 400000 in
theorem lenI (A : Option Addr) (n c : Nat) (w : World) : Calls Try.prog 56 #[.slice A n c] w fun e w' => e = .returned (.int .i64 n) ∧ w = w' := by
  go_enter Try.func56, Try.ntmps56
  go_wp2
  go_ret
  exact ⟨rfl, rfl⟩
theorem sortI (g n c : Nat) (d : Array IRow) (w : World) (hn : n ≤ 1048576) (hd : d.size = n) (h : Tb w g n 3 (fun i j => VI d[i]! j)) :
    Calls Try.prog 18 #[.iface 37 (.slice (some ⟨g, 0, none⟩) n c)] w fun e w' => e = .returned (.tuple #[]) ∧ ∃ d', Rw 3 VI g n w w' d' ∧ d'.toList.Perm d.toList ∧ SortedIn ltI 0 n d' := by
  have hS : Rw 3 VI g n w w d := ⟨hd, h, Fx.refl _ _, h.lt⟩
  have := sort11 (P := Try.prog) (ρ := Try.slSort_ren) Try.slSort swoI (ifcI g n c w hn) hn 56 (mLenI _) eLenI w d hS ((lenI _ n c w).mono fun _ _ ⟨he, hw⟩ => ⟨he, by rw [← hw]; exact hS⟩)
  exact this

theorem ifcM (g n c : Nat) (w0 : World) (hn : n ≤ 1048576) : Ifc Try.prog 29 (.slice (some ⟨g, 0, none⟩) n c) 54 55 ltM n w0.heap.size (fun w d => Rw 2 VM g n w0 w d) where
  mL := mLessM _
  mS := mSwapM _
  eL := eLessM
  eS := eSwapM
  size := fun _ _ h => h.sz
  has := fun _ _ h => h.fx.size
  lessA := fun w d i j h hi hj => less_MRow g n c i j d w0 w h hi hj hn
  swapA := fun w d i j h hi hj => swap_MRow g n c i j d w0 w h hi hj hn
  later := fun w w' d h hb => h.later hb
set_option maxHeartbeats 400000 in
theorem lenM (A : Option Addr) (n c : Nat) (w : World) : Calls Try.prog 10 #[.slice A n c] w fun e w' => e = .returned (.int .i64 n) ∧ w = w' := by
  go_enter Try.func10, Try.ntmps10
  go_wp2
  go_ret
  exact ⟨rfl, rfl⟩
theorem sortM (g n c : Nat) (d : Array MRow) (w : World) (hn : n ≤ 1048576) (hd : d.size = n) (h : Tb w g n 2 (fun i j => VM d[i]! j)) :
    Calls Try.prog 18 #[.iface 29 (.slice (some ⟨g, 0, none⟩) n c)] w fun e w' => e = .returned (.tuple #[]) ∧ ∃ d', Rw 2 VM g n w w' d' ∧ d'.toList.Perm d.toList ∧ SortedIn ltM 0 n d' := by
  have hS : Rw 2 VM g n w w d := ⟨hd, h, Fx.refl _ _, h.lt⟩
  have := sort11 (P := Try.prog) (ρ := Try.slSort_ren) Try.slSort swoM (ifcM g n c w hn) hn 10 (mLenM _) eLenM w d hS ((lenM _ n c w).mono fun _ _ ⟨he, hw⟩ => ⟨he, by rw [← hw]; exact hS⟩)
  exact this

/-- Two sorted arrays that are permutations of each other are one, where the order tells any two elements apart. -/
theorem sorted_one {α : Type} [Inhabited α] {lt : α → α → Bool} (hO : SWO lt) (ha : ∀ x y, lt x y = false → lt y x = false → x = y) (a b : Array α) (hp : b.toList.Perm a.toList) (h1 : SortedIn lt 0 a.size a) (h2 : SortedIn lt 0 b.size b) : a = b := by
  have hs : b.size = a.size := by have := hp.length_eq; simpa using this
  have e1 : ∀ c : Array α, c.extract 0 c.size = c := fun c => Array.extract_size
  have p1 : PermIn 0 a.size a a := ⟨rfl, fun _ _ => rfl, by rw [e1]⟩
  have p2 : PermIn 0 a.size a b := ⟨hs, fun i hi => by
    rcases hi with hi | hi
    · exact absurd hi (Nat.not_lt_zero _)
    · rw [getElem!_neg b i (by omega), getElem!_neg a i (by omega)], by rw [e1, ← hs, e1]; exact hp⟩
  have r1 := sorted_unique_holds hO ha a a p1 h1
  have r2 := sorted_unique_holds hO ha a b p2 (by rw [← hs]; exact h2)
  exact Array.toList_inj.1 (r1.trans r2.symm)
end Go.Proofs.Ytfcpjckecjjmjaa.SoY
