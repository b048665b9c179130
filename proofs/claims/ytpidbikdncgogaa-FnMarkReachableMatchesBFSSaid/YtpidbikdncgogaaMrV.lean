/- FnMarkReachableMatchesBFS: the search. -/
import Derived.Test.YtpidbikdncgogaaRows
import Derived.Test.YtpidbikdncgogaaMem
import Derived.Test.YtpidbikdncgogaaSl
import Derived.Test.YtpidbikdncgogaaMrG
import Derived.Test.YtpidbikdncgogaaMrE
import Derived.Carry
import Derived.Deep.DeepCutAuto
import Derived.Great.BuildSlice
import Derived.Deep.MidRow
import Derived.Laws.Rows
import Derived.WalkKit
import Derived.ProofKit
import Derived.OpenShut
import Derived.Below
import Derived.WalkLawsBesides
import Derived.Lib.Hide
import Derived.Outline
import Derived.RegionTactic
import Derived.Deep.QuietTactic
import Derived.BigQuiet
import Derived.WalkSpells
import Derived.Deep.OwnRows
import Derived.IntWalk
import Derived.Deep.DeepMust
namespace Go.Proofs.Ytpidbikdncgogaa.MrV
open Go.RowKit Mem Sl
set_option linter.unusedVariables false
open Args Fvs Fxs Argn Tab MrI MrA MrC MrS MrB MrG MrE
open MrP (INF Gr Path Sound Rel Chain Vis Mid Bfs)

theorem tb_range {w : World} {g n s i : Nat} {T : Nat → Nat → Value} (h : Tb w g n s T) (hi : i < n) : w.rangeAt g (i * s) ((List.range s).map (T i)) := fun j v hv => by
  rw [List.getElem?_map] at hv
  rcases Nat.lt_or_ge j s with hj | hj
  · rw [List.getElem?_range hj] at hv
    simp at hv
    rw [h.cell i j hi hj, hv]
  · rw [List.getElem?_eq_none (by simpa using hj)] at hv
    simp at hv
theorem assT (a : Option Addr) (w : World) : (Instr.typeAssert (.iface 104 (.pointer a)) 41 104 true).run Try.prog w = .ok (.tuple #[.pointer a, .bool true]) w := by kernel_rfl
section
variable {n bit s : Nat} {d : Dat} {H : Nat → Fh} {O c q : Nat} {cs : Bool}
/-- In the visit of u. -/
def Sv (n bit : Nat) (d : Dat) (H : Nat → Fh) (O c q : Nat) (cs : Bool) (s : Nat) (D : Nat → Nat) (dd u : Nat) (w : World) (p : Nat → Prop) (wx : World) : Prop :=
  ∃ E, Gs n d H O c q cs wx ∧ Ds n bit H O E wx ∧ Fx (Pm n H O) w wx ∧ Mid (gr n d) s D dd u p E
theorem early18 (hn : n ≤ 256) (hbit : bit < 256) (w : World) (D : Nat → Nat) (dd u : Nat) (hg : Gs n d H O c q cs w) (hd : Ds n bit H O D w) (hu : u < n) (hdd : dd ≤ 256) (hs : Sound (gr n d) s D) (hle : ∀ v, D v ≤ INF) (h : d.lv u = true → D u ≤ dd) :
    Calls Try.prog 18 #[.pointer (some ⟨c, 0, none⟩), .int .u32 (u : Int), .int .u64 (bit : Int), .int .u32 (dd : Int)] w (Mk n bit d H O c q cs s D dd u w) := by
  have c10 := hg.c10
  have r := hg.row u hu
  have f0 := r.f0
  have f23 := r.f23
  have f20 := hd.dist u hu
  have FIN := Lib.hid (show ∀ W : World, Below w.heap.size w W → Mk n bit d H O c q cs s D dd u w (.returned (.tuple #[])) W from fun W hb => ⟨rfl, D, hg.later hb, hd.later hb, Fx.of_below hb, MrP.vis_none h, hs⟩)
  have HE := Lib.hid (hd.bits u hu)
  have hun : (u : Int) < (n : Int) := by omega
  have B0 := Lib.hid (Below.refl w.heap.size w)
  obtain ⟨du, hdu⟩ : ∃ x, x = D u := ⟨_, rfl⟩
  rw [← hdu] at f20 h
  have HDU := Lib.hid hdu
  clear hg hd r hs hle hdu
  cases hl : d.lv u
  · rw [hl] at f23
    clear h
    go_enter Try.func18, Try.ntmps18
    go_wp2
    go_end0
    exact FIN.out _ B0.out
  · rw [hl] at f23
    have hle2 := h hl
    have HLL := Lib.hid hl
    clear h hl
    have t0 : decide ((dd : Int) < (du : Int)) = false := by simp; omega
    have t1 : decide (dd < du) = false := by simp; omega
    have hm : decide (D u ≠ INF) = true := by rw [← HDU.out]; unfold INF; simp; omega
    have hf0 := fun W => has11 (H u).E true bit bit hbit hbit W
    have HH := Lib.hid hf0
    have hrow := HE.out.cell
    rw [hm] at hrow
    have HROW := Lib.hid hrow
    clear hf0 hm hrow
    go_enter Try.func18, Try.ntmps18
    go_wp2_with fail
    refine (HH.out w HROW.out).mono ?_
    rintro e w1 ⟨rfl, hb⟩
    have HB := Lib.hid hb
    clear hb
    have hbb : (true && (bit == bit)) = true := by simp
    go_wp2_with fail
    go_end0
    exact FIN.out _ HB.out
theorem sv_later {D : Nat → Nat} {dd u : Nat} {w wx wy : World} {p : Nat → Prop} (h : Sv n bit d H O c q cs s D dd u w p wx) (hb : Below wx.heap.size wx wy) : Sv n bit d H O c q cs s D dd u w p wy := by
  obtain ⟨E, h1, h2, h3, h4⟩ := h
  exact ⟨E, h1.later hb, h2.later hb, h3.trans (Fx.of_below hb), h4⟩
/-- One target more. -/
theorem sv_step {D E : Nat → Nat} {dd u x : Nat} {w wx wy : World} {p p' : Nat → Prop} {e : Ending} (h3 : Fx (Pm n H O) w wx) (h4 : Mid (gr n d) s D dd u p E) (hm : Mk n bit d H O c q cs s E (dd + 1) x wx e wy) (hp : ∀ y, p' y → p y ∨ y = x) : Sv n bit d H O c q cs s D dd u w p' wy := by
  obtain ⟨_, E', g1, g2, g3, g4, g5⟩ := hm
  exact ⟨E', g1, g2, h3.trans g3, (h4.step g4 g5).weaker hp⟩
theorem sv_weaker {D : Nat → Nat} {dd u : Nat} {w wx : World} {p p' : Nat → Prop} (h : Sv n bit d H O c q cs s D dd u w p wx) (hp : ∀ y, p' y → p y) : Sv n bit d H O c q cs s D dd u w p' wx := by
  obtain ⟨E, h1, h2, h3, h4⟩ := h
  exact ⟨E, h1, h2, h3, h4.weaker hp⟩
/-- A call inside. -/
theorem mid_call {D E : Nat → Nat} {dd u x N : Nat} {p : Nat → Prop} (hn : n ≤ 256) (hu : u < n) (hlt : dd < D u) (hle : ∀ v, D v ≤ INF) (hc : Chain n dd D) (hN : MrP.sum D n ≤ N + 1) (h : Mid (gr n d) s D dd u p E) (hx : Adj d u x) :
    MrP.sum E n ≤ N ∧ Chain n (dd + 1) E ∧ Sound (gr n d) s E ∧ (∀ v, E v ≤ INF) ∧ (d.lv x = true → Path (gr n d) s (dd + 1) x) := by
  have h1 := h.sum hu hlt
  have hd := MrP.chain_le hc
  have hI : dd < INF := by unfold INF; omega
  refine ⟨by omega, h.chain hc hu hlt, h.snd, fun v => ?_, fun hl => h.path hI hx hl⟩
  have h2 := h.mono v
  have h3 := hle v
  unfold MrP.up at h2
  split at h2 <;> omega
end
end Go.Proofs.Ytpidbikdncgogaa.MrV
