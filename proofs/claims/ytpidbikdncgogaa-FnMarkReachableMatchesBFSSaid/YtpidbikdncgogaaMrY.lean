/- FnMarkReachableMatchesBFS: the run. -/
import Derived.Test.YtpidbikdncgogaaRows
import Derived.Test.YtpidbikdncgogaaMem
import Derived.Test.YtpidbikdncgogaaSl
import Derived.Test.YtpidbikdncgogaaMrX
import Derived.Carry
import Derived.Deep.DeepCutAuto
import Derived.Great.BuildSlice
import Derived.Deep.MidRow
import Derived.Laws.Rows
import Derived.WalkKit
import Derived.ProofKit
import Derived.OpenShut
import Derived.Below
import Derived.WalkLawsBesides
import Derived.Lib.Hide
import Derived.Outline
import Derived.RegionTactic
import Derived.Deep.QuietTactic
import Derived.BigQuiet
import Derived.WalkSpells
import Derived.Deep.OwnRows
import Derived.IntWalk
import Derived.Deep.DeepMust
namespace Go.Proofs.Ytpidbikdncgogaa.MrY
open Go.RowKit Mem Sl
set_option linter.unusedVariables false
open Args Fvs Fxs Argn Tab MrI MrA MrC MrS MrB MrG MrE MrV MrW MrX
open MrP (INF Gr Path Sound Rel Chain Vis Mid Bfs)

section
variable {n bit s : Nat} {d : Dat} {H : Nat → Fh} {O c q : Nat} {cs : Bool}
set_option maxRecDepth 100000 in
theorem mark16 (x1 x2 x3 : Int) (w : World) (Q : Ending → World → Prop) (hQ : ∀ e w', Q e w' → e = .returned (.tuple #[])) (h : Calls Try.prog 18 #[.pointer (some ⟨c, 0, none⟩), .int .u32 x1, .int .u64 x2, .int .u32 x3] w Q) :
    Calls Try.prog 16 #[.pointer (some ⟨c, 0, none⟩), .int .u32 x1, .int .u64 x2, .int .u32 x3] w Q := by
  have HH := Lib.hid h
  have HQ := Lib.hid hQ
  clear h hQ
  go_enter Try.func16, Try.ntmps16
  go_wp2_with fail
  refine HH.out.mono ?_
  intro e w' hq
  obtain rfl := HQ.out e w' hq
  have HF := Lib.hid hq
  clear hq
  go_wp2
  go_end0
  exact HF.out
theorem geo_of {T : Nat → Nat → Value} {w0 w : World} (l : Lb n n d H T w0 w) (hc : w.heap.size ≤ c) (hq : w.heap.size ≤ q) : Geo n d H w0.heap.size c q := by
  have sz := l.sz
  have lt : ∀ i, i < n → (H i).E < w.heap.size := fun i hi => (l.bits i hi).lt
  refine ⟨fun i j hi hj e => ?_, fun i hi => ?_, fun i hi => ?_, fun i hi => ?_, fun i j hi hj x hx => ?_, by omega, by omega, fun j hj x hx => ?_⟩
  · rcases Nat.lt_trichotomy i j with h | h | h
    · have := l.cr i j h hj _ _ (.inr rfl) (.inr rfl); omega
    · exact h
    · have := l.cr j i h hi _ _ (.inr rfl) (.inr rfl); omega
  · have := l.lo i hi _ (.inr rfl); omega
  · have := lt i hi; omega
  · have := lt i hi; omega
  · rcases Nat.lt_trichotomy i j with h | h | h
    · have := l.cr i j h hj _ _ (.inr rfl) (.inl hx); omega
    · subst h; have := l.ap i hi x hx; omega
    · have := l.cr j i h hi _ _ (.inl hx) (.inr rfl); omega
  · have := l.lo j hj x (.inl hx); omega
theorem gs_of {T : Nat → Nat → Value} {w0 w w' : World} (l : Lb n n d H T w0 w) (hb : Below w.heap.size w w') (h1 : w'.cell? ⟨c, 10, none⟩ = some (.slice (some ⟨w0.heap.size, 0, none⟩) n n)) (h2 : w'.cell? ⟨c, 0, none⟩ = some (.pointer (some ⟨q, 0, none⟩))) (h3 : w'.cell? ⟨q, 79, none⟩ = some (.bool cs)) : Gs n d H w0.heap.size c q cs w' := by
  have t := l.tb.later hb
  exact ⟨h1, h2, h3, fun i hi => ⟨t.at_ (j := 0) hi (by decide) (l.row i hi).f0, t.at_ (j := 2) hi (by decide) (l.row i hi).f2, t.at_ (j := 22) hi (by decide) (l.row i hi).f22, t.at_ (j := 23) hi (by decide) (l.row i hi).f23⟩, fun i hi => (l.body i hi).later hb⟩
theorem ds_of {T : Nat → Nat → Value} {w0 w w' : World} (l : Lb n n d H T w0 w) (hb : Below w.heap.size w w') : Ds n bit H w0.heap.size (fun _ => INF) w' := by
  have t := l.tb.later hb
  refine ⟨fun i hi => t.at_ (j := 20) hi (by decide) (l.row i hi).f20, fun i hi => t.frozen _, fun i hi => ?_⟩
  have h1 := (l.bits i hi).below hb (l.bits i hi).lt
  refine h1.congr (fun x _ => ?_)
  have : decide (INF ≠ INF) = false := by decide
  rw [this, bv_no]
/-- After the run. -/
def Rn (n bit : Nat) (d : Dat) (H : Nat → Fh) (O : Nat) (s : Nat) (w : World) (e : Ending) (w' : World) : Prop :=
  e = .returned (.tuple #[]) ∧ ∃ E, (∀ i, i < n → Row4 w' O i (H i) (d.lv i)) ∧ Ds n bit H O E w' ∧ Fx (Pm n H O) w w' ∧ Vis (gr n d) (fun _ => INF) 0 s E ∧ Sound (gr n d) s E
set_option maxRecDepth 100000 in
set_option maxHeartbeats 4000000 in
theorem run9 (hn : n ≤ 256) (hbit : bit < 256) (hgd : MrW.Good n n d) (hwf : Wf n d) (hl : Lens n d) (T : Nat → Nat → Value) (w0 w : World) (hlb : Lb n n d H T w0 w) (hs : s < n) :
    Calls Try.prog 9 #[.slice (some ⟨w0.heap.size, 0, none⟩) n n, .bool cs, .int .u32 (s : Int), .int .u8 (bit : Int), .int .u32 0, .int .u8 0, .bool false] w (Rn n bit d H w0.heap.size s w) := by
  have LB := Lib.hid hlb
  have GD := Lib.hid hgd
  have WF := Lib.hid hwf
  have HL := Lib.hid hl
  have cv : IntKind.u64.wrap (bit : Int) = (bit : Int) := IntWalk.u64_in _ (by omega)
  obtain ⟨O, hO⟩ : ∃ O, O = w0.heap.size := ⟨_, rfl⟩
  rw [← hO]
  have HO := Lib.hid hO
  have r := Row.newArr w 189 (c189 cs)
  have HA := Lib.hid (r.at_ (i := 79) (c189_at cs))
  have BA := Lib.hid (show Below w.heap.size w (w.alloc (.cells (c189 cs) 189)) from (Below.refl _ _).alloc (Nat.le_refl _) _)
  have SZ := Lib.hid r.lt
  clear hlb hgd hwf hl hO r
  go_enter Try.func9, Try.ntmps9
  go_wp2_with (first | (refine wpList_buildTo rfl 189 _ rfl (some 16) rfl (c189 cs) (by kernel_rfl) ?_))
  obtain ⟨w1, hw1⟩ : ∃ x, x = w.alloc (.cells (c189 cs) 189) := ⟨_, rfl⟩
  obtain ⟨q, hq⟩ : ∃ x, x = w.heap.size := ⟨_, rfl⟩
  rw [← hw1, ← hq] at HA
  rw [← hw1, ← hq] at SZ
  rw [← hw1] at BA
  rw [← hw1, ← hq]
  have HQ := Lib.hid hq
  clear hw1 hq
  refine (link15 q O n w1).mono ?_
  rintro e w2 ⟨⟨c, rfl, h10, h0, hc⟩, hb2⟩
  have BB := Lib.hid (BA.out.trans (hb2.mono (Nat.le_of_lt (by have := BA.out.size; have := SZ.out; have := HQ.out; omega))))
  have h79 := cell_later hb2 HA.out
  have GE := Lib.hid (show Geo n d H O c q by rw [HO.out]; exact geo_of LB.out (by have := SZ.out; have := HQ.out; omega) (by rw [HQ.out]; exact Nat.le_refl _))
  have GS := Lib.hid (show Gs n d H O c q cs w2 by rw [HO.out] at h10 ⊢; exact gs_of LB.out BB.out h10 h0 h79)
  have DS := Lib.hid (show Ds n bit H O (fun _ => INF) w2 by rw [HO.out]; exact ds_of LB.out BB.out)
  have MK := Lib.hid (mark16 (c := c) (s : Int) (bit : Int) ((0 : Nat) : Int) w2 (Mk n bit d H O c q cs s (fun _ => INF) 0 s w2) (fun e w' h => h.1) (mark18 hn hbit GD.out WF.out HL.out GE.out (MrP.sum (fun _ => INF) n) w2 (fun _ => INF) 0 s GS.out DS.out (Nat.le_refl _) hs (fun i hi => absurd hi (Nat.not_lt_zero i)) (fun v hv => absurd rfl hv) (fun _ => Nat.le_refl _) (fun h => .zero h)))
  clear h10 h0 hc hb2 h79
  go_wp2_with fail
  refine MK.out.mono ?_
  rintro e w3 hm
  have FIN := Lib.hid (show Rn n bit d H O s w (.returned (.tuple #[])) w3 from by
    obtain ⟨_, E, g1, g2, g3, g4, g5⟩ := hm
    exact ⟨rfl, E, g1.row, g2, (Fx.of_below BB.out).trans g3, g4, g5⟩)
  obtain ⟨rfl, _⟩ := hm
  go_wp2
  go_end0
  exact FIN.out
end
end Go.Proofs.Ytpidbikdncgogaa.MrY
