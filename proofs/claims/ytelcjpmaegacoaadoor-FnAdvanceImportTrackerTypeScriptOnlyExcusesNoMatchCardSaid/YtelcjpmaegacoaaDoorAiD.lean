/- FnAdvanceImportTrackerTypeScriptOnlyExcusesNoMatch: the step. -/
import Derived.Test.YtelcjpmaegacoaaDoorRows
import Derived.Test.YtelcjpmaegacoaaDoorMem
import Derived.Test.YtelcjpmaegacoaaDoorSl
import Derived.Test.YtelcjpmaegacoaaDoorAiS
import Derived.Great.BuildSlice
import Derived.Deep.RegionHeld3
import Derived.Deep.RegionLaw
import Derived.Carry
import Derived.Deep.DeepCutAuto
import Derived.Laws.Rows
import Derived.WalkKit
import Derived.ProofKit
import Derived.OpenShut
import Derived.Below
import Derived.WalkLawsBesides
import Derived.Lib.Hide
import Derived.Outline
import Derived.RegionTactic
import Derived.Deep.QuietTactic
import Derived.BigQuiet
import Derived.WalkSpells
import Derived.Deep.OwnRows
import Derived.IntWalk
import Derived.Deep.DeepMust
namespace Go.Proofs.YtelcjpmaegacoaaDoor.AiD
open Go.RowKit Mem Sl
set_option linter.unusedVariables false
open Args Fvs AiP AiA AiC AiJ AiS MapK Go.Maps

noncomputable def c192 (g F : Nat) : Array Value := (Tryd.prog.built 192 [(0, .pointer (some ⟨g, 0, none⟩)), (5, .agg ((Tryd.prog.built 174 [(0, .slice (some ⟨F, 0, none⟩) 2 2)]).getD #[]))]).getD #[]
noncomputable def c174 (F : Nat) : Array Value := (Tryd.prog.built 174 [(0, .slice (some ⟨F, 0, none⟩) 2 2)]).getD #[]
noncomputable def c168 : Array Value := (Tryd.prog.built 168 []).getD #[]
theorem c192_10 (g F : Nat) : (c192 g F).toList[10]? = some (.slice (some ⟨F, 0, none⟩) 2 2) := by kernel_rfl
set_option maxRecDepth 100000 in
set_option maxHeartbeats 4000000 in
theorem link7 (F : Nat) (w : World) : Calls Tryd.prog 7 #[.slice (some ⟨F, 0, none⟩) 2 2] w fun e w' => (∃ c, e = .returned (.pointer (some ⟨c, 0, none⟩)) ∧ w'.cell? ⟨c, 10, none⟩ = some (.slice (some ⟨F, 0, none⟩) 2 2) ∧ c < w'.heap.size) ∧ Below w.heap.size w w' := by
  go_enter Tryd.func7, Tryd.ntmps7
  go_wp2_with (first | (refine wpList_buildTo rfl 168 _ rfl (some 3) rfl c168 (by kernel_rfl) ?_) | (refine wpList_buildTo rfl 174 _ rfl (some 6) rfl (c174 F) (by kernel_rfl) ?_) | (refine wpList_buildTo rfl 192 _ rfl (some 7) rfl (c192 w.heap.size F) (by kernel_rfl) ?_))
  go_ret
  have r := Row.newArr (w.alloc (.cells c168 168)) 192 (c192 w.heap.size F)
  simp only [World.size_alloc] at r
  exact ⟨⟨_, rfl, r.at_ (i := 10) (c192_10 _ _), r.lt⟩, ((Below.refl _ _).alloc (Nat.le_refl _) _).alloc (by simp) _⟩
theorem assert36 (a : Option Addr) (w : World) : (Instr.typeAssert (.iface 36 (.pointer a)) 110 36 false).run Tryd.prog w = .ok (.pointer a) w := by kernel_rfl
theorem zero84 (w : World) : (zeroValue 84).run Tryd.prog w = .ok (.agg #[.string ByteArray.empty, .slice none 0 0, .int .i32 0, .int .u32 0, .int .u32 0, .int .u32 0, .bool false, .bool false]) w := by kernel_rfl
theorem zero100 (w : World) : (zeroValue 100).run Tryd.prog w = .ok (.agg #[.slice none 0 0, .int .u32 0, .int .u32 0, .int .i32 0, .int .u32 0]) w := by kernel_rfl
/-- What the variable InvalidRef holds. -/
structure Gi (w : World) : Prop where
  c0 : w.cell? ⟨0, 0, none⟩ = some (.int .u32 4294967295)
  c1 : w.cell? ⟨0, 1, none⟩ = some (.int .u32 4294967295)
  lt : 0 < w.heap.size
theorem Gi.below {w w' : World} {B : Nat} (h : Gi w) (hb : Below B w w') (hB : 0 < B) : Gi w' := ⟨(hb.cell (p := ⟨0, 0, none⟩) hB).trans h.c0, (hb.cell (p := ⟨0, 1, none⟩) hB).trans h.c1, Nat.lt_of_lt_of_le h.lt hb.size⟩
theorem valid13 (x : Int) (w : World) : Calls Tryd.prog 13 #[.agg #[.int .u32 x]] w fun e w' => e = .returned (.bool (x != 0)) ∧ Below w.heap.size w w' := by
  have HB := Lib.hid (Below.refl w.heap.size w)
  go_enter Tryd.func13, Tryd.ntmps13
  go_wp2
  go_ret
  exact ⟨rfl, HB.out.alloc (Nat.le_refl _) _⟩
theorem index14 (w : World) : Calls Tryd.prog 14 #[.agg #[.int .u32 4294967294]] w fun e w' => e = .returned (.int .u32 1) ∧ Below w.heap.size w w' := by
  have HB := Lib.hid (Below.refl w.heap.size w)
  have hx : bits BinOp.xor IntKind.u32 IntKind.u32.max 4294967294 = 1 := by decide +kernel
  go_enter Tryd.func14, Tryd.ntmps14
  go_wp2
  go_ret
  exact ⟨rfl, HB.out.alloc (Nat.le_refl _) _⟩
theorem ists15 (ts : Bool) (l : Int) (hl : l = if ts = true then 16 else 10) (w : World) : Calls Tryd.prog 15 #[.int .u8 l] w fun e w' => e = .returned (.bool ts) ∧ Below w.heap.size w w' := by
  have HB := Lib.hid (Below.refl w.heap.size w)
  subst hl
  cases ts
  · show Calls Tryd.prog 15 #[.int .u8 10] w _
    go_enter Tryd.func15, Tryd.ntmps15
    go_wp2
    go_ret
    exact ⟨rfl, HB.out⟩
  · show Calls Tryd.prog 15 #[.int .u8 16] w _
    go_enter Tryd.func15, Tryd.ntmps15
    go_wp2
    go_ret
    exact ⟨rfl, HB.out⟩
/-- A linker's context over the files. -/
structure Cl (p : Pa) (ts : Bool) (c F I O : Nat) (w : World) : Prop where
  lf : Lf p ts F I O w
  c10 : w.cell? ⟨c, 10, none⟩ = some (.slice (some ⟨F, 0, none⟩) 2 2)
  lt : c < w.heap.size
  gi : Gi w
theorem Cl.later {p : Pa} {ts : Bool} {c F I O : Nat} {w w' : World} (h : Cl p ts c F I O w) (hb : Below w.heap.size w w') : Cl p ts c F I O w' := ⟨h.lf.later hb, (hb.cell (p := ⟨c, 10, none⟩) h.lt).trans h.c10, Nat.lt_of_lt_of_le h.lt hb.size, h.gi.below hb h.gi.lt⟩
theorem lookI {p : Pa} {ts : Bool} {c F I O : Nat} {w : World} (h : Cl p ts c F I O w) : (Instr.lookup 71 (.map (some (I + 1))) (.agg #[.int .u32 0, .int .u32 0]) false).run Tryd.prog w = .ok (.agg #[.string p.al, .slice none 0 0, .int .i32 0, .int .u32 0, .int .u32 0, .int .u32 0, .bool p.star, .bool p.exp]) w := by
  obtain ⟨n, hm⟩ := h.lf.bd.im.mp
  have h9 := hm.look Tryd.underlying71 keyed31 key_zero (zero84 w)
  rw [put_self] at h9
  exact h9
/-- Inside the step, the import looked up. -/
structure Sg (p : Pa) (ts : Bool) (c F I O Z T : Nat) (w wx : World) : Prop where
  cl : Cl p ts c F I O wx
  res : Row wx (Z + 1) 194 [.int .u32 0, .int .i32 0, .int .u32 0, .int .u32 0]
  var : Row wx T 84 [.string p.al, .slice none 0 0, .int .i32 0, .int .u32 0, .int .u32 0, .int .u32 0, .bool p.star, .bool p.exp]
  bel : Below w.heap.size w wx
  ZT : Z + 1 < T
theorem Sg.later {p : Pa} {ts : Bool} {c F I O Z T : Nat} {w wx w' : World} (h : Sg p ts c F I O Z T w wx) (hb : Below wx.heap.size wx w') : Sg p ts c F I O Z T w w' :=
  ⟨h.cl.later hb, h.res.below hb h.res.lt, h.var.below hb h.var.lt, h.bel.trans (hb.mono h.bel.size), h.ZT⟩
theorem sg_of {p : Pa} {ts : Bool} {c F I O Z : Nat} {w w2 : World} (h : Cl p ts c F I O w2) (hw : Below Z w w2) (hr : Row w2 (Z + 1) 194 [.int .u32 0, .int .i32 0, .int .u32 0, .int .u32 0]) (hz : Z = w.heap.size) : Sg p ts c F I O Z w2.heap.size w (w2.alloc (.cells #[.string p.al, .slice none 0 0, .int .i32 0, .int .u32 0, .int .u32 0, .int .u32 0, .bool p.star, .bool p.exp] 84)).drew := by
  have hb3 : Below w2.heap.size w2 (w2.alloc (.cells #[.string p.al, .slice none 0 0, .int .i32 0, .int .u32 0, .int .u32 0, .int .u32 0, .bool p.star, .bool p.exp] 84)).drew := ((Below.refl _ _).alloc (Nat.le_refl _) _).drew
  subst hz
  exact ⟨h.later hb3, hr.below hb3 hr.lt, (Row.newArr w2 84 #[.string p.al, .slice none 0 0, .int .i32 0, .int .u32 0, .int .u32 0, .int .u32 0, .bool p.star, .bool p.exp]).drew, hw.trans (hb3.mono hw.size), hr.lt⟩
def dflt : ByteArray := ⟨#[100, 101, 102, 97, 117, 108, 116]⟩
theorem dflt_eq : "default".toUTF8 = dflt := by decide +kernel
theorem dflt_ne {a : ByteArray} (h : a ≠ dflt) : (a.toList == [100, 101, 102, 97, 117, 108, 116]) = false := by
  rw [beq_eq_false_iff_ne]
  intro e
  apply h
  apply ByteArray.ext
  apply Array.ext'
  rw [← ByteArray.toList_eq, e]
  rfl
def bareB (p : Pa) : Bool := !p.star && !p.lazy && (p.kw == 0) && !decide (p.al = dflt) && !p.ue && !p.um
theorem bare_iff (p : Pa) : bareB p = true ↔ p.bare := by
  unfold bareB Pa.bare
  rw [dflt_eq]
  simp [and_assoc]
/-- The export star's data. -/
structure St (w : World) (q b : Nat) : Prop where
  lt : q < w.heap.size
  s0 : w.cell? ⟨q, 0, none⟩ = some (.slice (some ⟨b, 0, none⟩) 2 2)
  s1 : w.cell? ⟨q, 1, none⟩ = some (.int .u32 3)
  s2 : w.cell? ⟨q, 2, none⟩ = some (.int .u32 77)
  s3 : w.cell? ⟨q, 3, none⟩ = some (.int .i32 99)
  s4 : w.cell? ⟨q, 4, none⟩ = some (.int .u32 3)
  ab0 : Ab w b 0 4
  ab1 : Ab w b 5 6
theorem far4 {w : World} {g b o : Nat} {v0 v1 v2 v3 : Value} (h : b ≠ g) : ((((w.setCell ⟨g, 0, none⟩ v0).setCell ⟨g, 1, none⟩ v1).setCell ⟨g, 2, none⟩ v2).setCell ⟨g, 3, none⟩ v3).cell? ⟨b, o, none⟩ = w.cell? ⟨b, o, none⟩ := by
  have e : ∀ (w : World) (k : Nat) (v : Value), (w.setCell ⟨g, k, none⟩ v).cell? ⟨b, o, none⟩ = w.cell? ⟨b, o, none⟩ := fun w k v => World.cell?_of_block (a := ⟨b, o, none⟩) (Below.heap_setCell w _ v b h)
  rw [e, e, e, e]
theorem star_keep {w6 : World} {q b Z : Nat} (w' : World) (q0 : w6.cell? ⟨q, 0, none⟩ = some (.slice (some ⟨b, 0, none⟩) 2 2)) (q1 : w6.cell? ⟨q, 1, none⟩ = some (.int .u32 3)) (q2 : w6.cell? ⟨q, 2, none⟩ = some (.int .u32 77)) (q3 : w6.cell? ⟨q, 3, none⟩ = some (.int .i32 99)) (q4 : w6.cell? ⟨q, 4, none⟩ = some (.int .u32 3)) (hne : q ≠ Z + 1) :
    (fun W : World => W.cell? ⟨q, 4, none⟩ = some (.int .u32 3) ∧ W.cell? ⟨q, 1, none⟩ = some (.int .u32 3) ∧ W.cell? ⟨q, 2, none⟩ = some (.int .u32 77) ∧ W.cell? ⟨q, 3, none⟩ = some (.int .i32 99) ∧ W.cell? ⟨q, 0, none⟩ = some (.slice (some ⟨b, 0, none⟩) 2 2)) ((((w6.setCell ⟨Z + 1, 0, none⟩ (.int .u32 3)).setCell ⟨Z + 1, 1, none⟩ (.int .i32 99)).setCell ⟨Z + 1, 2, none⟩ (.int .u32 3)).setCell ⟨Z + 1, 3, none⟩ (.int .u32 77)) :=
  ⟨(far4 hne).trans q4, (far4 hne).trans q1, (far4 hne).trans q2, (far4 hne).trans q3, (far4 hne).trans q0⟩
theorem ab_far4 {w : World} {b o Z : Nat} {x y : Int} {v0 v1 v2 v3 : Value} (h : Ab w b o x) (hy : w.cell? ⟨Z + 1, 0, none⟩ = some (.int .u32 y)) (ho : o = 0 ∨ w.cell? ⟨b, 0, none⟩ = some (.slice none 0 0)) : Ab ((((w.setCell ⟨Z + 1, 0, none⟩ v0).setCell ⟨Z + 1, 1, none⟩ v1).setCell ⟨Z + 1, 2, none⟩ v2).setCell ⟨Z + 1, 3, none⟩ v3) b o x := by
  have hne : b ≠ Z + 1 := by
    rintro rfl
    rcases ho with rfl | ho
    · have := h.a0; rw [hy] at this; cases this
    · rw [hy] at ho; cases ho
  exact ((((h.far (p := ⟨Z + 1, 0, none⟩) hne _).far (p := ⟨Z + 1, 1, none⟩) hne _).far (p := ⟨Z + 1, 2, none⟩) hne _).far (p := ⟨Z + 1, 3, none⟩) hne _)
theorem ab_drew {w : World} {b o : Nat} {x : Int} (h : Ab w b o x) : Ab w.drew b o x := ⟨h.lt, h.a0, h.a1, h.a2, h.a3, h.a4⟩
theorem tabF_at (g : Nat → ByteArray) (V : Nat → Value) (x : ByteArray) : ∀ n, tabF g V n (.string x) = if lastK g x n < 0 then none else some (V (lastK g x n).toNat)
  | 0 => by unfold tabF lastK; rfl
  | n + 1 => by
    have ih := tabF_at g V x n
    unfold tabF lastK
    by_cases e : g n = x
    · subst e
      rw [put_self, if_pos rfl, if_neg (by omega)]
      simp
    · rw [put_other _ _ (fun h => e (by injection h with h; exact h.symm)), ih, if_neg e]
theorem lookE_yes {p : Pa} {O cn j : Nat} {bj : Nat → Nat} {w W : World} (h : MapF Tryd.prog w (O + 1) 9 cn (tabF p.g (vj bj) p.n)) (hb : Below w.heap.size w W) (ha : p.al.size ≤ maxLen) (hj : lastK p.g p.al p.n = (j : Int)) :
    (Instr.lookup 39 (.map (some (O + 1))) (.string p.al) true).run Tryd.prog W = .ok (.tuple #[vj bj j, .bool true]) W := by
  have h9 := (h.below hb h.lt).look_ok Tryd.underlying39 keyed9 (key_str p.al ha) (zero100 W)
  rw [tabF_at, hj, if_neg (by omega)] at h9
  exact h9
theorem lookE_no {p : Pa} {O cn : Nat} {bj : Nat → Nat} {w W : World} (h : MapF Tryd.prog w (O + 1) 9 cn (tabF p.g (vj bj) p.n)) (hb : Below w.heap.size w W) (ha : p.al.size ≤ maxLen) (hj : lastK p.g p.al p.n < 0) :
    (Instr.lookup 39 (.map (some (O + 1))) (.string p.al) true).run Tryd.prog W = .ok (.tuple #[.agg #[.slice none 0 0, .int .u32 0, .int .u32 0, .int .i32 0, .int .u32 0], .bool false]) W := by
  have h9 := (h.below hb h.lt).look_ok Tryd.underlying39 keyed9 (key_str p.al ha) (zero100 W)
  rw [tabF_at, if_pos hj] at h9
  exact h9
theorem found_keep {E Z : Nat} {a b c d e : Value} {x0 x1 x2 x3 : Value} (w' : World) (q0 : w'.cell? ⟨E, 0, none⟩ = some a) (q1 : w'.cell? ⟨E, 1, none⟩ = some b) (q2 : w'.cell? ⟨E, 2, none⟩ = some c) (q3 : w'.cell? ⟨E, 3, none⟩ = some d) (q4 : w'.cell? ⟨E, 4, none⟩ = some e) (hne : E ≠ Z + 1) :
    (fun W : World => W.cell? ⟨E, 4, none⟩ = some e ∧ W.cell? ⟨E, 1, none⟩ = some b ∧ W.cell? ⟨E, 2, none⟩ = some c ∧ W.cell? ⟨E, 3, none⟩ = some d ∧ W.cell? ⟨E, 0, none⟩ = some a) ((((w'.setCell ⟨Z + 1, 0, none⟩ x0).setCell ⟨Z + 1, 1, none⟩ x1).setCell ⟨Z + 1, 2, none⟩ x2).setCell ⟨Z + 1, 3, none⟩ x3) :=
  ⟨(far4 hne).trans q4, (far4 hne).trans q1, (far4 hne).trans q2, (far4 hne).trans q3, (far4 hne).trans q0⟩
/-- What the outcomes answer. -/
noncomputable def Pa.ans (p : Pa) : Nat → Int × Int × Int × Int × Int
  | 0 => (0, 0, 0, 0, 6)
  | 1 => (1, 0, 4294967295, 4294967295, 4)
  | 2 => (1, 0, 4294967295, 4294967295, 2)
  | 3 => (3, 99, 3, 77, 1)
  | 4 => (lastK p.g p.al p.n + 5, lastK p.g p.al p.n + 1, 1, lastK p.g p.al p.n, 1)
  | 5 => (1, 0, 1, 1073741824, 3)
  | 6 => (0, 0, 0, 0, 7)
  | _ => (1, 0, 0, 0, 0)
/-- The ambiguous ones. -/
def Am (p : Pa) (w : World) (v : Value) : Nat → Prop
  | 3 => ∃ b, v = .slice (some ⟨b, 0, none⟩) 2 2 ∧ Ab w b 0 4 ∧ Ab w b 5 6
  | 4 => ∃ b, v = .slice (some ⟨b, 0, none⟩) 1 1 ∧ Ab w b 0 (lastK p.g p.al p.n + 7)
  | _ => v = .slice none 0 0
def Adv (p : Pa) (ts : Bool) (w : World) (e : Ending) (w' : World) : Prop := ∃ a b c d st v, e = .returned (.tuple #[.agg #[.int .u32 a, .int .i32 b, .int .u32 c, .int .u32 d], .int .u8 st, v]) ∧ Pa.ans p (p.out ts) = (a, b, c, d, st) ∧ Am p w' v (p.out ts) ∧ Below w.heap.size w w'
theorem adv_of {p : Pa} {ts : Bool} {c F I O Z T : Nat} {w wx W : World} {o : Nat} {a b c' d st : Int} {v : Value} (h : Sg p ts c F I O Z T w wx) (hb : Below w.heap.size wx W) (ho : p.out ts = o) (ha : Pa.ans p o = (a, b, c', d, st)) (hm : Am p W v o) : Adv p ts w (.returned (.tuple #[.agg #[.int .u32 a, .int .i32 b, .int .u32 c', .int .u32 d], .int .u8 st, v])) W := by
  subst ho
  exact ⟨a, b, c', d, st, v, rfl, ha, hm, h.bel.trans hb⟩
end Go.Proofs.YtelcjpmaegacoaaDoor.AiD
