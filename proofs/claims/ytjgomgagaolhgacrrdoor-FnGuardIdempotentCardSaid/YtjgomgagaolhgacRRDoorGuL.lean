/- FnGuardIdempotent: the law. -/
import Derived.Test.YtjgomgagaolhgacRRDoorRows
import Derived.Test.YtjgomgagaolhgacRRDoorMem
import Derived.Test.YtjgomgagaolhgacRRDoorSl
import Derived.Test.YtjgomgagaolhgacRRDoorGuA
import Derived.WalkKit
import Derived.ProofKit
import Derived.OpenShut
import Derived.Below
import Derived.WalkLawsBesides
import Derived.Lib.Hide
import Derived.Outline
import Derived.RegionTactic
import Derived.Deep.QuietTactic
import Derived.BigQuiet
import Derived.WalkSpells
import Derived.Deep.OwnRows
import Derived.IntWalk
import Derived.Deep.DeepMust
namespace Go.Proofs.YtjgomgagaolhgacRRDoor.GuL
open Go.RowKit Mem Sl
set_option linter.unusedVariables false
open GuA

def Ty (T : Nat) : Prop := T = 95 ∨ T = 99 ∨ T = 103 ∨ T = 105
theorem of_laid {W : World} (_h : laidMetH Tryd.prog Rows.fnGuardIdempotentRow.laid W) : True := trivial
theorem peqIn {P : Program} (d : Nat) (t e : TypeId) (n q : Nat) (w : World) (ht : P.underlying t = some (.pointer e)) (hs : (sizeOf e).run P w = .ok (n + 1) w) : (Op.equalIn (d + 1) t (.pointer (some ⟨q, 0, none⟩)) (.pointer (some ⟨q, 0, none⟩))).run P w = .ok true w := by
  simp [Op.equalIn, run_underlying ht, hs, sameAddr, Result.andThen]
theorem peq {P : Program} (t e : TypeId) (n q : Nat) (w : World) (ht : P.underlying t = some (.pointer e)) (hs : (sizeOf e).run P w = .ok (n + 1) w) : (binOp .eql t (.pointer (some ⟨q, 0, none⟩)) (.pointer (some ⟨q, 0, none⟩))).run P w = .ok (.bool true) w := by
  have h : (Op.equal t (.pointer (some ⟨q, 0, none⟩)) (.pointer (some ⟨q, 0, none⟩))).run P w = .ok true w := peqIn 9999 t e n q w ht hs
  simp only [binOp]
  simp [h]
theorem guard19 (T p q : Nat) (loc fl op : Int) (f1 f2 : Bool) (w : World) (hT : Ty T) (hc : T = 99 → w.cell? ⟨q, 4, none⟩ = some (.int .u8 op)) (hq : q < w.heap.size) (h1 : (bits .and .u16 fl 128 != 0) = f1) (h2 : (bits .and .u16 fl 256 != 0) = f2) :
    Calls Tryd.prog 19 #[.pointer (some ⟨p, 0, none⟩), .agg #[.iface T (.pointer (some ⟨q, 0, none⟩)), .int .i32 loc], .int .u16 fl] w (Gd (wrapB f1 f2 T op) T q loc w) := by
  rcases hT with rfl | rfl | rfl | rfl
  · cases f1 <;> cases f2
    · exact g95_00 p q loc fl w h1 h2
    · exact g95_01 p q loc fl w h1 h2
    all_goals exact g95_1w p q loc fl w h1
  · cases f1 <;> cases f2
    · exact g99_00 p q loc fl op w (hc rfl) hq h1 h2
    · exact g99_01 p q loc fl op w (hc rfl) hq h1 h2
    all_goals
      cases ho : (op != 36)
      · have : ∀ x, wrapB true x 99 op = false := by simp [wrapB, ho]
        rw [this]
        exact g99_1k p q loc fl op w ho (hc rfl) hq h1
      · have : ∀ x, wrapB true x 99 op = true := by simp [wrapB, ho]
        rw [this]
        exact g99_1w p q loc fl op w ho (hc rfl) hq h1
  · cases f1 <;> cases f2
    · exact g103_00 p q loc fl w h1 h2
    · exact g103_01 p q loc fl w h1 h2
    all_goals exact g103_1w p q loc fl w h1
  · cases f1 <;> cases f2
    · exact g105_00 p q loc fl w h1 h2
    · exact g105_01 p q loc fl w h1 h2
    all_goals exact g105_1w p q loc fl w h1

theorem guard8 (T p q : Nat) (loc fl op : Int) (f1 f2 : Bool) (w : World) (hT : Ty T) (hc : T = 99 → w.cell? ⟨q, 4, none⟩ = some (.int .u8 op)) (hq : q < w.heap.size) (h1 : (bits .and .u16 fl 128 != 0) = f1) (h2 : (bits .and .u16 fl 256 != 0) = f2) :
    Calls Tryd.prog 8 #[.pointer (some ⟨p, 0, none⟩), .agg #[.iface T (.pointer (some ⟨q, 0, none⟩)), .int .i32 loc], .int .u16 fl] w (Gd (wrapB f1 f2 T op) T q loc w) := by
  have HC := Lib.hid hc
  have H1 := Lib.hid h1
  have H2 := Lib.hid h2
  have HT := Lib.hid hT
  clear hc h1 h2 hT
  go_enter Tryd.func8, Tryd.ntmps8
  go_wp2_with fail
  refine (guard19 T p q loc fl op f1 f2 _ HT.out ?_ ?_ H1.out H2.out).mono ?_
  · intro h
    rw [World.cell?_alloc_lt _ _ _ (by simp; omega), World.cell?_alloc_lt _ _ _ hq]
    exact HC.out h
  · simp; omega
  rintro e w' ⟨hd, hb⟩
  have hbel : Below w.heap.size w w' := by
    refine Below.trans ?_ (hb.mono (by simp; omega))
    exact ((Below.refl _ _).alloc (Nat.le_refl _) _).alloc (by simp) _
  have hrow := (Row.newArr (w.alloc (Obj.cells #[.iface T (.pointer (some ⟨q, 0, none⟩)), .int .i32 loc] 30)) 30 #[.nilIface, .int .i32 0]).below hb (by simp)
  have c0 := hrow.at_ (i := 0) rfl
  have c1 := hrow.at_ (i := 1) rfl
  have z0 := hrow.frozen 0
  have z1 := hrow.frozen 1
  have hsz := hb.size
  simp at hsz c0 c1 z0 z1
  have HBE := Lib.hid hbel
  have HSZ := Lib.hid hsz
  clear hb hbel hrow hsz
  rcases hd with ⟨hw, rfl⟩ | ⟨hw, q', rfl, hq', hl'⟩
  · have HW := Lib.hid hw
    clear hw
    unfold ev
    go_wp2_with fail
    refine bodyPost_ret (v := ev T q loc) (by simp [results, Tryd.results8, go_sem, ev, c0, c1]) rfl ⟨.inl ⟨HW.out, rfl⟩, ?_⟩
    exact (HBE.out.setCell (by simp) _).setCell (by simp) _
  · have HW := Lib.hid hw
    clear hw
    have HQ := Lib.hid hq'
    unfold ev
    go_wp2_with fail
    refine bodyPost_ret (v := ev 99 q' loc) (by simp [results, Tryd.results8, go_sem, ev, c0, c1]) rfl ⟨.inr ⟨HW.out, q', rfl, ?_, by simpa using hl'⟩, ?_⟩
    · rw [World.cell?_setCell_other (h := by simp), World.cell?_setCell_other (h := by simp)]
      exact HQ.out
    · exact (HBE.out.setCell (by simp) _).setCell (by simp) _
set_option maxRecDepth 100000 in
theorem same9_95 (q : Nat) (loc : Int) (w : World) : Calls Tryd.prog 9 #[.agg #[.iface 95 (.pointer (some ⟨q, 0, none⟩)), .int .i32 loc], .agg #[.iface 95 (.pointer (some ⟨q, 0, none⟩)), .int .i32 loc]] w fun e w' => e = .returned (.bool true) ∧ Below w.heap.size w w' := by
  have hpe := fun W => peq (P := Tryd.prog) 95 112 0 q W Tryd.underlying95 (by kernel_rfl)
  go_enter Tryd.func9, Tryd.ntmps9
  have HB := Lib.hid (show Below w.heap.size w ((w.alloc (Obj.cells #[.iface 95 (.pointer (some ⟨q, 0, none⟩)), .int .i32 loc] 30)).alloc (Obj.cells #[.iface 95 (.pointer (some ⟨q, 0, none⟩)), .int .i32 loc] 30)) from ((Below.refl _ _).alloc (Nat.le_refl _) _).alloc (by simp) _)
  have HR0 := Lib.hid ((Row.newArr w 30 #[.iface 95 (.pointer (some ⟨q, 0, none⟩)), .int .i32 loc]).alloc (Obj.cells #[.iface 95 (.pointer (some ⟨q, 0, none⟩)), .int .i32 loc] 30))
  have HR1 := Lib.hid (Row.newArr (w.alloc (Obj.cells #[.iface 95 (.pointer (some ⟨q, 0, none⟩)), .int .i32 loc] 30)) 30 #[.iface 95 (.pointer (some ⟨q, 0, none⟩)), .int .i32 loc])
  go_wp2_with fail
  refine (as20_95 q loc _).mono ?_
  rintro e w0 ⟨rfl, hb⟩
  replace HR0 := Lib.hid (HR0.out.below hb HR0.out.lt)
  replace HR1 := Lib.hid (HR1.out.below hb HR1.out.lt)
  replace HB := Lib.hid (HB.out.trans (hb.mono HB.out.size))
  have a0 := HR0.out.at_ (i := 0) rfl
  have a1 := HR0.out.at_ (i := 1) rfl
  have b0 := HR1.out.at_ (i := 0) rfl
  have b1 := HR1.out.at_ (i := 1) rfl
  simp at b0 b1
  clear hb
  go_wp2_with fail
  clear a0 a1 b0 b1
  refine (as20_95 q loc _).mono ?_
  rintro e w1 ⟨rfl, hb⟩
  replace HR0 := Lib.hid (HR0.out.below hb HR0.out.lt)
  replace HR1 := Lib.hid (HR1.out.below hb HR1.out.lt)
  replace HB := Lib.hid (HB.out.trans (hb.mono HB.out.size))
  clear hb
  go_wp2_with fail
  go_ret
  exact ⟨rfl, HB.out⟩
set_option maxRecDepth 100000 in
theorem same9_99 (q : Nat) (loc : Int) (w : World) : Calls Tryd.prog 9 #[.agg #[.iface 99 (.pointer (some ⟨q, 0, none⟩)), .int .i32 loc], .agg #[.iface 99 (.pointer (some ⟨q, 0, none⟩)), .int .i32 loc]] w fun e w' => e = .returned (.bool true) ∧ Below w.heap.size w w' := by
  have hpe := fun W => peq (P := Tryd.prog) 99 119 5 q W Tryd.underlying99 (by kernel_rfl)
  go_enter Tryd.func9, Tryd.ntmps9
  have HB := Lib.hid (show Below w.heap.size w ((w.alloc (Obj.cells #[.iface 99 (.pointer (some ⟨q, 0, none⟩)), .int .i32 loc] 30)).alloc (Obj.cells #[.iface 99 (.pointer (some ⟨q, 0, none⟩)), .int .i32 loc] 30)) from ((Below.refl _ _).alloc (Nat.le_refl _) _).alloc (by simp) _)
  have HR0 := Lib.hid ((Row.newArr w 30 #[.iface 99 (.pointer (some ⟨q, 0, none⟩)), .int .i32 loc]).alloc (Obj.cells #[.iface 99 (.pointer (some ⟨q, 0, none⟩)), .int .i32 loc] 30))
  have HR1 := Lib.hid (Row.newArr (w.alloc (Obj.cells #[.iface 99 (.pointer (some ⟨q, 0, none⟩)), .int .i32 loc] 30)) 30 #[.iface 99 (.pointer (some ⟨q, 0, none⟩)), .int .i32 loc])
  go_wp2_with fail
  refine (as20_99 q loc _).mono ?_
  rintro e w0 ⟨rfl, hb⟩
  replace HR0 := Lib.hid (HR0.out.below hb HR0.out.lt)
  replace HR1 := Lib.hid (HR1.out.below hb HR1.out.lt)
  replace HB := Lib.hid (HB.out.trans (hb.mono HB.out.size))
  have a0 := HR0.out.at_ (i := 0) rfl
  have a1 := HR0.out.at_ (i := 1) rfl
  have b0 := HR1.out.at_ (i := 0) rfl
  have b1 := HR1.out.at_ (i := 1) rfl
  simp at b0 b1
  clear hb
  go_wp2_with fail
  clear a0 a1 b0 b1
  refine (as21_99 q loc _).mono ?_
  rintro e w1 ⟨rfl, hb⟩
  replace HR0 := Lib.hid (HR0.out.below hb HR0.out.lt)
  replace HR1 := Lib.hid (HR1.out.below hb HR1.out.lt)
  replace HB := Lib.hid (HB.out.trans (hb.mono HB.out.size))
  have a0 := HR0.out.at_ (i := 0) rfl
  have a1 := HR0.out.at_ (i := 1) rfl
  have b0 := HR1.out.at_ (i := 0) rfl
  have b1 := HR1.out.at_ (i := 1) rfl
  simp at b0 b1
  clear hb
  go_wp2_with fail
  clear a0 a1 b0 b1
  refine (as22_99 q loc _).mono ?_
  rintro e w2 ⟨rfl, hb⟩
  replace HR0 := Lib.hid (HR0.out.below hb HR0.out.lt)
  replace HR1 := Lib.hid (HR1.out.below hb HR1.out.lt)
  replace HB := Lib.hid (HB.out.trans (hb.mono HB.out.size))
  have a0 := HR0.out.at_ (i := 0) rfl
  have a1 := HR0.out.at_ (i := 1) rfl
  have b0 := HR1.out.at_ (i := 0) rfl
  have b1 := HR1.out.at_ (i := 1) rfl
  simp at b0 b1
  clear hb
  go_wp2_with fail
  clear a0 a1 b0 b1
  refine (as22_99 q loc _).mono ?_
  rintro e w3 ⟨rfl, hb⟩
  replace HR0 := Lib.hid (HR0.out.below hb HR0.out.lt)
  replace HR1 := Lib.hid (HR1.out.below hb HR1.out.lt)
  replace HB := Lib.hid (HB.out.trans (hb.mono HB.out.size))
  clear hb
  go_wp2_with fail
  go_ret
  exact ⟨rfl, HB.out⟩
set_option maxRecDepth 100000 in
theorem same9_103 (q : Nat) (loc : Int) (w : World) : Calls Tryd.prog 9 #[.agg #[.iface 103 (.pointer (some ⟨q, 0, none⟩)), .int .i32 loc], .agg #[.iface 103 (.pointer (some ⟨q, 0, none⟩)), .int .i32 loc]] w fun e w' => e = .returned (.bool true) ∧ Below w.heap.size w w' := by
  have hpe := fun W => peq (P := Tryd.prog) 103 115 7 q W Tryd.underlying103 (by kernel_rfl)
  go_enter Tryd.func9, Tryd.ntmps9
  have HB := Lib.hid (show Below w.heap.size w ((w.alloc (Obj.cells #[.iface 103 (.pointer (some ⟨q, 0, none⟩)), .int .i32 loc] 30)).alloc (Obj.cells #[.iface 103 (.pointer (some ⟨q, 0, none⟩)), .int .i32 loc] 30)) from ((Below.refl _ _).alloc (Nat.le_refl _) _).alloc (by simp) _)
  have HR0 := Lib.hid ((Row.newArr w 30 #[.iface 103 (.pointer (some ⟨q, 0, none⟩)), .int .i32 loc]).alloc (Obj.cells #[.iface 103 (.pointer (some ⟨q, 0, none⟩)), .int .i32 loc] 30))
  have HR1 := Lib.hid (Row.newArr (w.alloc (Obj.cells #[.iface 103 (.pointer (some ⟨q, 0, none⟩)), .int .i32 loc] 30)) 30 #[.iface 103 (.pointer (some ⟨q, 0, none⟩)), .int .i32 loc])
  go_wp2_with fail
  refine (as20_103 q loc _).mono ?_
  rintro e w0 ⟨rfl, hb⟩
  replace HR0 := Lib.hid (HR0.out.below hb HR0.out.lt)
  replace HR1 := Lib.hid (HR1.out.below hb HR1.out.lt)
  replace HB := Lib.hid (HB.out.trans (hb.mono HB.out.size))
  have a0 := HR0.out.at_ (i := 0) rfl
  have a1 := HR0.out.at_ (i := 1) rfl
  have b0 := HR1.out.at_ (i := 0) rfl
  have b1 := HR1.out.at_ (i := 1) rfl
  simp at b0 b1
  clear hb
  go_wp2_with fail
  clear a0 a1 b0 b1
  refine (as21_103 q loc _).mono ?_
  rintro e w1 ⟨rfl, hb⟩
  replace HR0 := Lib.hid (HR0.out.below hb HR0.out.lt)
  replace HR1 := Lib.hid (HR1.out.below hb HR1.out.lt)
  replace HB := Lib.hid (HB.out.trans (hb.mono HB.out.size))
  have a0 := HR0.out.at_ (i := 0) rfl
  have a1 := HR0.out.at_ (i := 1) rfl
  have b0 := HR1.out.at_ (i := 0) rfl
  have b1 := HR1.out.at_ (i := 1) rfl
  simp at b0 b1
  clear hb
  go_wp2_with fail
  clear a0 a1 b0 b1
  refine (as22_103 q loc _).mono ?_
  rintro e w2 ⟨rfl, hb⟩
  replace HR0 := Lib.hid (HR0.out.below hb HR0.out.lt)
  replace HR1 := Lib.hid (HR1.out.below hb HR1.out.lt)
  replace HB := Lib.hid (HB.out.trans (hb.mono HB.out.size))
  have a0 := HR0.out.at_ (i := 0) rfl
  have a1 := HR0.out.at_ (i := 1) rfl
  have b0 := HR1.out.at_ (i := 0) rfl
  have b1 := HR1.out.at_ (i := 1) rfl
  simp at b0 b1
  clear hb
  go_wp2_with fail
  clear a0 a1 b0 b1
  refine (as23_103 q loc _).mono ?_
  rintro e w3 ⟨rfl, hb⟩
  replace HR0 := Lib.hid (HR0.out.below hb HR0.out.lt)
  replace HR1 := Lib.hid (HR1.out.below hb HR1.out.lt)
  replace HB := Lib.hid (HB.out.trans (hb.mono HB.out.size))
  have a0 := HR0.out.at_ (i := 0) rfl
  have a1 := HR0.out.at_ (i := 1) rfl
  have b0 := HR1.out.at_ (i := 0) rfl
  have b1 := HR1.out.at_ (i := 1) rfl
  simp at b0 b1
  clear hb
  go_wp2_with fail
  clear a0 a1 b0 b1
  refine (as24_103 q loc _).mono ?_
  rintro e w4 ⟨rfl, hb⟩
  replace HR0 := Lib.hid (HR0.out.below hb HR0.out.lt)
  replace HR1 := Lib.hid (HR1.out.below hb HR1.out.lt)
  replace HB := Lib.hid (HB.out.trans (hb.mono HB.out.size))
  have a0 := HR0.out.at_ (i := 0) rfl
  have a1 := HR0.out.at_ (i := 1) rfl
  have b0 := HR1.out.at_ (i := 0) rfl
  have b1 := HR1.out.at_ (i := 1) rfl
  simp at b0 b1
  clear hb
  go_wp2_with fail
  clear a0 a1 b0 b1
  refine (as24_103 q loc _).mono ?_
  rintro e w5 ⟨rfl, hb⟩
  replace HR0 := Lib.hid (HR0.out.below hb HR0.out.lt)
  replace HR1 := Lib.hid (HR1.out.below hb HR1.out.lt)
  replace HB := Lib.hid (HB.out.trans (hb.mono HB.out.size))
  clear hb
  go_wp2_with fail
  go_ret
  exact ⟨rfl, HB.out⟩
set_option maxRecDepth 100000 in
theorem same9_105 (q : Nat) (loc : Int) (w : World) : Calls Tryd.prog 9 #[.agg #[.iface 105 (.pointer (some ⟨q, 0, none⟩)), .int .i32 loc], .agg #[.iface 105 (.pointer (some ⟨q, 0, none⟩)), .int .i32 loc]] w fun e w' => e = .returned (.bool true) ∧ Below w.heap.size w w' := by
  have hpe := fun W => peq (P := Tryd.prog) 105 117 8 q W Tryd.underlying105 (by kernel_rfl)
  go_enter Tryd.func9, Tryd.ntmps9
  have HB := Lib.hid (show Below w.heap.size w ((w.alloc (Obj.cells #[.iface 105 (.pointer (some ⟨q, 0, none⟩)), .int .i32 loc] 30)).alloc (Obj.cells #[.iface 105 (.pointer (some ⟨q, 0, none⟩)), .int .i32 loc] 30)) from ((Below.refl _ _).alloc (Nat.le_refl _) _).alloc (by simp) _)
  have HR0 := Lib.hid ((Row.newArr w 30 #[.iface 105 (.pointer (some ⟨q, 0, none⟩)), .int .i32 loc]).alloc (Obj.cells #[.iface 105 (.pointer (some ⟨q, 0, none⟩)), .int .i32 loc] 30))
  have HR1 := Lib.hid (Row.newArr (w.alloc (Obj.cells #[.iface 105 (.pointer (some ⟨q, 0, none⟩)), .int .i32 loc] 30)) 30 #[.iface 105 (.pointer (some ⟨q, 0, none⟩)), .int .i32 loc])
  go_wp2_with fail
  refine (as20_105 q loc _).mono ?_
  rintro e w0 ⟨rfl, hb⟩
  replace HR0 := Lib.hid (HR0.out.below hb HR0.out.lt)
  replace HR1 := Lib.hid (HR1.out.below hb HR1.out.lt)
  replace HB := Lib.hid (HB.out.trans (hb.mono HB.out.size))
  have a0 := HR0.out.at_ (i := 0) rfl
  have a1 := HR0.out.at_ (i := 1) rfl
  have b0 := HR1.out.at_ (i := 0) rfl
  have b1 := HR1.out.at_ (i := 1) rfl
  simp at b0 b1
  clear hb
  go_wp2_with fail
  clear a0 a1 b0 b1
  refine (as21_105 q loc _).mono ?_
  rintro e w1 ⟨rfl, hb⟩
  replace HR0 := Lib.hid (HR0.out.below hb HR0.out.lt)
  replace HR1 := Lib.hid (HR1.out.below hb HR1.out.lt)
  replace HB := Lib.hid (HB.out.trans (hb.mono HB.out.size))
  have a0 := HR0.out.at_ (i := 0) rfl
  have a1 := HR0.out.at_ (i := 1) rfl
  have b0 := HR1.out.at_ (i := 0) rfl
  have b1 := HR1.out.at_ (i := 1) rfl
  simp at b0 b1
  clear hb
  go_wp2_with fail
  clear a0 a1 b0 b1
  refine (as22_105 q loc _).mono ?_
  rintro e w2 ⟨rfl, hb⟩
  replace HR0 := Lib.hid (HR0.out.below hb HR0.out.lt)
  replace HR1 := Lib.hid (HR1.out.below hb HR1.out.lt)
  replace HB := Lib.hid (HB.out.trans (hb.mono HB.out.size))
  have a0 := HR0.out.at_ (i := 0) rfl
  have a1 := HR0.out.at_ (i := 1) rfl
  have b0 := HR1.out.at_ (i := 0) rfl
  have b1 := HR1.out.at_ (i := 1) rfl
  simp at b0 b1
  clear hb
  go_wp2_with fail
  clear a0 a1 b0 b1
  refine (as23_105 q loc _).mono ?_
  rintro e w3 ⟨rfl, hb⟩
  replace HR0 := Lib.hid (HR0.out.below hb HR0.out.lt)
  replace HR1 := Lib.hid (HR1.out.below hb HR1.out.lt)
  replace HB := Lib.hid (HB.out.trans (hb.mono HB.out.size))
  have a0 := HR0.out.at_ (i := 0) rfl
  have a1 := HR0.out.at_ (i := 1) rfl
  have b0 := HR1.out.at_ (i := 0) rfl
  have b1 := HR1.out.at_ (i := 1) rfl
  simp at b0 b1
  clear hb
  go_wp2_with fail
  clear a0 a1 b0 b1
  refine (as24_105 q loc _).mono ?_
  rintro e w4 ⟨rfl, hb⟩
  replace HR0 := Lib.hid (HR0.out.below hb HR0.out.lt)
  replace HR1 := Lib.hid (HR1.out.below hb HR1.out.lt)
  replace HB := Lib.hid (HB.out.trans (hb.mono HB.out.size))
  have a0 := HR0.out.at_ (i := 0) rfl
  have a1 := HR0.out.at_ (i := 1) rfl
  have b0 := HR1.out.at_ (i := 0) rfl
  have b1 := HR1.out.at_ (i := 1) rfl
  simp at b0 b1
  clear hb
  go_wp2_with fail
  clear a0 a1 b0 b1
  refine (as25_105 q loc _).mono ?_
  rintro e w5 ⟨rfl, hb⟩
  replace HR0 := Lib.hid (HR0.out.below hb HR0.out.lt)
  replace HR1 := Lib.hid (HR1.out.below hb HR1.out.lt)
  replace HB := Lib.hid (HB.out.trans (hb.mono HB.out.size))
  have a0 := HR0.out.at_ (i := 0) rfl
  have a1 := HR0.out.at_ (i := 1) rfl
  have b0 := HR1.out.at_ (i := 0) rfl
  have b1 := HR1.out.at_ (i := 1) rfl
  simp at b0 b1
  clear hb
  go_wp2_with fail
  clear a0 a1 b0 b1
  refine (as25_105 q loc _).mono ?_
  rintro e w6 ⟨rfl, hb⟩
  replace HR0 := Lib.hid (HR0.out.below hb HR0.out.lt)
  replace HR1 := Lib.hid (HR1.out.below hb HR1.out.lt)
  replace HB := Lib.hid (HB.out.trans (hb.mono HB.out.size))
  clear hb
  go_wp2_with fail
  go_ret
  exact ⟨rfl, HB.out⟩

theorem same9 (T q : Nat) (loc : Int) (w : World) (hT : Ty T) : Calls Tryd.prog 9 #[.agg #[.iface T (.pointer (some ⟨q, 0, none⟩)), .int .i32 loc], .agg #[.iface T (.pointer (some ⟨q, 0, none⟩)), .int .i32 loc]] w fun e w' => e = .returned (.bool true) ∧ Below w.heap.size w w' := by
  rcases hT with rfl | rfl | rfl | rfl
  · exact same9_95 q loc w
  · exact same9_99 q loc w
  · exact same9_103 q loc w
  · exact same9_105 q loc w
/-- What the input is. -/
def In (loc : Int) (w : World) (e : Ending) (w' : World) : Prop := ∃ T op, Ty T ∧ Ex T op loc w e w'
set_option maxHeartbeats 1000000 in
set_option maxRecDepth 100000 in
theorem in7 (a0 loc : Int) (w : World) (h0 : 0 ≤ a0) (h1 : a0 ≤ 255) : Calls Tryd.prog 7 #[.int .u8 a0, .int .i32 loc] w (In loc w) := by
  have er : a0 % 5 = 0 ∨ a0 % 5 = 1 ∨ a0 % 5 = 2 ∨ a0 % 5 = 3 ∨ a0 % 5 = 4 := by omega
  go_enter Tryd.func7, Tryd.ntmps7
  have HR4 := Lib.hid (Row.newArr w 30 #[.nilIface, .int .i32 0])
  have HB := Lib.hid (show Below w.heap.size w (w.alloc (Obj.cells #[.nilIface, .int .i32 0] 30)) from (Below.refl _ _).alloc (Nat.le_refl _) _)
  go_wp2_with fail
  refine (num15 loc _ _).mono ?_
  rintro e u0 ⟨q0, rfl, _, hq0, hb⟩
  replace HR4 := Lib.hid (HR4.out.below hb HR4.out.lt)
  replace HB := Lib.hid (HB.out.trans (hb.mono HB.out.size))
  clear hb
  unfold ev
  go_wp2_with fail
  have HR5 := Lib.hid (Row.newArr u0 30 #[.iface 95 (.pointer (some ⟨q0, 0, none⟩)), .int .i32 loc])
  replace HR4 := Lib.hid (HR4.out.alloc (Obj.cells #[.iface 95 (.pointer (some ⟨q0, 0, none⟩)), .int .i32 loc] 30))
  replace HB := Lib.hid (HB.out.alloc HB.out.size (Obj.cells #[.iface 95 (.pointer (some ⟨q0, 0, none⟩)), .int .i32 loc] 30))
  refine (num15 loc _ _).mono ?_
  rintro e u1 ⟨q1, rfl, _, hq1, hb⟩
  have HS01 := Lib.hid (show q0 < u1.heap.size by have := hb.size; simp at this; omega)
  replace HR4 := Lib.hid (HR4.out.below hb HR4.out.lt)
  replace HR5 := Lib.hid (HR5.out.below hb HR5.out.lt)
  replace HB := Lib.hid (HB.out.trans (hb.mono HB.out.size))
  clear hb
  replace HR4 := Lib.hid (HR4.out.alloc (Obj.cells #[.iface 95 (.pointer (some ⟨q1, 0, none⟩)), .int .i32 loc] 30))
  replace HR5 := Lib.hid (HR5.out.alloc (Obj.cells #[.iface 95 (.pointer (some ⟨q1, 0, none⟩)), .int .i32 loc] 30))
  replace HB := Lib.hid (HB.out.alloc HB.out.size (Obj.cells #[.iface 95 (.pointer (some ⟨q1, 0, none⟩)), .int .i32 loc] 30))
  have HR6 := Lib.hid (Row.newArr u1 30 #[.iface 95 (.pointer (some ⟨q1, 0, none⟩)), .int .i32 loc])
  have HQ0 := Lib.hid (show q0 < (u1.alloc (Obj.cells #[.iface 95 (.pointer (some ⟨q1, 0, none⟩)), .int .i32 loc] 30)).heap.size by have := HS01.out; simp at *; omega)
  unfold ev
  have a0' := HR4.out.at_ (i := 0) rfl
  have a1' := HR4.out.at_ (i := 1) rfl
  have f0' := HR4.out.frozen 0
  have f1' := HR4.out.frozen 1
  have b0' := HR5.out.at_ (i := 0) rfl
  have b1' := HR5.out.at_ (i := 1) rfl
  have c0' := HR6.out.at_ (i := 0) rfl
  have c1' := HR6.out.at_ (i := 1) rfl
  rcases er with hr | hr | hr | hr | hr
  · have t0 : (a0 % 5 == 0) = true := by simp [hr]
    clear hr
    go_wp2_with fail
    refine bodyPost_ret (v := ev 95 q0 loc) (by simp [results, Tryd.results7, go_sem, ev, a0', a1']) rfl ⟨95, 0, .inl rfl, _, rfl, (fun h => by cases h), by simpa using HQ0.out, ?_⟩
    exact (HB.out.setCell (by simp) _).setCell (by simp) _
  · skip
    have t0 : (a0 % 5 == 0) = false := by simp [hr]
    have t1 : (a0 % 5 == 1) = true := by simp [hr]
    clear hr
    go_wp2_with fail
    refine (dot16 95 q0 loc loc _ _).mono ?_
    rintro e u2 ⟨q2, rfl, hop, hq2, hb⟩
    have HOP := Lib.hid hop
    replace HR4 := Lib.hid (HR4.out.below hb HR4.out.lt)
    replace HB := Lib.hid (HB.out.trans (hb.mono HB.out.size))
    have d0' := HR4.out.at_ (i := 0) rfl
    have d1' := HR4.out.at_ (i := 1) rfl
    have e0' := HR4.out.frozen 0
    have e1' := HR4.out.frozen 1
    clear hb hop a0' a1' b0' b1' c0' c1' f0' f1'
    unfold ev
    go_wp2_with fail
    refine bodyPost_ret (v := ev 103 q2 loc) (by simp [results, Tryd.results7, go_sem, ev, d0', d1']) rfl ⟨103, 0, .inr (.inr (.inl rfl)), _, rfl, (fun h => by cases h), by simpa using hq2, ?_⟩
    exact (HB.out.setCell (by simp) _).setCell (by simp) _
  · skip
    have t0 : (a0 % 5 == 0) = false := by simp [hr]
    have t1 : (a0 % 5 == 1) = false := by simp [hr]
    have t2 : (a0 % 5 == 2) = true := by simp [hr]
    clear hr
    go_wp2_with fail
    refine (index17 95 q0 95 q1 loc loc loc _).mono ?_
    rintro e u2 ⟨q2, rfl, hop, hq2, hb⟩
    have HOP := Lib.hid hop
    replace HR4 := Lib.hid (HR4.out.below hb HR4.out.lt)
    replace HB := Lib.hid (HB.out.trans (hb.mono HB.out.size))
    have d0' := HR4.out.at_ (i := 0) rfl
    have d1' := HR4.out.at_ (i := 1) rfl
    have e0' := HR4.out.frozen 0
    have e1' := HR4.out.frozen 1
    clear hb hop a0' a1' b0' b1' c0' c1' f0' f1'
    unfold ev
    go_wp2_with fail
    refine bodyPost_ret (v := ev 105 q2 loc) (by simp [results, Tryd.results7, go_sem, ev, d0', d1']) rfl ⟨105, 0, .inr (.inr (.inr rfl)), _, rfl, (fun h => by cases h), by simpa using hq2, ?_⟩
    exact (HB.out.setCell (by simp) _).setCell (by simp) _
  · skip
    have t0 : (a0 % 5 == 0) = false := by simp [hr]
    have t1 : (a0 % 5 == 1) = false := by simp [hr]
    have t2 : (a0 % 5 == 2) = false := by simp [hr]
    have t3 : (a0 % 5 == 3) = true := by simp [hr]
    clear hr
    go_wp2_with fail
    refine (bin18 95 q0 95 q1 loc loc loc 36 _).mono ?_
    rintro e u2 ⟨q2, rfl, hop, hq2, hb⟩
    have HOP := Lib.hid hop
    replace HR4 := Lib.hid (HR4.out.below hb HR4.out.lt)
    replace HB := Lib.hid (HB.out.trans (hb.mono HB.out.size))
    have d0' := HR4.out.at_ (i := 0) rfl
    have d1' := HR4.out.at_ (i := 1) rfl
    have e0' := HR4.out.frozen 0
    have e1' := HR4.out.frozen 1
    clear hb hop a0' a1' b0' b1' c0' c1' f0' f1'
    unfold ev
    go_wp2_with fail
    refine bodyPost_ret (v := ev 99 q2 loc) (by simp [results, Tryd.results7, go_sem, ev, d0', d1']) rfl ⟨99, 36, .inr (.inl rfl), _, rfl, (fun _ => by rw [World.cell?_setCell_other (h := by simp), World.cell?_setCell_other (h := by simp)]; exact HOP.out trivial), by simpa using hq2, ?_⟩
    exact (HB.out.setCell (by simp) _).setCell (by simp) _
  · skip
    have t0 : (a0 % 5 == 0) = false := by simp [hr]
    have t1 : (a0 % 5 == 1) = false := by simp [hr]
    have t2 : (a0 % 5 == 2) = false := by simp [hr]
    have t3 : (a0 % 5 == 3) = false := by simp [hr]
    clear hr
    go_wp2_with fail
    refine (bin18 95 q0 95 q1 loc loc loc 11 _).mono ?_
    rintro e u2 ⟨q2, rfl, hop, hq2, hb⟩
    have HOP := Lib.hid hop
    replace HR4 := Lib.hid (HR4.out.below hb HR4.out.lt)
    replace HB := Lib.hid (HB.out.trans (hb.mono HB.out.size))
    have d0' := HR4.out.at_ (i := 0) rfl
    have d1' := HR4.out.at_ (i := 1) rfl
    have e0' := HR4.out.frozen 0
    have e1' := HR4.out.frozen 1
    clear hb hop a0' a1' b0' b1' c0' c1' f0' f1'
    unfold ev
    go_wp2_with fail
    refine bodyPost_ret (v := ev 99 q2 loc) (by simp [results, Tryd.results7, go_sem, ev, d0', d1']) rfl ⟨99, 11, .inr (.inl rfl), _, rfl, (fun _ => by rw [World.cell?_setCell_other (h := by simp), World.cell?_setCell_other (h := by simp)]; exact HOP.out trivial), by simpa using hq2, ?_⟩
    exact (HB.out.setCell (by simp) _).setCell (by simp) _

set_option maxHeartbeats 1000000 in
set_option maxRecDepth 100000 in
theorem law (a0 : Int) (a1 : Int) (a2 : Int) (w : World) (w0 : (Lit.int .u8 a0).wf = true) (w1 : (Lit.int .u16 a1).wf = true) (w2 : (Lit.int .i32 a2).wf = true) (_hL : True) :
    Calls Tryd.prog 3 #[.int .u8 a0, .int .u16 a1, .int .i32 a2] w fun e w' => e = .returned (.bool true) ∧ Below w.heap.size w w' := by
  obtain ⟨h0, h1⟩ := bounds_u8 w0
  obtain ⟨f1, hf1⟩ : ∃ f, (bits .and .u16 a1 128 != 0) = f := ⟨_, rfl⟩
  obtain ⟨f2, hf2⟩ : ∃ f, (bits .and .u16 a1 256 != 0) = f := ⟨_, rfl⟩
  have F1 := Lib.hid hf1
  have F2 := Lib.hid hf2
  clear w0 w1 w2 hf1 hf2
  go_enter Tryd.func3, Tryd.ntmps3
  go_wp2_with fail
  refine (new6 w).mono ?_
  rintro e u0 ⟨⟨p, rfl⟩, hb⟩
  have HB := Lib.hid hb
  clear hb
  go_wp2_with fail
  refine (in7 a0 a2 u0 h0 h1).mono ?_
  rintro e u1 ⟨T, op, hT, q, rfl, hop, hq, hb⟩
  have HT := Lib.hid hT
  have HOP := Lib.hid hop
  replace HB := Lib.hid (HB.out.trans (hb.mono HB.out.size))
  clear hb hop hT h0 h1
  unfold ev
  go_wp2_with fail
  have HB1 := Lib.hid (HB.out.alloc HB.out.size (Obj.cells #[.iface T (.pointer (some ⟨q, 0, none⟩)), .int .i32 a2] 30))
  refine (guard8 T p q a2 a1 op f1 f2 _ HT.out ?_ ?_ F1.out F2.out).mono ?_
  · intro h
    rw [World.cell?_alloc_lt _ _ _ hq]
    exact HOP.out h
  · simp; omega
  rintro e u2 ⟨hd, hb⟩
  have hb' := hb.mono (show w.heap.size ≤ (u1.alloc (Obj.cells #[.iface T (.pointer (some ⟨q, 0, none⟩)), .int .i32 a2] 30)).heap.size from HB1.out.size)
  have HB2 := Lib.hid (HB1.out.trans hb')
  obtain ⟨T', q', op', rfl, hT', hop', hq', hwr⟩ : ∃ T' q' op', e = .returned (ev T' q' a2) ∧ Ty T' ∧ (T' = 99 → u2.cell? ⟨q', 4, none⟩ = some (.int .u8 op')) ∧ q' < u2.heap.size ∧ wrapB f1 f2 T' op' = false := by
    rcases hd with ⟨hw, rfl⟩ | ⟨hw, q', rfl, hc, hl⟩
    · refine ⟨T, q, op, rfl, HT.out, fun h => ?_, ?_, hw⟩
      · rw [hb.cell (p := ⟨q, 4, none⟩) (by simp; omega), World.cell?_alloc_lt _ _ _ hq]
        exact HOP.out h
      · have := hb.size; simp at this; omega
    · exact ⟨99, q', 36, rfl, .inr (.inl rfl), fun _ => hc, hl, by cases f1 <;> cases f2 <;> rfl⟩
  have HT' := Lib.hid hT'
  have HOP' := Lib.hid hop'
  have HW := Lib.hid hwr
  clear hd hb hb' hT' hop' hwr HB1
  unfold ev
  go_wp2_with fail
  have HR9 := Lib.hid (Row.newArr u2 30 #[.iface T' (.pointer (some ⟨q', 0, none⟩)), .int .i32 a2])
  have HB3 := Lib.hid (HB2.out.alloc HB2.out.size (Obj.cells #[.iface T' (.pointer (some ⟨q', 0, none⟩)), .int .i32 a2] 30))
  refine (guard8 T' p q' a2 a1 op' f1 f2 _ HT'.out ?_ ?_ F1.out F2.out).mono ?_
  · intro h
    rw [World.cell?_alloc_lt _ _ _ hq']
    exact HOP'.out h
  · simp; omega
  rintro e u3 ⟨hd, hb⟩
  rw [HW.out] at hd
  have HB4 := Lib.hid (HB3.out.trans (hb.mono HB3.out.size))
  replace HR9 := Lib.hid (HR9.out.below hb HR9.out.lt)
  obtain rfl : e = .returned (ev T' q' a2) := by
    rcases hd with ⟨_, h⟩ | ⟨h, _⟩
    · exact h
    · cases h
  have HR10 := Lib.hid (Row.newArr u3 30 #[.iface T' (.pointer (some ⟨q', 0, none⟩)), .int .i32 a2])
  replace HR9 := Lib.hid (HR9.out.alloc (Obj.cells #[.iface T' (.pointer (some ⟨q', 0, none⟩)), .int .i32 a2] 30))
  have HB5 := Lib.hid (HB4.out.alloc HB4.out.size (Obj.cells #[.iface T' (.pointer (some ⟨q', 0, none⟩)), .int .i32 a2] 30))
  have a0' := HR9.out.at_ (i := 0) rfl
  have a1' := HR9.out.at_ (i := 1) rfl
  clear hd hb
  unfold ev
  go_wp2_with fail
  refine (same9 T' q' a2 _ HT'.out).mono ?_
  rintro e u4 ⟨rfl, hb⟩
  replace HR9 := Lib.hid (HR9.out.below hb HR9.out.lt)
  replace HR10 := Lib.hid (HR10.out.below hb HR10.out.lt)
  have b1' := HR9.out.at_ (i := 1) rfl
  have c1' := HR10.out.at_ (i := 1) rfl
  have HB6 := Lib.hid (HB5.out.trans (hb.mono HB5.out.size))
  clear hb a0' a1'
  go_wp2_with fail
  go_ret
  exact ⟨rfl, HB6.out⟩
end Go.Proofs.YtjgomgagaolhgacRRDoor.GuL
