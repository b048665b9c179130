/- FnPrintQuotedPicksShorterQuote: the printers. -/
import Derived.Test.YtmgkjkfhhdkkmaaFmtRows
import Derived.Test.YtmgkjkfhhdkkmaaFmtMem
import Derived.Test.YtmgkjkfhhdkkmaaFmtSl
import Derived.Test.YtmgkjkfhhdkkmaaFmtPqB
import Derived.Test.YtmgkjkfhhdkkmaaFmtPqC
import Derived.Great.BuildSlice
import Derived.WalkKit
import Derived.ProofKit
import Derived.OpenShut
import Derived.Below
import Derived.WalkLawsBesides
import Derived.Lib.Hide
import Derived.Outline
import Derived.RegionTactic
import Derived.Deep.QuietTactic
import Derived.BigQuiet
import Derived.WalkSpells
import Derived.Deep.OwnRows
import Derived.IntWalk
import Derived.Deep.DeepMust
namespace Go.Proofs.YtmgkjkfhhdkkmaaFmt.PqD
open Go.RowKit Mem Sl
set_option linter.unusedVariables false
open Prn Pru Str Line Qt Own PqA PqB

noncomputable def zcs : Array Value := match (Tryf.prog.info? 57).bind (fun i => i.zero) with | some (.agg cs) => cs | _ => #[]
theorem zero57 (w : World) : (zeroValue 57).run Tryf.prog w = .ok (.agg zcs) w := by kernel_rfl
noncomputable def zo : Array Value := match (Tryf.prog.info? 39).bind (fun i => i.zero) with | some (.agg cs) => cs | _ => #[]
noncomputable def opt (l : Int) : Array Value := zo.setIfInBounds 3 (.int .i64 l)
noncomputable def css (v : Value) (l : Int) : Array Value := (zcs.setIfInBounds 15 v).setIfInBounds 3 (.int .i64 l)
theorem css15 (v : Value) (l : Int) : (css v l)[15]? = some v := by kernel_rfl
theorem css3 (v : Value) (l : Int) : (css v l)[3]? = some (.int .i64 l) := by kernel_rfl
theorem css5 (v : Value) (l : Int) : (css v l)[5]? = some (.int .u16 0) := by kernel_rfl
theorem css7 (v : Value) (l : Int) : (css v l)[7]? = some (.bool false) := by kernel_rfl
theorem css41 (v : Value) (l : Int) : (css v l)[41]? = some (.int .i64 0) := by kernel_rfl
theorem css42 (v : Value) (l : Int) : (css v l)[42]? = some (.int .i64 0) := by kernel_rfl
theorem cssSize (v : Value) (l : Int) : (css v l).size = 43 := by kernel_rfl
theorem zSize : zcs.size = 43 := by kernel_rfl
theorem css1 (A : Option Addr) (n c : Nat) (l : Int) : (css (.slice A n c) l).all (·.oneCell') = true := by kernel_rfl

/-- What is handed back: the bytes Z, in a block from B0 on. -/
def Gave (w : World) (B0 : Nat) (Z : List Int) (e : Ending) (w' : World) : Prop := ∃ v', e = .returned v' ∧ Buf w' 5 v' Z ∧ Below B0 w w' ∧ ∀ g, v'.ownBlock = some g → B0 ≤ g
def Q11 (B0 : Nat) (zs : List Int) (q : Int) (s : ByteArray) (L f : Int) (w : World) : Prop := ∀ (p : Nat) (cs : List Value) (v : Value) (W : World), Below B0 w W → Pr W p 57 15 5 cs v zs → Kept cs L → cs[41]? = some (.int .i64 0) → cs[42]? = some (.int .i64 0) → (∀ g, v.ownBlock = some g → B0 ≤ g) → B0 ≤ p → B0 ≤ W.heap.size →
  Calls Tryf.prog 11 #[.pointer (some ⟨p, 0, none⟩), .string s, .int .u8 q, .int .u8 f] W (Quoted W B0 p zs q s L (bits BinOp.and IntKind.u8 f 1 == 0))
set_option maxRecDepth 100000 in
set_option maxHeartbeats 4000000 in
theorem zz8 (A : Option Addr) (n c B0 : Nat) (zs : List Int) (q : Int) (s : ByteArray) (L f : Int) (w w0 : World) (hb : Buf w 5 (.slice A n c) zs) (hlow : ∀ g, Value.ownBlock (.slice A n c) = some g → B0 ≤ g) (hB : B0 ≤ w.heap.size) (hw : Below B0 w0 w)
    (H : Q11 B0 zs q s L f w0) :
    Calls Tryf.prog 8 #[.slice A n c, .int .i64 L, .string s, .int .u8 q, .int .u8 f] w (Gave w B0 (zs ++ [q] ++ outF q (wrB L (bits BinOp.and IntKind.u8 f 1 == 0)) L s (sta (zs ++ [q]) L (bits BinOp.and IntKind.u8 f 1 == 0)) 0 ++ [q])) := by
  have hz := zero57
  have HH := Lib.hid H
  have HBF := Lib.hid hb
  clear H hb
  go_enter Tryf.func8, Tryf.ntmps8
  go_wp2_with (first | (refine wpList_buildTo rfl 39 _ rfl (some 13) rfl (opt L) (by kernel_rfl) ?_) | (refine wpList_buildTo rfl 57 _ rfl (some 15) rfl (css (.slice A n c) L) (by kernel_rfl) ?_) | (refine wpList_store_row rfl 57 _ _ rfl w.heap.size (css (.slice A n c) L) rfl rfl 57 zcs (heap_alloc_new w _) (by kernel_rfl) (by rw [cssSize, zSize]) (css1 A n c L) ?_))
  obtain ⟨W, hW, hrow, hbel, hsz⟩ := made_set w 57 zcs (css (.slice A n c) L)
  rw [hW]
  clear hW hz
  have hpr : Pr W w.heap.size 57 15 5 (css (.slice A n c) L).toList (.slice A n c) zs := ⟨hrow, by rw [Array.getElem?_toList]; exact css15 _ _, HBF.out.below hbel (Nat.le_refl _)⟩
  have HBL := Lib.hid (show Below B0 w W from hbel.mono hB)
  have H11 := Lib.hid (HH.out w.heap.size _ _ W (hw.trans (hbel.mono hB)) hpr ⟨by rw [Array.getElem?_toList]; exact css3 _ _, by rw [Array.getElem?_toList]; exact css5 _ _, by rw [Array.getElem?_toList]; exact css7 _ _⟩ (by rw [Array.getElem?_toList]; exact css41 _ _) (by rw [Array.getElem?_toList]; exact css42 _ _) hlow hB (by omega))
  clear hpr hrow hbel hsz
  go_wp2_with fail
  refine H11.out.mono ?_
  rintro e w1 ⟨rfl, cs1, v1, hp1, hb1, hl1⟩
  have c15 := hp1.row.at_ hp1.at_
  obtain ⟨A1, cc1, hv1⟩ := hp1.buf.form
  have HG := Lib.hid (show Gave w B0 _ (.returned v1) w1 from ⟨v1, rfl, hp1.buf, HBL.out.trans hb1, hl1⟩)
  clear hp1 hb1 hl1
  generalize (zs ++ [q] ++ outF q (wrB L (bits BinOp.and IntKind.u8 f 1 == 0)) L s (sta (zs ++ [q]) L (bits BinOp.and IntKind.u8 f 1 == 0)) 0 ++ [q]).length = n1 at hv1
  subst hv1
  go_wp2_with fail
  go_ret
  exact HG.out
def Q10 (B0 : Nat) (zs : List Int) (s : ByteArray) (L f : Int) (w : World) : Prop := ∀ q : Int, q = 34 ∨ q = 39 → Q11 B0 zs q s L f w
theorem bq_cases (s : ByteArray) : bq s false = 34 ∨ bq s false = 39 := by
  unfold bq
  simp
  omega
theorem quo10 (p B0 : Nat) (cs : List Value) (v : Value) (zs : List Int) (s : ByteArray) (L f : Int) (w w0 : World) (hs : s.size ≤ 1048576) (hw : Below B0 w0 w) (hpr : Pr w p 57 15 5 cs v zs) (hk : Kept cs L) (h41 : cs[41]? = some (.int .i64 0)) (h42 : cs[42]? = some (.int .i64 0)) (hlow : ∀ g, v.ownBlock = some g → B0 ≤ g) (hp : B0 ≤ p) (hB : B0 ≤ w.heap.size) (H : Q10 B0 zs s L f w0) :
    Calls Tryf.prog 10 #[.pointer (some ⟨p, 0, none⟩), .string s, .int .u8 f] w (Quoted w B0 p zs (bq s false) s L (bits BinOp.and IntKind.u8 f 1 == 0)) := by
  have H12 := Lib.hid (best s false w hs)
  have HQ := Lib.hid (bq_cases s)
  have HX := Lib.hid (fun (W : World) (hb : Below w.heap.size w W) => H (bq s false) (bq_cases s) p cs v W (hw.trans (hb.mono hB)) ⟨hpr.row.below hb hpr.row.lt, hpr.at_, hpr.buf.below hb (Nat.le_refl _)⟩ hk h41 h42 hlow hp (Nat.le_trans hB hb.size))
  clear hpr hk h41 h42 hlow H hw
  generalize bq s false = q at H12 HX HQ ⊢
  go_enter Tryf.func10, Tryf.ntmps10
  go_wp2_with fail
  refine H12.out.mono ?_
  rintro e w1 ⟨rfl, hb1⟩
  have HB1 := Lib.hid hb1
  clear hb1
  go_wp2_with fail
  refine (HX.out w1 HB1.out).mono ?_
  rintro e w2 ⟨rfl, cs1, v1, hp1, hb2, hl1⟩
  have HG := Lib.hid (show Quoted w B0 p zs q s L (bits BinOp.and IntKind.u8 f 1 == 0) (.returned (.tuple #[])) w2 from ⟨rfl, cs1, v1, hp1, (HB1.out.mono hB).trans hb2, hl1⟩)
  clear hp1 hb2 hl1
  go_wp2_with fail
  go_end0
  exact HG.out
end Go.Proofs.YtmgkjkfhhdkkmaaFmt.PqD
