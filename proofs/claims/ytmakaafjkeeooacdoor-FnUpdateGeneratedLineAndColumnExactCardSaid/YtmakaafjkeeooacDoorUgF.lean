/- FnUpdateGeneratedLineAndColumnExact: a fresh builder, the mapping, the fields. -/
import Derived.Test.YtmakaafjkeeooacDoorRows
import Derived.Test.YtmakaafjkeeooacDoorMem
import Derived.Test.YtmakaafjkeeooacDoorSl
import Derived.Test.YtmakaafjkeeooacDoorUgD
import Derived.Deep.DeepCutAuto
import Derived.Great.BuildSlice
import Derived.Laws.CopyOwn
import Derived.WalkKit
import Derived.ProofKit
import Derived.OpenShut
import Derived.Below
import Derived.WalkLawsBesides
import Derived.Lib.Hide
import Derived.Outline
import Derived.RegionTactic
import Derived.Deep.QuietTactic
import Derived.BigQuiet
import Derived.WalkSpells
import Derived.Deep.OwnRows
import Derived.IntWalk
import Derived.Deep.DeepMust
namespace Go.Proofs.YtmakaafjkeeooacDoor.UgF
open Go.RowKit Mem Sl
set_option linter.unusedVariables false
open Own Vq Dec Lin Str Prn Owg UgA UgB UgC UgD Args

def Fresh (w : World) (e : Ending) (w' : World) : Prop := ∃ j q, e = .returned (.pointer (some ⟨j, 0, none⟩)) ∧ Bd w' w.heap.size j q (.slice none 0 0) [] 0 0 0 0 0 0 0 false ∧ Below w.heap.size w w'
def z52 : Array Value := #[.pointer none, .slice none 0 0, .slice none 0 0, .map none, .slice none 0 0, .string ⟨#[]⟩, .int .i64 0, .int .i64 0, .int .i64 0, .int .i64 0, .int .i64 0, .int .i64 0, .bool false, .int .i64 0, .int .i64 0, .int .i64 0, .int .i32 0, .int .u32 0, .bool false, .bool false, .bool false, .bool false]
def cbA (q : Value) : Array Value := (cb q (.slice none 0 0) 0 0 0 0 0 0 0 false).toArray
theorem cb_one (m : Nat) : (cbA (.map (some m))).all (·.oneCell') = true := by kernel_rfl
def Made (w : World) (e : Ending) (w' : World) : Prop := ∃ m, e = .returned (.agg (cbA (.map (some m)))) ∧ Below w.heap.size w w'
theorem mk44 : ∀ W : World, (Instr.makeMap 44 none).run Tryd.prog W = .ok (.map (some W.heap.size)) (W.alloc (.map #[] 0)) := fun W => by kernel_rfl
theorem sz52 : (Tryd.prog.info? 52).map (·.size) = some 22 := by kernel_rfl
set_option maxRecDepth 100000 in
set_option maxHeartbeats 8000000 in
theorem make19 (w : World) : Calls Tryd.prog 19 #[.pointer none, .slice none 0 0, .bool false] w (Made w) := by
  have hmk := mk44
  go_enter Tryd.func19, Tryd.ntmps19
  go_wp2_with (first | (refine wpList_buildTo rfl 52 _ rfl (some 14) rfl (cbA (.map (some (w.heap.size + 1)))) (by kernel_rfl) ?_) | (refine wpList_store_row rfl 52 _ _ rfl w.heap.size (cbA (.map (some (w.heap.size + 1)))) rfl rfl 52 z52 ((Row.newArr w 52 z52).alloc _) sz52 rfl (cb_one _) ?_))
  exact bodyPost_ret (v := .agg (cbA (.map (some (w.heap.size + 1))))) (results_cell_row Tryd.results19 _ _ w.heap.size 52 _ (0, 0) _ rfl (setRow_heap _ _ z52 _ 52 (0, 0) ((Row.newArr w 52 z52).alloc _)) Tryd.underlying52 rfl sz52) rfl ⟨_, rfl, below_setRow (((Below.refl _ _).alloc (Nat.le_refl _) _).alloc (by simp) _) (Nat.le_refl _) _⟩
set_option maxRecDepth 100000 in
set_option maxHeartbeats 4000000 in
theorem new7 (w : World) : Calls Tryd.prog 7 #[.bool false] w (Fresh w) := by
  have H := Lib.hid (make19 w)
  go_enter Tryd.func7, Tryd.ntmps7
  go_wp2_with (first | (go_at_call 19; (with_reducible refine H.out.mono ?_); rintro e w1 ⟨m, rfl, hb⟩; have HB1 := Lib.hid hb; clear hb) | (refine wpList_store_row rfl 52 _ _ rfl w1.heap.size (cbA (.map (some m))) rfl rfl 52 z52 (Row.newArr w1 52 z52) sz52 rfl (cb_one _) ?_))
  obtain ⟨W, hW, hrow, hbel, hsz⟩ := made_set w1 52 z52 (cbA (.map (some m)))
  have HROW := Lib.hid hrow
  have HBEL := Lib.hid hbel
  have HW : ((w1.alloc (.cells #[.pointer none, .slice none 0 0, .slice none 0 0, .map none, .slice none 0 0, .string ⟨#[]⟩, .int .i64 0, .int .i64 0, .int .i64 0, .int .i64 0, .int .i64 0, .int .i64 0, .bool false, .int .i64 0, .int .i64 0, .int .i64 0, .int .i32 0, .int .u32 0, .bool false, .bool false, .bool false, .bool false] 52)).setRow w1.heap.size (cbA (.map (some m)))) = W := hW
  rw [HW]
  clear hW HW hrow hbel
  go_ret
  exact ⟨w1.heap.size, .map (some m), rfl, ⟨HROW.out, own_nil _ _ _ _, HB1.out.size⟩, HB1.out.trans (HBEL.out.mono HB1.out.size)⟩
set_option maxRecDepth 100000 in
set_option maxHeartbeats 8000000 in
theorem app8 (B j : Nat) (q v : Value) (zs : List Int) (lb : Int) (sep : List Int) (l0 g0 a0 o0 c0 upd col : Int) (hp : Bool) (l g a o c : Int) (w : World) (h : Bd w B j q v zs l0 g0 a0 o0 c0 upd col hp) (hb : B64 B w) (hz : zs.length ≤ 90000000) (hsep : Sz zs lb sep)
    (h1 : Sm g0) (h2 : Sm a0) (h3 : Sm o0) (h4 : Sm c0) (h5 : Sm g) (h6 : Sm a) (h7 : Sm o) (h8 : Sm c) :
    Calls Tryd.prog 8 #[.pointer (some ⟨j, 0, none⟩), .agg (st7 l g a o c)] w (Added w B j q v (zs ++ sep ++ seg4 (g - g0) (a - a0) (o - o0) (c - c0)) l g a o c upd col) := by
  have hg : Gr w v (w.alloc (.cells #[.int .i64 l, .int .i64 g, .int .i64 a, .int .i64 o, .int .i64 c, .int .i64 0, .bool false] 30)) v := (Gr.refl w v).alloc _
  have H := Lib.hid (add20 B j q v zs lb sep l0 g0 a0 o0 c0 upd col hp l g a o c _ (h.alloc (.cells #[.int .i64 l, .int .i64 g, .int .i64 a, .int .i64 o, .int .i64 c, .int .i64 0, .bool false] 30)) (hb.below (hg.below (own_low h.own) hb.1)) hz hsep h1 h2 h3 h4 h5 h6 h7 h8)
  have HG := Lib.hid hg
  clear h hb hz hsep h1 h2 h3 h4 h5 h6 h7 h8 hg
  unfold st7 at H ⊢
  go_enter Tryd.func8, Tryd.ntmps8
  go_wp2_with (go_at_call 20; (with_reducible refine H.out.mono ?_); rintro e w1 ⟨rfl, v', hbd, hst⟩; have HBD := Lib.hid hbd; have HST := Lib.hid hst; clear hbd hst)
  go_end0
  exact ⟨rfl, v', HBD.out, (HG.out j).trans HST.out⟩
section
variable {B j : Nat} {q v : Value} {zs : List Int} {l g a o c upd col : Int} {hp : Bool} {w : World}
theorem buf9 (h : Bd w B j q v zs l g a o c upd col hp) : Calls Tryd.prog 9 #[.pointer (some ⟨j, 0, none⟩)] w fun e w' => e = .returned v ∧ w = w' := by
  obtain ⟨A, c', rfl⟩ := h.own.form
  have hr := h.row
  unfold cb at hr
  have c1 := hr.at_ (i := 1) rfl
  clear hr h
  go_enter Tryd.func9, Tryd.ntmps9
  go_wp2
  go_ret
  exact ⟨rfl, rfl⟩
theorem st14 (h : Bd w B j q v zs l g a o c upd col hp) : Calls Tryd.prog 14 #[.pointer (some ⟨j, 0, none⟩)] w fun e w' => e = .returned (.agg (st7 l g a o c)) ∧ Below w.heap.size w w' := by
  have hr := h.row
  have hj := hr.lt
  unfold cb at hr
  have c6 := hr.at_ (i := 6) rfl
  have c7 := hr.at_ (i := 7) rfl
  have c8 := hr.at_ (i := 8) rfl
  have c9 := hr.at_ (i := 9) rfl
  have c10 := hr.at_ (i := 10) rfl
  have c11 := hr.at_ (i := 11) rfl
  have c12 := hr.at_ (i := 12) rfl
  clear hr h
  unfold st7
  go_enter Tryd.func14, Tryd.ntmps14
  go_wp2
  exact bodyPost_ret (v := .agg _) (results_cell_row Tryd.results14 _ _ w.heap.size 30 _ (0, 0) _ rfl (Row.newArr w 30 _) Tryd.underlying30 rfl (by kernel_rfl)) rfl ⟨rfl, (Below.refl _ _).alloc (Nat.le_refl _) _⟩
theorem col15 (h : Bd w B j q v zs l g a o c upd col hp) : Calls Tryd.prog 15 #[.pointer (some ⟨j, 0, none⟩)] w fun e w' => e = .returned (.int .i64 col) ∧ w = w' := by
  have hr := h.row
  unfold cb at hr
  have c1 := hr.at_ (i := 14) rfl
  clear hr h
  go_enter Tryd.func15, Tryd.ntmps15
  go_wp2
  go_ret
  exact ⟨rfl, rfl⟩
theorem upd16 (h : Bd w B j q v zs l g a o c upd col hp) : Calls Tryd.prog 16 #[.pointer (some ⟨j, 0, none⟩)] w fun e w' => e = .returned (.int .i64 upd) ∧ w = w' := by
  have hr := h.row
  unfold cb at hr
  have c1 := hr.at_ (i := 13) rfl
  clear hr h
  go_enter Tryd.func16, Tryd.ntmps16
  go_wp2
  go_ret
  exact ⟨rfl, rfl⟩
theorem lin17 (h : Bd w B j q v zs l g a o c upd col hp) : Calls Tryd.prog 17 #[.pointer (some ⟨j, 0, none⟩)] w fun e w' => e = .returned (.bool false) ∧ w = w' := by
  have hr := h.row
  unfold cb at hr
  have c1 := hr.at_ (i := 20) rfl
  clear hr h
  go_enter Tryd.func17, Tryd.ntmps17
  go_wp2
  go_ret
  exact ⟨rfl, rfl⟩
theorem has18 (h : Bd w B j q v zs l g a o c upd col hp) : Calls Tryd.prog 18 #[.pointer (some ⟨j, 0, none⟩)] w fun e w' => e = .returned (.bool hp) ∧ w = w' := by
  have hr := h.row
  unfold cb at hr
  have c1 := hr.at_ (i := 18) rfl
  clear hr h
  go_enter Tryd.func18, Tryd.ntmps18
  go_wp2
  go_ret
  exact ⟨rfl, rfl⟩
end
end Go.Proofs.YtmakaafjkeeooacDoor.UgF
