/- print of the JavaScript printer. -/
import Derived.Test.YtjgomgagaolhgaaRows
import Derived.Test.YtjgomgagaolhgaaMem
import Derived.Test.YtjgomgagaolhgaaSl
import Derived.Test.YtjgomgagaolhgaaPrn
import Derived.OwnWalk
import Derived.WalkKit
import Derived.ProofKit
import Derived.OpenShut
import Derived.Below
import Derived.WalkLawsBesides
import Derived.Lib.Hide
import Derived.Outline
import Derived.RegionTactic
import Derived.Deep.QuietTactic
import Derived.BigQuiet
import Derived.WalkSpells
import Derived.Deep.OwnRows
import Derived.IntWalk
import Derived.Deep.DeepMust
namespace Go.Proofs.Ytjgomgagaolhgaa.Print
open Go.RowKit Mem Sl
set_option linter.unusedVariables false
open Prn
theorem info5 : (Try.prog.info? 5).map (fun i => (i.zero, i.size, i.bytes)) = some (some (.int .u8 0), 1, 1) := by kernel_rfl

set_option maxRecDepth 100000 in
set_option maxHeartbeats 400000 in
theorem pr48 (p : Nat) (cs : List Value) (v : Value) (zs : List Int) (s : ByteArray) (w : World) (h : Pr w p 100 9 5 cs v zs) (hb : zs.length + s.size ≤ 1000000000) :
    Calls Try.prog 48 #[.pointer (some ⟨p, 0, none⟩), .string s] w fun e w' => e = .returned (.tuple #[]) ∧ Printed w p 100 9 5 cs v (zs ++ nums s) w' := by
  obtain ⟨i0, hi, hz0, hz1, hz2⟩ := info_parts info5
  obtain ⟨A0, c0, rfl⟩ := h.buf.form
  have c1 := h.row.at_ h.at_
  have H := Lib.hid h
  clear h
  go_enter Try.func48, Try.ntmps48
  go_wp2_with (at_builtin; refine wpList_append_str _ rfl (.tmp 8) (.tmp 9) 22 9 rfl 5 i0 Try.underlying22 Try.underlying9 hi hz0 hz1 hz2 (.slice A0 zs.length c0) zs rfl H.out.buf s rfl hb ?_; intro A1 n1 cp1 w1 hbuf hgr hat; obtain ⟨k1, k2, k3, k4⟩ := H.out.store (by decide) hbuf (.of_grown hgr hat) hgr; have K1 := Lib.hid k1; have K2 := Lib.hid k2; clear k1 k2 hbuf hgr hat)
  go_end0
  exact ⟨rfl, _, K1.out, K2.out⟩
end Go.Proofs.Ytjgomgagaolhgaa.Print
