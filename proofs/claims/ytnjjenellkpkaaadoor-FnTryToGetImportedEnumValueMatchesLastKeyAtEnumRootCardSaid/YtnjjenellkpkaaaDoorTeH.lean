/- FnTryToGetImportedEnumValueMatchesLastKeyAtEnumRoot: the two entries. -/
import Derived.Test.YtnjjenellkpkaaaDoorRows
import Derived.Test.YtnjjenellkpkaaaDoorMem
import Derived.Test.YtnjjenellkpkaaaDoorSl
import Derived.Test.YtnjjenellkpkaaaDoorTeG
import Derived.Deep.RegionHeld3
import Derived.Great.BuildSlice
import Derived.Deep.RegionLaw
import Derived.Carry
import Derived.WalkKit
import Derived.ProofKit
import Derived.OpenShut
import Derived.Below
import Derived.WalkLawsBesides
import Derived.Lib.Hide
import Derived.Outline
import Derived.RegionTactic
import Derived.Deep.QuietTactic
import Derived.BigQuiet
import Derived.WalkSpells
import Derived.Deep.OwnRows
import Derived.IntWalk
import Derived.Deep.DeepMust
namespace Go.Proofs.YtnjjenellkpkaaaDoor.TeH
open Go.RowKit Mem Sl
set_option linter.unusedVariables false
open Args Argw Fvs TeA TeB TeC TeF TeD TeG MapK Go.Maps

noncomputable def c81 (mb : Nat) : Array Value := (Tryd.prog.built 81 [(1, .map (some mb))]).getD #[]
noncomputable def c106 (q mb : Nat) : Array Value := (Tryd.prog.built 106 [(0, .agg #[.slice (some ⟨q, 0, none⟩) 1 1]), (12, .agg (c81 mb))]).getD #[]
theorem c106_at (q mb : Nat) : (c106 q mb)[0]? = some (.slice (some ⟨q, 0, none⟩) 1 1) ∧ (c106 q mb)[13]? = some (.map (some mb)) := ⟨by kernel_rfl, by kernel_rfl⟩
set_option maxRecDepth 100000 in
set_option maxHeartbeats 1000000 in
theorem id23 (P0 pe : Nat) (x : ByteArray) (w : World) : Calls Tryd.prog 23 #[.pointer (some ⟨P0, 0, none⟩), .agg #[.iface 113 (.pointer (some ⟨pe, 0, none⟩)), .int .i32 0], .string x] w fun e w' => e = .returned (.tuple #[.agg #[.slice none 0 0, .float .f64 0], .bool false]) ∧ Below w.heap.size w w' := by
  have htp : ∀ W, (Instr.typeAssert (.iface 113 (.pointer (some ⟨pe, 0, none⟩))) 89 108 true).run Tryd.prog W = .ok (.tuple #[.pointer none, .bool false]) W := fun W => by kernel_rfl
  obtain ⟨w4, hw4⟩ : ∃ W, W = (w.alloc (.cells #[.iface 113 (.pointer (some ⟨pe, 0, none⟩)), .int .i32 0] 112)).alloc (.cells #[.slice none 0 0, .float .f64 0] 46) := ⟨_, rfl⟩
  have hb4 : Below w.heap.size w w4 := by rw [hw4]; exact ((Below.refl _ _).alloc (Nat.le_refl _) _).alloc (by simp) _
  have hr2 := Row.newArr (w.alloc (.cells #[.iface 113 (.pointer (some ⟨pe, 0, none⟩)), .int .i32 0] 112)) 46 #[.slice none 0 0, .float .f64 0]
  rw [← hw4, show (w.alloc (.cells #[.iface 113 (.pointer (some ⟨pe, 0, none⟩)), .int .i32 0] 112)).heap.size = w.heap.size + 1 by simp] at hr2
  obtain ⟨W9, hW9⟩ : ∃ x, x = w4.setRow (w.heap.size + 1) #[.slice none 0 0, .float .f64 0] := ⟨_, rfl⟩
  have hr9 : Row W9 (w.heap.size + 1) 46 [.slice none 0 0, .float .f64 0] := by rw [hW9]; exact row_setRow hr2 _
  have y0 := hr9.at_ (i := 0) rfl
  have y1 := hr9.at_ (i := 1) rfl
  have HFIN := Lib.hid (show Below w.heap.size w W9 from by rw [hW9]; exact hb4.trans ⟨rfl, rfl, rfl, by simp [World.setRow], fun k hk => setRow_other _ _ _ _ (by omega)⟩)
  clear hb4 hr9
  rw [hw4] at hr2 hW9
  have HR2 := Lib.hid hr2
  clear hr2
  go_enter Tryd.func23, Tryd.ntmps23
  go_wp2_with (refine wpList_store_rowTo rfl 46 _ _ rfl rfl (w.heap.size + 1) #[.slice none 0 0, .float .f64 0] rfl rfl 46 _ HR2.out (by kernel_rfl) rfl (by kernel_rfl) ?_)
  rw [← hW9]
  clear hW9
  exact bodyPost_ret (v := .tuple #[.agg #[.slice none 0 0, .float .f64 0], .bool false]) (by simp [results, Tryd.results23, go_sem, y0, y1]) rfl ⟨rfl, HFIN.out⟩

set_option maxRecDepth 100000 in
set_option maxHeartbeats 600000 in
theorem imp15 (q g n r d i mb : Nat) (X Y K : Nat → Int) (x : ByteArray) (A : Option Addr) (L C f : Nat) (b : Bool) (w : World) (hst : St w q g n X Y K) (hch : Ch X Y n r d i) (hn : n ≤ 65536) (hrn : r < n) (hg0 : 0 ≠ g) (hqg : q ≠ g) (hx : x.size ≤ maxLen) (ha : Ans w g mb K r x (.agg #[.slice A L C, .float .f64 f]) b) :
    Calls Tryd.prog 15 #[.agg #[.slice (some ⟨q, 0, none⟩) 1 1], .map (some mb), .agg #[.int .u32 0, .int .u32 (i : Int)], .string x] w (Tp w g (.agg #[.slice A L C, .float .f64 f]) b) := by
  obtain ⟨D, hD⟩ : ∃ x, x = c106 q mb := ⟨_, rfl⟩
  obtain ⟨E, hE⟩ : ∃ x, x = c81 mb := ⟨_, rfl⟩
  obtain ⟨w3, hw3⟩ : ∃ x, x = ((w.alloc (.cells #[.slice (some ⟨q, 0, none⟩) 1 1] 39)).alloc (.cells #[.int .u32 0, .int .u32 (i : Int)] 50)).alloc (.cells #[.slice none 0 0, .float .f64 0] 46) := ⟨_, rfl⟩
  have hs3 : w3.heap.size = w.heap.size + 1 + 1 + 1 := by rw [hw3]; simp
  obtain ⟨w5, hw5⟩ : ∃ x, x = (w3.alloc (.cells D 106)).alloc (.cells #[.int .u32 0, .int .u32 (i : Int), .bool false, .bool false] 110) := ⟨_, rfl⟩
  have hb3 : Below w.heap.size w w3 := by rw [hw3]; exact (((Below.refl _ _).alloc (Nat.le_refl _) _).alloc (by simp) _).alloc (by simp <;> omega) _
  have hb5' : Below w3.heap.size w3 w5 := by rw [hw5]; exact ((Below.refl _ _).alloc (Nat.le_refl _) _).alloc (by simp) _
  have hb5 : Below w.heap.size w w5 := hb3.trans (hb5'.mono hb3.size)
  have hr2 := Row.newArr ((w.alloc (.cells #[.slice (some ⟨q, 0, none⟩) 1 1] 39)).alloc (.cells #[.int .u32 0, .int .u32 (i : Int)] 50)) 46 #[.slice none 0 0, .float .f64 0]
  rw [← hw3, show ((w.alloc (.cells #[.slice (some ⟨q, 0, none⟩) 1 1] 39)).alloc (.cells #[.int .u32 0, .int .u32 (i : Int)] 50)).heap.size = w.heap.size + 1 + 1 by simp] at hr2
  have HRES := Lib.hid (hr2.below hb5' (by omega))
  have HB5 := Lib.hid hb5
  have hD0 : Row w5 (w.heap.size + 1 + 1 + 1) 106 D.toList := by
    have h9 := (Row.newArr w3 106 D).alloc (.cells #[.int .u32 0, .int .u32 (i : Int), .bool false, .bool false] 110)
    rw [← hw5, hs3] at h9
    exact h9
  have hE0 : Row w5 (w.heap.size + 1 + 1 + 1 + 1) 110 [.int .u32 0, .int .u32 (i : Int), .bool false, .bool false] := by
    have h9 := Row.newArr (w3.alloc (.cells D 106)) 110 #[.int .u32 0, .int .u32 (i : Int), .bool false, .bool false]
    rw [← hw5, show (w3.alloc (.cells D 106)).heap.size = w.heap.size + 1 + 1 + 1 + 1 by simp [hs3]] at h9
    exact h9
  have hglt := hst.sy.lt
  have HTR := Lib.hid (show Tr w5 (w.heap.size + 1 + 1 + 1) (w.heap.size + 1 + 1 + 1 + 1) q g n mb X Y K i from ⟨hst.below hb5, hD0.at_ (by rw [hD, Array.getElem?_toList]; exact (c106_at q mb).1), hD0.at_ (by rw [hD, Array.getElem?_toList]; exact (c106_at q mb).2), hE0.at_ (i := 0) rfl, hE0.at_ (i := 1) rfl, by omega, by omega, hqg⟩)
  have hans : Ans w5 g mb K r x (.agg #[.slice A L C, .float .f64 f]) b := by
    rcases ha with ⟨h1, h2, h3⟩ | ⟨h1, c, fo, tb, c2, ft, h2, h3, h4, h5, h6, h7⟩
    · refine .inl ⟨h1, h2, h3.imp id (fun ⟨c, fo, k1, k2, k3⟩ => ⟨c, fo, k1.below hb5 k1.lt, k2, k3⟩)⟩
    · exact .inr ⟨h1, c, fo, tb, c2, ft, h2.below hb5 h2.lt, h3, h4, h5, h6.below hb5 h6.lt, h7⟩
  have HC := Lib.hid (try23 (w.heap.size + 1 + 1 + 1) (w.heap.size + 1 + 1 + 1 + 1) q g n r d i mb X Y K x (.agg #[.slice A L C, .float .f64 f]) b w5 HTR.out hch hn hrn hg0 hx hans)
  have HGL := Lib.hid hglt
  clear hD0 hE0 hans ha hst hch hglt
  clear hr2 hb3 hb5' hb5
  have HD := Lib.hid hD
  have HE := Lib.hid hE
  clear hD hE
  go_enter Tryd.func15, Tryd.ntmps15
  go_wp2_with (first | (refine wpList_buildTo rfl 81 _ rfl (some 13) rfl E (by rewrite [HE.out]; kernel_rfl) ?_) | (refine wpList_buildTo rfl 106 _ rfl (some 14) rfl D (by rewrite [HE.out, HD.out]; kernel_rfl) ?_))
  rw [hw3] at hw5
  rw [← hw5]
  clear hw5 hw3 hs3
  refine HC.out.mono ?_
  rintro e w6 ⟨rfl, hf6⟩
  have hr6 := TeC.Row.fg HRES.out hf6 (by have := HGL.out; omega)
  have HF := Lib.hid ((Fg.below HB5.out).trans hf6)
  have HR6 := Lib.hid hr6
  obtain ⟨W9, hW9⟩ : ∃ x, x = w6.setRow (w.heap.size + 1 + 1) #[.slice A L C, .float .f64 f] := ⟨_, rfl⟩
  have hr9 : Row W9 (w.heap.size + 1 + 1) 46 [.slice A L C, .float .f64 f] := by rw [hW9]; exact row_setRow hr6 _
  have y0 := hr9.at_ (i := 0) rfl
  have y1 := hr9.at_ (i := 1) rfl
  have HFIN := Lib.hid (show Tp w g (.agg #[.slice A L C, .float .f64 f]) b (.returned (.tuple #[.agg #[.slice A L C, .float .f64 f], .bool b])) W9 from ⟨rfl, by rw [hW9]; exact Fg.setRow HF.out (by omega) _⟩)
  clear hr9 hr6 hf6
  go_wp2_with (refine wpList_store_rowTo rfl 46 _ _ rfl rfl (w.heap.size + 1 + 1) #[.slice A L C, .float .f64 f] rfl rfl 46 _ HR6.out (by kernel_rfl) rfl (by kernel_rfl) ?_)
  rw [← hW9]
  clear hW9
  exact bodyPost_ret (v := .tuple #[.agg #[.slice A L C, .float .f64 f], .bool b]) (by simp [results, Tryd.results15, go_sem, y0, y1]) rfl HFIN.out

set_option maxRecDepth 100000 in
set_option maxHeartbeats 600000 in
theorem idn17 (q mb : Nat) (i : Int) (x : ByteArray) (w : World) :
    Calls Tryd.prog 17 #[.agg #[.slice (some ⟨q, 0, none⟩) 1 1], .map (some mb), .agg #[.int .u32 0, .int .u32 i], .string x] w fun e w' => e = .returned (.tuple #[.agg #[.slice none 0 0, .float .f64 0], .bool false]) ∧ Below w.heap.size w w' := by
  obtain ⟨D, hD⟩ : ∃ x, x = c106 q mb := ⟨_, rfl⟩
  obtain ⟨E, hE⟩ : ∃ x, x = c81 mb := ⟨_, rfl⟩
  obtain ⟨w3, hw3⟩ : ∃ x, x = ((w.alloc (.cells #[.slice (some ⟨q, 0, none⟩) 1 1] 39)).alloc (.cells #[.int .u32 0, .int .u32 i] 50)).alloc (.cells #[.slice none 0 0, .float .f64 0] 46) := ⟨_, rfl⟩
  have hs3 : w3.heap.size = w.heap.size + 1 + 1 + 1 := by rw [hw3]; simp
  obtain ⟨w5, hw5⟩ : ∃ x, x = (w3.alloc (.cells D 106)).alloc (.cells #[.int .u32 0, .int .u32 i, .bool false, .bool false, .bool false] 115) := ⟨_, rfl⟩
  have hb3 : Below w.heap.size w w3 := by rw [hw3]; exact (((Below.refl _ _).alloc (Nat.le_refl _) _).alloc (by simp) _).alloc (by simp <;> omega) _
  have hb5' : Below w3.heap.size w3 w5 := by rw [hw5]; exact ((Below.refl _ _).alloc (Nat.le_refl _) _).alloc (by simp) _
  have hb5 : Below w.heap.size w w5 := hb3.trans (hb5'.mono hb3.size)
  have hr2 := Row.newArr ((w.alloc (.cells #[.slice (some ⟨q, 0, none⟩) 1 1] 39)).alloc (.cells #[.int .u32 0, .int .u32 i] 50)) 46 #[.slice none 0 0, .float .f64 0]
  rw [← hw3, show ((w.alloc (.cells #[.slice (some ⟨q, 0, none⟩) 1 1] 39)).alloc (.cells #[.int .u32 0, .int .u32 i] 50)).heap.size = w.heap.size + 1 + 1 by simp] at hr2
  have HRES := Lib.hid (hr2.below hb5' (by omega))
  have HB5 := Lib.hid hb5
  have HC := Lib.hid (id23 (w.heap.size + 1 + 1 + 1) (w.heap.size + 1 + 1 + 1 + 1) x w5)
  clear hr2 hb3 hb5' hb5
  have HD := Lib.hid hD
  have HE := Lib.hid hE
  clear hD hE
  go_enter Tryd.func17, Tryd.ntmps17
  go_wp2_with (first | (refine wpList_buildTo rfl 81 _ rfl (some 13) rfl E (by rewrite [HE.out]; kernel_rfl) ?_) | (refine wpList_buildTo rfl 106 _ rfl (some 14) rfl D (by rewrite [HE.out, HD.out]; kernel_rfl) ?_))
  rw [hw3] at hw5
  rw [← hw5]
  clear hw5 hw3 hs3
  refine HC.out.mono ?_
  rintro e w6 ⟨rfl, hf6⟩
  have hr6 := HRES.out.below hf6 HRES.out.lt
  have HF := Lib.hid (HB5.out.trans (hf6.mono HB5.out.size))
  have HR6 := Lib.hid hr6
  obtain ⟨W9, hW9⟩ : ∃ x, x = w6.setRow (w.heap.size + 1 + 1) #[.slice none 0 0, .float .f64 0] := ⟨_, rfl⟩
  have hr9 : Row W9 (w.heap.size + 1 + 1) 46 [.slice none 0 0, .float .f64 0] := by rw [hW9]; exact row_setRow hr6 _
  have y0 := hr9.at_ (i := 0) rfl
  have y1 := hr9.at_ (i := 1) rfl
  have HFIN := Lib.hid (show Below w.heap.size w W9 from by rw [hW9]; exact HF.out.trans ⟨rfl, rfl, rfl, by simp [World.setRow], fun k hk => setRow_other _ _ _ _ (by omega)⟩)
  clear hr9 hr6 hf6
  go_wp2_with (refine wpList_store_rowTo rfl 46 _ _ rfl rfl (w.heap.size + 1 + 1) #[.slice none 0 0, .float .f64 0] rfl rfl 46 _ HR6.out (by kernel_rfl) rfl (by kernel_rfl) ?_)
  rw [← hW9]
  clear hW9
  exact bodyPost_ret (v := .tuple #[.agg #[.slice none 0 0, .float .f64 0], .bool false]) (by simp [results, Tryd.results17, go_sem, y0, y1]) rfl ⟨rfl, HFIN.out⟩
end Go.Proofs.YtnjjenellkpkaaaDoor.TeH
