/- FnDecodeVLQUTF16InvertsEncodeVLQ: the law. -/
import Derived.Test.YtjgomgagaolhgacRRDoorRows
import Derived.Test.YtjgomgagaolhgacRRDoorMem
import Derived.Test.YtjgomgagaolhgacRRDoorSl
import Derived.Test.YtjgomgagaolhgacRRDoorEncL
import Derived.Test.YtjgomgagaolhgacRRDoorDecA
import Derived.Laws.AppendOwnNone
import Derived.WalkKit
import Derived.ProofKit
import Derived.OpenShut
import Derived.Below
import Derived.WalkLawsBesides
import Derived.Lib.Hide
import Derived.Outline
import Derived.RegionTactic
import Derived.Deep.QuietTactic
import Derived.BigQuiet
import Derived.WalkSpells
import Derived.Deep.OwnRows
import Derived.IntWalk
import Derived.Deep.DeepMust
namespace Go.Proofs.YtjgomgagaolhgacRRDoor.DecL
open Go.RowKit Mem Sl
set_option linter.unusedVariables false
open Own Vq Args Enc EncL DecA

theorem cl13_info : (Tryd.prog.info? 22).map (fun i => (i.zero, i.size, i.bytes)) = some (some (.int .u16 0), 1, 2) := by kernel_rfl
set_option maxHeartbeats 400000 in
theorem cl13 (A : Option Addr) (n c : Nat) (zs : List Int) (w : World) (h : Args.IsInts .u16 w A n c zs) (hn : n ≤ 1048576) :
    Calls Tryd.prog 13 #[.slice A n c] w fun e w' => Cloned .u16 22 w A n zs e w' := by
  have heq := fun (W : World) (X : Option Addr) (l cc : Nat) => Lib.run_eql_slice_nil (P := Tryd.prog) W 39 22 X l cc 0 0 Tryd.underlying39
  rcases A with _ | a
  · obtain ⟨h1, h2, h3, h4, h5, h6⟩ := h
    have hc := h5 rfl
    obtain rfl : n = 0 := by omega
    obtain rfl : zs = [] := List.eq_nil_of_length_eq_zero h3
    go_enter Tryd.func13, Tryd.ntmps13
    go_wp2
    go_ret
    exact ⟨_, rfl, .inl ⟨rfl, rfl, rfl⟩⟩
  · have hmk := fun W => run_make_row' (P := Tryd.prog) 39 22 (.int .u16 0) 2 Tryd.underlying39 cl13_info rfl .i64 .i64 n (by omega) (by omega) W
    have hlen := h.2.2.1
    have hrd := fun k => h.read k
    have HR := Lib.hid hrd
    clear hrd
    go_enter Tryd.func13, Tryd.ntmps13
    go_wp2
    go_loopw [4] (fun i wr => ∃ k : Nat, k ≤ n ∧ i = .int .i64 k ∧ Row wr w.heap.size 22 (filled (iv .u16 zs) (.int .u16 0) k) ∧ Below w.heap.size w wr ∧ wr.heap.size = w.heap.size + 1) (fun i _ => n - (intOf i).toNat)
    case atStart =>
      refine ⟨0, Nat.zero_le _, rfl, ?_, (Below.refl _ _).alloc (Nat.le_refl _) _, by simp⟩
      rw [filled_zero, iv_length, hlen]
      exact made_row w 22 (.int .u16 0) n
    case round =>
      obtain ⟨k, hk, rfl, hrow, hbel, hsz⟩ := hrel
      have HS := Lib.hid hsz
      clear hsz
      by_cases hlt : k < n
      · obtain ⟨b, off, ha, hb, hcell⟩ := HR.out k hlt
        injection ha with ha
        subst ha
        obtain ⟨x, hx⟩ : ∃ x, x = zs.getD k 0 := ⟨_, rfl⟩
        rw [← hx] at hcell
        have c1 := cell_later hbel hcell
        have hl : k < (iv .u16 zs).length := by rw [iv_length]; omega
        have c2 := hrow.at_ (filled_at (iv .u16 zs) (.int .u16 0) k hl)
        have c3 := hrow.frozen k
        have hset := hrow.set k (.int .u16 x)
        rw [filled_set _ _ k hl _ (by rw [hx]; exact iv_at .u16 zs k (by omega))] at hset
        have HSET := Lib.hid hset
        have HB := Lib.hid hbel
        clear hset hbel hrow hcell hx
        go_wp2
        go_roundw
        case rel => exact ⟨k + 1, by omega, by go_num, HSET.out, HB.out.setCell (Nat.le_refl _) _, by simpa using HS.out⟩
        case measure => simp [intOf]; omega
      · have hkn : k = n := by omega
        subst hkn
        have HROW := Lib.hid hrow
        have HB := Lib.hid hbel
        clear hrow hbel
        go_wp2
        go_ret
        refine ⟨_, rfl, .inr ⟨by simp, rfl, ?_, HB.out, HS.out⟩⟩
        have h1 := HROW.out
        rwa [← hlen, ← iv_length .u16 zs, filled_all] at h1

theorem of_laid {W : World} (h : laidMetH Tryd.prog Rows.fnDecodeVLQUTF16InvertsEncodeVLQRow.laid W) : B64 W.heap.size W := b64_of_laid h
theorem zz12 (a0 : Int) (A1 : Option Addr) (n1 c1 : Nat) (w : World) (h : n1 ≤ maxLen) : Calls Tryd.prog 12 #[.int .i64 a0, .slice A1 n1 c1] w fun e w' => (∃ b, e = .returned (.bool b)) ∧ w = w' := by
  unfold maxLen at h
  go_enter Tryd.func12, Tryd.ntmps12
  go_wp2
  all_goals go_ret
  all_goals exact ⟨⟨_, rfl⟩, rfl⟩
theorem info22 : (Tryd.prog.info? 22).map (fun i => (i.zero, i.size, i.bytes)) = some (some (.int .u16 0), 1, 2) := by kernel_rfl
/-- The clone as the law uses it. -/
def Clo (w : World) (n : Nat) (zs : List Int) (e : Ending) (w' : World) : Prop := ∃ A c, e = .returned (.slice A n c) ∧ IsInts .u16 w' A n c zs ∧ (A = none → n = 0) ∧ (∀ a, A = some a → ∃ b, a = ⟨b, 0, none⟩) ∧ Below w.heap.size w w'
theorem clo13 (A : Option Addr) (n c : Nat) (zs : List Int) (w : World) (h : IsInts .u16 w A n c zs) (hn : n ≤ 1048576) : Calls Tryd.prog 13 #[.slice A n c] w (Clo w n zs) := by
  refine (cl13 A n c zs w h hn).mono ?_
  rintro e w' ⟨v, rfl, ⟨hA, rfl, rfl⟩ | ⟨hA, rfl, hr, hb, hs⟩⟩
  · subst hA
    obtain ⟨h1, h2, h3, h4, h5, h6⟩ := h
    have hc := h5 rfl
    obtain rfl : n = 0 := by omega
    obtain rfl : zs = [] := List.eq_nil_of_length_eq_zero h3
    exact ⟨none, 0, rfl, ⟨Nat.le_refl _, Nat.zero_le _, rfl, by simp, fun _ => rfl, fun h => by omega⟩, fun _ => rfl, (fun a h => by cases h), Below.refl _ _⟩
  · have hl := h.2.2.1
    have hi := ints_of_row hr (by unfold maxLen; omega) h.2.2.2.1
    rw [hl] at hi
    exact ⟨_, n, rfl, hi, (fun h => by cases h), (fun a h => by injection h with h; exact ⟨_, h.symm⟩), hb⟩
theorem code_le255 (n : Nat) : ∀ z ∈ code n, 0 ≤ z ∧ z ≤ 255 := by
  intro z hz
  simp only [code, List.mem_map] at hz
  obtain ⟨d, hd, rfl⟩ := hz
  exact ch_bounds (vq_lt n d hd)
theorem wf16 (z : Int) (h : 0 ≤ z ∧ z ≤ 255) : (Lit.int .u16 z).wf = true := WalkArith.wf_u16 (by omega)
set_option maxHeartbeats 2000000 in
set_option maxRecDepth 100000 in
theorem law (a0 : Int) (A1 : Option Addr) (n1 c1 : Nat) (z1 : List Int) (w : World) (w0 : (Lit.int .i64 a0).wf = true) (w1 : Args.IsInts .u16 w A1 n1 c1 z1) (hL : B64 w.heap.size w) :
    Calls Tryd.prog 5 #[.int .i64 a0, .slice A1 n1 c1] w fun e w' => e = .returned (.bool true) ∧ Below w.heap.size w w' := by
  have HL := Lib.hid hL
  have H1 := Lib.hid w1
  have m1 := Nat.le_trans w1.1 w1.2.1
  have M1 := Lib.hid m1
  unfold maxLen at m1
  clear w0 w1 hL
  go_enter Tryd.func5, Tryd.ntmps5
  go_wp2_with fail
  refine (zz12 a0 A1 n1 c1 w M1.out).mono ?_
  rintro e w' ⟨⟨b, rfl⟩, rfl⟩
  cases b
  · go_wp2_with fail
    go_ret
    exact ⟨rfl, Below.refl _ _⟩
  by_cases q0 : 262144 < n1
  · have g0 : decide (262144 < (n1 : Int)) = true := by simp; omega
    go_wp2_with fail
    go_ret
    exact ⟨rfl, Below.refl _ _⟩
  have g0 : decide (262144 < (n1 : Int)) = false := by simp; omega
  by_cases q1 : 1073741823 < a0
  · have g1 : decide (1073741823 < a0) = true := by simp; omega
    go_wp2_with fail
    go_ret
    exact ⟨rfl, Below.refl _ _⟩
  have g1 : decide (1073741823 < a0) = false := by simp; omega
  by_cases q2 : a0 < -1073741823
  · have g2 : decide (a0 < -1073741823) = true := by simp; omega
    go_wp2_with fail
    go_ret
    exact ⟨rfl, Below.refl _ _⟩
  have g2 : decide (a0 < -1073741823) = false := by simp; omega
  go_wp2_with fail
  clear g0 g1 g2
  refine (clo13 A1 n1 c1 z1 w H1.out (by omega)).mono ?_
  rintro e u0 ⟨A, c, rfl, hi, hnone, hsome, hb⟩
  have HI := Lib.hid hi
  have HB := Lib.hid hb
  have HN := Lib.hid (And.intro hnone hsome)
  clear hi hb hnone hsome H1 M1
  go_wp2_with fail
  refine (enc10 u0.heap.size _ [] a0 u0 (B64.mono (HL.out.below HB.out) HB.out.size (Nat.le_refl _)) (own_nil _ _ _ _) (by simp) (by omega) (by omega)).mono ?_
  rintro e u1 ⟨v0, rfl, ho, hb⟩
  rw [List.nil_append] at ho
  obtain ⟨N, hN⟩ : ∃ N, N = vlqOf a0 := ⟨_, rfl⟩
  have hNl : N < 2147483648 := by rw [hN]; exact vlqOf_lt (by omega) (by omega)
  rw [← hN] at ho
  have HV := Lib.hid (show DecA.valOf N = a0 by rw [hN]; exact valOf_vlq a0)
  have hcl := code_len_le N hNl
  obtain ⟨A0, c0, rfl, i0⟩ := ho.ints (code_wf _)
  have HI0 := Lib.hid i0
  replace HI := Lib.hid (HI.out.later hb)
  replace HB := Lib.hid (HB.out.trans (hb.mono HB.out.size))
  have HS1 := Lib.hid HB.out.size
  obtain ⟨L, hLen⟩ : ∃ L, L = (code N).length := ⟨_, rfl⟩
  rw [← hLen] at hcl HI0 ⊢
  have HLN := Lib.hid hLen
  clear hb ho i0 hN hLen
  have hmk := fun W => run_make_row' (P := Tryd.prog) 39 22 (.int .u16 0) 2 Tryd.underlying39 info22 rfl .i64 .i64 (L + n1) (by omega) (by omega) W
  have hmk0 : ∀ W : World, (Instr.makeSlice 39 (.int .i64 0) (.int .i64 ((L : Int) + (n1 : Int)))).run Tryd.prog W = .ok (.slice (some ⟨W.heap.size, 0, none⟩) 0 (L + n1)) (W.alloc (.cells (madeCells #[.int .u16 0] (L + n1)) 22)) := by
    intro W
    obtain ⟨i, hi, hzz⟩ := Option.map_eq_some_iff.1 info22
    simp only [Prod.mk.injEq] at hzz
    obtain ⟨hz, hsz, hby⟩ := hzz
    have hr := run_make (P := Tryd.prog) W 39 22 i (.int .u16 0) Tryd.underlying39 hi hz .i64 .i64 0 ((L : Int) + (n1 : Int)) (by omega) (by omega) (by rw [hby]; omega) (by omega)
    rw [hr, hsz]
    have e1 : ((L : Int) + (n1 : Int)).toNat = L + n1 := by omega
    rw [e1]
    simp [Value.cells]
  clear hmk
  go_wp2_with fail
  have HO := Lib.hid (own_made u1 u1.heap.size 22 .u16 (L + n1) (Nat.le_refl _) (by unfold maxLen; omega))
  have HBm := Lib.hid (show Below u1.heap.size u1 (u1.alloc (.cells (madeCells #[.int .u16 0] (L + n1)) 22)) from (Below.refl _ _).alloc (Nat.le_refl _) _)
  generalize u1.alloc (.cells (madeCells #[.int .u16 0] (L + n1)) 22) = u2 at HO HBm ⊢
  clear hmk0
  go_loopw [6, 7] (fun u i wr => ∃ (u' : Value) (k : Nat), u' = u ∧ k ≤ L ∧ i = .int .i64 k ∧ Own wr u1.heap.size 22 .u16 u' ((code N).take k) ∧ Below u1.heap.size u1 wr) (fun _ i _ => L - (intOf i).toNat)
  case atStart => exact ⟨_, 0, rfl, by omega, rfl, by rw [List.take_zero]; exact HO.out, HBm.out⟩
  case round =>
    obtain ⟨u, k, rfl, hk, rfl, hown, hbel⟩ := hrel
    have HOr := Lib.hid hown
    have HBr := Lib.hid hbel
    have hBs := hbel.size
    by_cases hlt : k < L
    · obtain ⟨b, off, ha, hb1, hc1⟩ := (HI0.out.later hbel).read k hlt
      subst ha
      have hx := code_le255 N ((code N).getD k 0) (by rw [List.getD_eq_getElem?_getD, List.getElem?_eq_getElem (by rw [← HLN.out]; exact hlt)]; exact List.getElem_mem _)
      have HT := Lib.hid (show (code N).take (k + 1) = (code N).take k ++ [(code N).getD k 0] by
        rw [List.take_add_one, List.getD_eq_getElem?_getD, List.getElem?_eq_getElem (by rw [← HLN.out]; exact hlt)]; rfl)
      generalize (code N).getD k 0 = x at hc1 hx HT
      obtain ⟨hx0, hx1⟩ := hx
      have hw16 : IntKind.u16.wrap x = x := by rw [IntKind.wrap_u16]; omega
      clear hown hbel
      go_wp2_with (refine wpList_push _ rfl _ _ 39 rfl u1.heap.size 22 .u16 2 Tryd.underlying39 info22 (by decide) u ((code N).take k) rfl (HOr.out.alloc _) wr.heap.size x rfl ((Row.newArr _ 22 _).at_ (i := 0) rfl) (by rw [List.length_take]; omega) (by simp; omega) ?_; intro v' w1 hown1 hbel1; have HO1 := Lib.hid hown1; have HBL1 := Lib.hid hbel1; clear hown1 hbel1)
      go_roundw
      case rel => exact ⟨_, k + 1, rfl, by omega, by go_num, by rw [HT.out]; exact HO1.out, HBr.out.trans (((Below.refl _ wr).alloc hBs _).trans HBL1.out)⟩
      case measure => simp [intOf]; omega
    · obtain rfl : k = L := by omega
      have hall : (code N).take k = code N := by rw [HLN.out, List.take_length]
      rw [hall] at hown
      replace HOr := Lib.hid hown
      replace HI := Lib.hid (HI.out.later hbel)
      replace HB := Lib.hid (HB.out.trans (hbel.mono HB.out.size))
      clear hown hbel hall HO HBm HI0
      rcases A with _ | a
      · skip
        have hn0 := HN.out.1 rfl
        subst hn0
        obtain rfl : z1 = [] := List.eq_nil_of_length_eq_zero HI.out.2.2.1
        obtain ⟨i22, hi22, hzz⟩ := Option.map_eq_some_iff.1 info22
        have HT22 := Lib.hid hi22
        obtain rfl : c = 0 := HI.out.2.2.2.2.1 rfl
        have HBL1 := Lib.hid (Below.refl u1.heap.size wr)
        clear hi22 hzz
        go_wp2_with (refine wpList_append_own_none rfl _ _ 39 rfl u1.heap.size 22 i22 1 Tryd.underlying39 HT22.out u _ _ rfl HOr.out rfl ?_)
        have HOF := Lib.hid (show Own wr u1.heap.size 22 .u16 u (code N ++ []) from (by rw [List.append_nil]; exact HOr.out))
        have hB1 := HBL1.out.size
        obtain ⟨AU, cU, rfl, iu⟩ := HOF.out.ints (fun z hz => by
          rcases List.mem_append.1 hz with h | h
          · exact wf16 z (code_le255 N z h)
          · exact HI.out.2.2.2.1 z h)
        have hul : (code N ++ []).length = k + 0 := by rw [List.length_append, ← HLN.out, List.length_nil]
        rw [hul] at iu ⊢
        have HB2 := Lib.hid (HB.out.trans (HBL1.out.mono HS1.out))
        have HD := Lib.hid (dec14 AU (k + 0) cU N (code N ++ []) wr iu (by omega) (B64.mono (HL.out.below HB2.out) HB2.out.size (Nat.le_refl _)) ⟨[], rfl⟩ hNl)
        clear iu hul
        go_wp2_with fail
        refine HD.out.mono ?_
        rintro e w' ⟨rfl, hb⟩
        rw [HV.out, ← HLN.out]
        have HB3 := Lib.hid (HB2.out.trans (hb.mono HB2.out.size))
        have ga : (a0 == a0) = true := by simp
        have gk : ((k : Int) == (k : Int)) = true := by simp
        clear hb
        go_wp2_with fail
        go_ret
        exact ⟨rfl, HB3.out⟩
      · skip
        obtain ⟨b, rfl⟩ := HN.out.2 a rfl
        have hcells := HI.out.2.2.2.2.2
        have HCS := Lib.hid (show ∀ i, i < n1 → wr.cell? ⟨b, 0 + i, none⟩ = some (.int .u16 (z1.getD i 0)) from fun i hi => by
          obtain ⟨b', o', he, _, hc⟩ := HI.out.read i hi
          injection he with he
          injection he with h1 h2
          subst h1 h2
          exact hc)
        clear hcells
        go_wp2_with (refine wpList_append_ints _ rfl _ _ 39 rfl u1.heap.size 22 .u16 2 Tryd.underlying39 info22 (by decide) u (code N) rfl HOr.out b 0 n1 c z1 rfl HI.out.2.2.1 HCS.out (by rw [← HLN.out]; omega) hBs ?_; intro v' w1 hown1 hbel1; have HO1 := Lib.hid hown1; have HBL1 := Lib.hid hbel1; clear hown1 hbel1)
        have HOF := Lib.hid (show Own w1 u1.heap.size 22 .u16 v' (code N ++ z1) from HO1.out)
        have hB1 := HBL1.out.size
        obtain ⟨AU, cU, rfl, iu⟩ := HOF.out.ints (fun z hz => by
          rcases List.mem_append.1 hz with h | h
          · exact wf16 z (code_le255 N z h)
          · exact HI.out.2.2.2.1 z h)
        have hul : (code N ++ z1).length = k + n1 := by rw [List.length_append, ← HLN.out, HI.out.2.2.1]
        rw [hul] at iu ⊢
        have HB2 := Lib.hid (HB.out.trans (HBL1.out.mono HS1.out))
        have HD := Lib.hid (dec14 AU (k + n1) cU N (code N ++ z1) w1 iu (by omega) (B64.mono (HL.out.below HB2.out) HB2.out.size (Nat.le_refl _)) ⟨z1, rfl⟩ hNl)
        clear iu hul
        go_wp2_with fail
        refine HD.out.mono ?_
        rintro e w' ⟨rfl, hb⟩
        rw [HV.out, ← HLN.out]
        have HB3 := Lib.hid (HB2.out.trans (hb.mono HB2.out.size))
        have ga : (a0 == a0) = true := by simp
        have gk : ((k : Int) == (k : Int)) = true := by simp
        clear hb
        go_wp2_with fail
        go_ret
        exact ⟨rfl, HB3.out⟩
end Go.Proofs.YtjgomgagaolhgacRRDoor.DecL
