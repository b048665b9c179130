/- NextRenamedName. -/
import Derived.Test.YtpagdibnhdfbfabDoorRows
import Derived.Test.YtpagdibnhdfbfabDoorMem
import Derived.Test.YtpagdibnhdfbfabDoorSl
import Derived.Test.YtpagdibnhdfbfabDoorMap
import Derived.Test.YtpagdibnhdfbfabDoorOcc
import Derived.Test.YtpagdibnhdfbfabDoorShelf
import Derived.Test.YtpagdibnhdfbfabDoorVars
import Derived.Lib.AppendIntMem
import Derived.Lib.ItoaMem
import Derived.WalkKit
import Derived.ProofKit
import Derived.OpenShut
import Derived.Below
import Derived.WalkLawsBesides
import Derived.Lib.Hide
import Derived.Outline
import Derived.RegionTactic
import Derived.Deep.QuietTactic
import Derived.BigQuiet
import Derived.WalkSpells
import Derived.Deep.OwnRows
import Derived.IntWalk
import Derived.Deep.DeepMust
namespace Go.Proofs.YtpagdibnhdfbfabDoor.NrA
open Go.RowKit Mem Sl
set_option linter.unusedVariables false
open Map Occ Go.MapKept

/-- The table that strconv.Itoa reads. -/
def Tab (w : World) : Prop := Lib.TabIs Tryd.prog w "internal/strconv.uint64pow10" .u64 Lib.pow10Tab
theorem tab_later {w w' : World} (h : Tab w) (hb : Below w.heap.size w w') : Tab w' := Vars.var_below (show Tryd.prog.globalNamed "internal/strconv.uint64pow10" = some 0 by kernel_rfl) h hb
/-- The numeral of t. -/
def num (t : Nat) : ByteArray := ⟨(Lib.decDigits t).toArray⟩
theorem dec_len (u : Nat) : (Lib.decDigits u).length ≤ u + 1 := by
  induction u using Nat.strongRecOn with
  | _ u ih =>
    by_cases h : u < 10
    · rw [dec_lt h]; simp
    · rw [dec_ge h]
      have := ih (u / 10) (by omega)
      simp
      omega
theorem num_size (t : Nat) : (num t).size ≤ t + 1 := dec_len t
theorem itoa10 (t : Nat) (w : World) (ht : t ≤ 1000000) (hT : Tab w) : Calls Tryd.prog 10 #[.int .i64 (t : Int)] w fun e w' => e = .returned (.string (num t)) ∧ Below w.heap.size w w' := by
  refine (Tryd.strconv_Itoa t (by omega) (by omega) w hT).mono ?_
  rintro e w' ⟨rfl, k, os, rfl⟩
  exact ⟨by rw [Lib.itoa_nonneg]; rfl, Lib.below_grow _ w (Nat.le_refl _) k os⟩
/-- The renamer at p: its map at g. -/
def Ren (w : World) (p g n : Nat) (f : Value → Option Value) : Prop := Row w p 28 [.map (some g), .int .i64 0] ∧ MapF w g .string n f
/-- Nothing but the blocks p and g has turned. -/
structure Fr (p g : Nat) (w w' : World) : Prop where
  os : w'.os = w.os
  tape : w'.tape = w.tape
  output : w'.output = w.output
  size : w.heap.size ≤ w'.heap.size
  block : ∀ i, i < w.heap.size → i ≠ p → i ≠ g → w'.heap[i]? = w.heap[i]?
theorem Fr.of_below {p g : Nat} {w w' : World} (h : Below w.heap.size w w') : Fr p g w w' := ⟨h.os, h.tape, h.output, h.size, fun i hi _ _ => h.block i hi⟩
theorem Fr.grown {p g : Nat} {w w' w2 : World} (h : Fr p g w w') (hg : w'.grownBy w2 (some g)) : Fr p g w w2 :=
  ⟨hg.os.trans h.os, hg.tape.trans h.tape, hg.output.trans h.output, Nat.le_trans h.size hg.size, fun j hj h1 h2 => (hg.block j (Nat.lt_of_lt_of_le hj h.size) (fun e => h2 (by injection e))).trans (h.block j hj h1 h2)⟩
theorem Fr.below {p g B : Nat} {w w' : World} (h : Fr p g w w') (hp : B ≤ p) (hg : B ≤ g) (hB : B ≤ w.heap.size) : Below B w w' :=
  ⟨h.os, h.tape, h.output, h.size, fun i hi => h.block i (by omega) (by omega) (by omega)⟩
/-- What NextRenamedName leaves. -/
def Nx (w : World) (p g : Nat) (f : Value → Option Value) (r : ByteArray) (x : Nat) (e : Ending) (w' : World) : Prop :=
  e = .returned (.string r) ∧ (∃ n, Ren w' p g n (put f (.string r) (.int .u32 (x : Int)))) ∧ Fr p g w w'
theorem ren_ne {w : World} {p g n : Nat} {f : Value → Option Value} (h : Ren w p g n f) : p ≠ g := by
  rintro rfl
  obtain ⟨hr, ⟨es, c, h1, _⟩⟩ := h
  unfold Row at hr
  rw [h1] at hr
  cases hr
theorem isKey (s : ByteArray) : IsKey .string (.string s) := trivial
set_option maxHeartbeats 4000000 in
set_option maxRecDepth 100000 in
/-- A name that was not used. -/
theorem next_new (w : World) (p g n : Nat) (s : ByteArray) (f : Value → Option Value) (hR : Ren w p g n f) (hf : f (.string s) = none) :
    Calls Tryd.prog 7 #[.pointer (some ⟨p, 0, none⟩), .string s] w (Nx w p g f s 1) := by
  have hne := ren_ne hR
  obtain ⟨hr, hm⟩ := hR
  have c0 := hr.at_ (i := 0) rfl
  have qT := fun (W : World) (r : Option Nat) => run_eql_map_nil (P := Tryd.prog) W 26 9 32 r Tryd.underlying26
  have hlk := hm.look_ok (P := Tryd.prog) Tryd.underlying26 Tryd.underlying9 (isKey s) (Tryd.zeroValue32 _)
  rw [hf] at hlk
  simp only [Option.getD_none, Option.isSome_none] at hlk
  have HR := Lib.hid hr
  have HM := Lib.hid hm
  have HF := Lib.hid hf
  have HNE := Lib.hid hne
  clear hr hm hf hne
  go_enter Tryd.func7, Tryd.ntmps7
  go_wp2_with (refine wpList_mapUpdate_f _ rfl _ _ _ 26 rfl 9 32 _ Tryd.underlying26 Tryd.underlying9 g n f rfl HM.out (.string s) (.int .u32 1) rfl rfl (isKey s) ?_; intro w4 hm4 hg4 hs4; have HM4 := Lib.hid hm4; have HG4 := Lib.hid hg4; clear hm4 hg4 hs4)
  go_ret
  exact ⟨rfl, ⟨_, HR.out.grown HG4.out (fun e => HNE.out (by injection e)), HM4.out⟩, (Fr.of_below (Below.refl _ _)).grown HG4.out⟩
/-- In the loop: t numbers were tried. -/
def Lp (w : World) (k : Nat) (s5 : Value) (wr : World) : Prop := ∃ (t : Nat) (wv : World), wv = wr ∧ s5 = .int .u32 (t : Int) ∧ 1 ≤ t ∧ t ≤ k ∧ Below w.heap.size w wr
set_option maxHeartbeats 4000000 in
set_option maxRecDepth 100000 in
/-- A name that was used k times. -/
theorem next_rep (w : World) (p g n k : Nat) (s : ByteArray) (f : Value → Option Value) (hR : Ren w p g n f) (hT : Tab w) (hf : f (.string s) = some (.int .u32 1)) (hk1 : 1 ≤ k) (hk : k ≤ 2000) (hs : s.size ≤ 2000000)
    (hu : ∀ t, 2 ≤ t → t ≤ k → ∃ v, f (.string (s ++ num t)) = some v) (hz : f (.string (s ++ num (k + 1))) = none) :
    Calls Tryd.prog 7 #[.pointer (some ⟨p, 0, none⟩), .string s] w (Nx w p g f (s ++ num (k + 1)) (k + 1)) := by
  have hne := ren_ne hR
  obtain ⟨hr, hm⟩ := hR
  have hp := hr.lt
  have hg := hm.lt
  have c0 := hr.at_ (i := 0) rfl
  have qT := fun (W : World) (r : Option Nat) => run_eql_map_nil (P := Tryd.prog) W 26 9 32 r Tryd.underlying26
  have hlk := hm.look_ok (P := Tryd.prog) Tryd.underlying26 Tryd.underlying9 (isKey s) (Tryd.zeroValue32 _)
  rw [hf] at hlk
  simp only [Option.getD_some, Option.isSome_some] at hlk
  have HR := Lib.hid hr
  have HM := Lib.hid hm
  have HNE := Lib.hid hne
  have HT := Lib.hid hT
  have HU := Lib.hid hu
  have HZ := Lib.hid hz
  clear hr hm hf hne hT hu hz
  go_enter Tryd.func7, Tryd.ntmps7
  go_wp2_with fail
  clear hlk

  go_loopw [5] (fun s5 wr => Lp w k s5 wr) (fun s5 _ => k - (intOf s5).toNat)
  case atStart => exact ⟨1, _, rfl, rfl, Nat.le_refl _, hk1, Below.refl _ _⟩
  case round =>
    obtain ⟨t, wx, rfl, rfl, ht1, htk, hb⟩ := hrel
    have K10 := Lib.hid (itoa10 (t + 1) wx (by omega) (tab_later HT.out hb))
    have HB := Lib.hid hb
    have hns := num_size (t + 1)
    have hsz : s.size + (num (t + 1)).size ≤ 9223372036854775807 := by omega
    clear hb
    go_wp2_with fail
    refine K10.out.mono ?_
    rintro e w1 ⟨rfl, hb1⟩
    have hB1 := HB.out.trans (hb1.mono HB.out.size)
    have HB1 := Lib.hid hB1
    have hr1 := HR.out.below hB1 hp
    have hm1 := HM.out.below hB1 hg
    have d0 := hr1.at_ (i := 0) rfl
    have hlk := hm1.look_ok (P := Tryd.prog) Tryd.underlying26 Tryd.underlying9 (isKey (s ++ num (t + 1))) (Tryd.zeroValue32 _)
    have HR1 := Lib.hid hr1
    have HM1 := Lib.hid hm1
    clear hb1 hB1 hr1 hm1
    by_cases hlt : t < k
    · obtain ⟨v, hv⟩ := HU.out (t + 1) (by omega) (by omega)
      rw [hv] at hlk
      simp only [Option.getD_some, Option.isSome_some] at hlk
      clear hv
      go_wp2_with fail
      go_roundw
      case rel => exact ⟨t + 1, _, rfl, by go_num, by omega, by omega, HB1.out⟩
      case measure => simp [intOf]; omega
    · obtain rfl : t = k := by omega
      rw [HZ.out] at hlk
      simp only [Option.getD_none, Option.isSome_none] at hlk
      go_wp2_with (refine wpList_mapUpdate_f _ rfl _ _ _ 26 rfl 9 32 _ Tryd.underlying26 Tryd.underlying9 g n f rfl HM1.out (.string (s ++ num (t + 1))) (.int .u32 ((t : Int) + 1)) rfl rfl (isKey _) ?_; intro w4 hm4 hg4 hs4; have HM4 := Lib.hid hm4; have HG4 := Lib.hid hg4; clear hm4 hg4 hs4)
      go_ret
      exact ⟨rfl, ⟨_, HR1.out.grown HG4.out (fun e => HNE.out (by injection e)), HM4.out⟩, (Fr.of_below HB1.out).grown HG4.out⟩
end Go.Proofs.YtpagdibnhdfbfabDoor.NrA
