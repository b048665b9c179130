/- Semver.String. -/
import Derived.Test.YtpagdibnhdfbfadDoorRows
import Derived.Test.YtpagdibnhdfbfadDoorMem
import Derived.Test.YtpagdibnhdfbfadDoorSl
import Derived.Test.YtpagdibnhdfbfadDoorSem
import Derived.Test.YtpagdibnhdfbfadDoorShelf
import Derived.Test.YtpagdibnhdfbfadDoorBld
import Derived.Test.YtpagdibnhdfbfadDoorVars
import Derived.Lib.AppendIntMem
import Derived.Lib.ItoaMem
import Derived.WalkKit
import Derived.ProofKit
import Derived.OpenShut
import Derived.Below
import Derived.WalkLawsBesides
import Derived.Lib.Hide
import Derived.Outline
import Derived.RegionTactic
import Derived.Deep.QuietTactic
import Derived.BigQuiet
import Derived.WalkSpells
import Derived.Deep.OwnRows
import Derived.IntWalk
import Derived.Deep.DeepMust
namespace Go.Proofs.YtpagdibnhdfbfadDoor.SeA
open Go.RowKit Mem Sl
set_option linter.unusedVariables false
open Occ Smv

/-- The table that strconv.Itoa reads. -/
def Tab (w : World) : Prop := Lib.TabIs Tryd.prog w "internal/strconv.uint64pow10" .u64 Lib.pow10Tab
theorem tab_later {w w' : World} {g : Nat} (hg : Tryd.prog.globalNamed "internal/strconv.uint64pow10" = some g) (h : Tab w) (hb : Below w.heap.size w w') : Tab w' := Vars.var_below hg h hb
def num (t : Nat) : ByteArray := ⟨(Lib.decDigits t).toArray⟩
theorem itoa10 (t : Nat) (w : World) (ht : t ≤ 9223372036854775807) (hT : Tab w) : Calls Tryd.prog 10 #[.int .i64 (t : Int)] w fun e w' => e = .returned (.string (num t)) ∧ Below w.heap.size w w' := by
  refine (Tryd.strconv_Itoa t (by omega) (by omega) w hT).mono ?_
  rintro e w' ⟨rfl, k, os, rfl⟩
  exact ⟨by rw [Lib.itoa_nonneg]; rfl, Lib.below_grow _ w (Nat.le_refl _) k os⟩
theorem dec_le : ∀ (k n : Nat), n < 10 ^ (k + 1) → (Lib.decDigits n).length ≤ k + 1 := by
  intro k
  induction k with
  | zero => intro n h; simp at h; simp [dec_lt h]
  | succ k ih =>
    intro n h
    by_cases h0 : n < 10
    · simp [dec_lt h0]
    · rw [dec_ge h0]
      have := ih (n / 10) (by rw [Nat.pow_succ] at h; exact Nat.div_lt_of_lt_mul (by rw [Nat.mul_comm]; exact h))
      simp; omega
theorem jn_len : ∀ ps : List Nat, (∀ p ∈ ps, p ≤ 9223372036854775807) → (jn ps).length ≤ 20 * ps.length
  | [], _ => by simp [jn]
  | p :: r, h => by
    have h1 := dec_le 18 p (by have := h p (by simp); omega)
    have h2 := jn_len r (fun q hq => h q (by simp [hq]))
    rw [jn_cons]
    by_cases hr : r = []
    · subst hr; simp; omega
    · rw [if_neg hr]; simp; omega
theorem tab_at {w : World} (h : Tab w) : ∃ g, Tryd.prog.globalNamed "internal/strconv.uint64pow10" = some g := by
  cases hg : Tryd.prog.globalNamed "internal/strconv.uint64pow10" with
  | some g => exact ⟨g, rfl⟩
  | none => simp [Tab, Lib.TabIs, World.var?, hg] at h
theorem isb_later {w w' : World} {B b : Nat} {bs : List Value} (h : Lib.IsBuilderF 31 5 B b bs w) (hb : Below w.heap.size w w') : Lib.IsBuilderF 31 5 B b bs w' := by
  have one : ∀ p, Lib.BuilderAtF 31 5 B b p bs w → Lib.BuilderAtF 31 5 B b p bs w' := by
    rintro p ⟨h1, v, h2, h3, h4⟩
    refine ⟨h1, v, (hb.block b (Array.getElem?_eq_some_iff.1 h2).1).trans h2, h3.kept (row := none) ⟨hb.os, hb.tape, hb.output, hb.size, fun j hj _ => hb.block j hj⟩ ?_, h4⟩
    cases hv : v.ownBlock with
    | none => exact .inl rfl
    | some g => exact .inr (by simp)
  exact h.elim (fun x => .inl (one _ x)) (fun x => .inr (one _ x))
/-- The loop's relation: k parts are written. -/
def Rw (w : World) (b : Nat) (ps : List Nat) (s10 : Value) (wr : World) : Prop :=
  ∃ (k : Nat) (wv : World), wv = wr ∧ k ≤ ps.length ∧ s10 = .int .i64 (k : Int) ∧ Lib.IsBuilderF 31 5 b b (Lib.byteCells (jn (ps.take k))) wr ∧ Below b w wr
set_option maxHeartbeats 4000000 in
set_option maxRecDepth 100000 in
theorem string6 (A : Option Addr) (n c : Nat) (ps : List Nat) (pre : ByteArray) (w : World) (h : Args.IsInts .i64 w A n c (ps.map fun (p : Nat) => (p : Int))) (hn : n ≤ 131072) (hp : ∀ p ∈ ps, p ≤ 9223372036854775807) (hs : pre.size ≤ 1048576) (hT : Tab w) :
    Calls Tryd.prog 6 #[.agg #[.slice A n c, .string pre]] w fun e w' => e = .returned (.string ⟨(jn ps ++ pre.data.toList).toArray⟩) ∧ Below w.heap.size w w' := by
  have hlen : ps.length = n := by have := h.2.2.1; simpa using this
  have HI := Lib.hid h
  have HP := Lib.hid hp
  have HT := Lib.hid hT
  have HLEN := Lib.hid hlen
  clear h hp hT hlen
  obtain ⟨gT, hgT⟩ := tab_at HT.out
  obtain ⟨W2, hW2⟩ : ∃ W2, (w.alloc (.cells #[.slice A n c, .string pre] 26)).alloc (.cells #[.pointer none, .slice none 0 0] 31) = W2 := ⟨_, rfl⟩
  have hB2 : Below w.heap.size w W2 := by rw [← hW2]; exact ((Below.refl _ _).alloc (Nat.le_refl _) _).alloc (by simp) _
  have hr2 : Row W2 w.heap.size 26 [.slice A n c, .string pre] := by rw [← hW2]; exact (Row.newArr w 26 #[.slice A n c, .string pre]).alloc _
  have hb2 : Lib.IsBuilderF 31 5 (w.heap.size + 1) (w.heap.size + 1) [] W2 := by
    refine .inl ⟨Nat.le_refl _, .slice none 0 0, ?_, World.ownsRowF_of (World.ownsRow_nil W2 _ 5 1), by simp [Value.ownBlock]⟩
    rw [← hW2]
    have := Row.newArr (w.alloc (.cells #[.slice A n c, .string pre] 26)) 31 #[.pointer none, .slice none 0 0]
    simpa [Row] using this
  have hz2 : W2.heap.size = w.heap.size + 2 := by rw [← hW2]; simp
  have HW := Lib.hid hW2
  have HB2 := Lib.hid hB2
  have HR2 := Lib.hid hr2
  have HBD := Lib.hid hb2
  have HZ := Lib.hid hz2
  have HGT := Lib.hid hgT
  clear hW2 hB2 hr2 hb2 hz2 hgT
  go_enter Tryd.func6, Tryd.ntmps6
  go_wp2_with fail
  rw [HW.out]
  go_loopw [10] (fun s10 wr => Rw W2 (w.heap.size + 1) ps s10 wr) (fun s10 _ => n - (intOf s10).toNat)
  case atStart => exact ⟨0, _, rfl, Nat.zero_le _, rfl, HBD.out, Below.refl _ _⟩
  case round =>
    obtain ⟨k, wk, rfl, hk, rfl, hbd, hbl⟩ := hrel
    have hsz : w.heap.size + 1 ≤ wk.heap.size := by have := hbl.size; have := HZ.out; omega
    have hBw := HB2.out.trans (hbl.mono (by omega : w.heap.size ≤ w.heap.size + 1))
    have hjl := jn_len (ps.take k) (fun p hp => HP.out p (List.mem_of_mem_take hp))
    have hpl := HLEN.out
    rw [List.length_take] at hjl
    by_cases hlt : k < n
    · have hkl : k < ps.length := by omega
      obtain ⟨b0, o0, ha, hb0, hcell⟩ := (HI.out.later hBw).read k hlt
      obtain ⟨p, hpk⟩ : ∃ p, ps[k] = p := ⟨_, rfl⟩
      have hpv : (ps.map fun (p : Nat) => (p : Int)).getD k 0 = (p : Int) := by simp [List.getD, hkl, hpk]
      rw [hpv] at hcell
      have hpm := HP.out p (by rw [← hpk]; exact List.getElem_mem _)
      have hdl := dec_le 18 p (by omega)
      subst ha
      have HJ := Lib.hid (jn_take ps k hkl)
      rw [hpk] at HJ
      have HBD' := Lib.hid hbd
      have HBL := Lib.hid hbl
      have HBW := Lib.hid hBw
      clear hbd hbl hBw hpv hpk hpl hkl
      by_cases hk0 : k = 0
      · subst hk0
        rw [Nat.add_zero] at hcell
        have HBE : Hid (Lib.IsBuilderF 31 5 (w.heap.size + 1) (w.heap.size + 1) [] wk) := HBD'
        clear HBD'
        go_wp2_with fail
        refine (Tryd.Builder_Len_f _ _ _ wk HBE.out).mono ?_
        rintro e w' ⟨rfl, rfl⟩
        go_wp2_with fail
        refine (itoa10 p _ hpm (tab_later HGT.out HT.out HBW.out)).mono ?_
        rintro e w3 ⟨rfl, hb3⟩
        have K9 := Lib.hid (Tryd.write_string _ _ _ (num p) w3 (isb_later HBE.out hb3) (by show 0 + (Lib.decDigits p).length ≤ _; omega) (by have := hb3.size; omega))
        have HB3 := Lib.hid (HBL.out.trans (hb3.mono hsz))
        clear hb3
        go_wp2_with fail
        refine K9.out.mono ?_
        rintro e w4 ⟨rfl, hbd4, hb4, -⟩
        have HBD4 := Lib.hid hbd4
        have HB4 := Lib.hid (HB3.out.trans hb4)
        clear hbd4 hb4
        go_wp2_with fail
        go_roundw
        case rel => exact ⟨0 + 1, _, rfl, by have := HLEN.out; omega, by go_num, .inr (by rw [HJ.out]; simp only [if_true]; exact HBD4.out), HB4.out⟩
        case measure => simp [intOf]; omega
      · have hne : jn (ps.take k) ≠ [] := by
          rw [Ne, jn_nil_iff]
          intro e
          have := congrArg List.length e
          simp only [List.length_take, List.length_nil] at this
          have := HLEN.out
          omega
        have hpos := List.length_pos_iff.2 hne
        have hbcl := Lib.byteCells_length (jn (ps.take k))
        obtain ⟨L, hL⟩ : ∃ L, jn (ps.take k) = L := ⟨_, rfl⟩
        rw [hL] at HBD' HJ hjl hpos hbcl
        have K7 := Lib.hid (Tryd.Builder_Len_f _ _ _ wk HBD'.out)
        rw [hbcl] at K7
        have HRC := Lib.hid (show Lib.runeCells 46 = Lib.byteCells [46] by kernel_rfl)
        have K8 := Lib.hid (Tryd.write_rune _ _ _ 46 (by omega) (by omega) wk HBD'.out (by rw [hbcl]; omega) hsz)
        rw [HRC.out, ← Lib.byteCells_append] at K8
        have hl2 : (Lib.byteCells (L ++ [46])).length ≤ 3000000 := by rw [Lib.byteCells_length]; simp; omega
        have HL2 := Lib.hid hl2
        clear hne hbcl hL hl2
        go_wp2_with fail
        refine K7.out.mono ?_
        rintro e w' ⟨rfl, rfl⟩
        go_wp2_with fail
        refine K8.out.mono ?_
        rintro e w2 ⟨rfl, hbd2, hb2, -⟩
        have HBX := Lib.hid (show Lib.IsBuilderF 31 5 (w.heap.size + 1) (w.heap.size + 1) _ w2 from .inr hbd2)
        have hsz2 : w.heap.size + 1 ≤ w2.heap.size := by have := hb2.size; omega
        have HB2' := Lib.hid (HBL.out.trans hb2)
        have HBW2 := Lib.hid (HBW.out.trans (hb2.mono (by omega : w.heap.size ≤ w.heap.size + 1)))
        clear hbd2 hb2
        go_wp2_with fail
        refine (itoa10 p _ hpm (tab_later HGT.out HT.out HBW2.out)).mono ?_
        rintro e w3 ⟨rfl, hb3⟩
        have K9 := Lib.hid (Tryd.write_string _ _ _ (num p) w3 (isb_later HBX.out hb3) (by have h1 := HL2.out; have h2 : (num p).size = (Lib.decDigits p).length := rfl; omega) (by have := hb3.size; omega))
        have HB3 := Lib.hid (HB2'.out.trans (hb3.mono hsz2))
        clear hb3
        go_wp2_with fail
        refine K9.out.mono ?_
        rintro e w4 ⟨rfl, hbd4, hb4, -⟩
        have HBD4 := Lib.hid hbd4
        have HB4 := Lib.hid (HB3.out.trans hb4)
        clear hbd4 hb4
        go_wp2_with fail
        go_roundw
        case rel => exact ⟨k + 1, _, rfl, by have := HLEN.out; omega, by go_num, .inr (by rw [HJ.out, if_neg hk0]; have h := HBD4.out; have e : Lib.byteCells (L ++ 46 :: Lib.decDigits p) = Lib.byteCells (L ++ [46]) ++ Lib.strCells (num p) := (by rw [Lib.strCells_eq, ← Lib.byteCells_append]; first | rfl | (simp [num]; done)); rw [e]; exact h), HB4.out⟩
        case measure => simp [intOf]; omega
    · obtain rfl : k = n := by omega
      have ht : ps.take k = ps := List.take_of_length_le (by have := HLEN.out; omega)
      rw [ht] at hbd
      have hr := HR2.out.below hbl (by omega)
      have c1 := hr.at_ (i := 1) rfl
      have hjl2 := jn_len ps HP.out
      have K9 := Lib.hid (Tryd.write_string _ _ _ pre wk hbd (by rw [Lib.byteCells_length]; omega) hsz)
      rw [Lib.strCells_eq, ← Lib.byteCells_append] at K9
      have HBW := Lib.hid hBw
      clear hbd hr ht hbl hBw
      go_wp2_with fail
      refine K9.out.mono ?_
      rintro e w3 ⟨rfl, hbd3, hb3, -⟩
      have K11 := Lib.hid (Tryd.Builder_String_any_k _ _ _ w3 (.inr hbd3) (by have := hb3.size; omega))
      have HBW3 := Lib.hid (HBW.out.trans (hb3.mono (by omega : w.heap.size ≤ w.heap.size + 1)))
      clear hbd3 hb3
      go_wp2_with fail
      refine K11.out.mono ?_
      rintro e w4 ⟨rfl, -, hb4, -⟩
      have HBW4 := Lib.hid (HBW3.out.trans (hb4.mono (by omega : w.heap.size ≤ w.heap.size + 1)))
      clear hb4
      go_wp2_with fail
      go_ret
      exact ⟨rfl, HBW4.out⟩
end Go.Proofs.YtpagdibnhdfbfadDoor.SeA
