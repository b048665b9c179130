/- FnPrintIdentAsciiEscapesExact: the law. -/
import Derived.Test.YtmhiekokjogkhaaFmtRows
import Derived.Test.YtmhiekokjogkhaaFmtMem
import Derived.Test.YtmhiekokjogkhaaFmtSl
import Derived.Test.YtmhiekokjogkhaaFmtIdF
import Derived.Great.BuildSlice
import Derived.Laws.CopyOwn
import Derived.WalkKit
import Derived.ProofKit
import Derived.OpenShut
import Derived.Below
import Derived.WalkLawsBesides
import Derived.Lib.Hide
import Derived.Outline
import Derived.RegionTactic
import Derived.Deep.QuietTactic
import Derived.BigQuiet
import Derived.WalkSpells
import Derived.Deep.OwnRows
import Derived.IntWalk
import Derived.Deep.DeepMust
namespace Go.Proofs.YtmhiekokjogkhaaFmt.IdG
open Go.RowKit Mem Sl
set_option linter.unusedVariables false
open Prn Pru Idn Str IdA IdB IdC IdD IdE IdF Own

theorem copy6_info : (Tryf.prog.info? 5).map (fun i => (i.zero, i.size, i.bytes)) = some (some (.int .u8 0), 1, 1) := by kernel_rfl
theorem copy6_sz : (Tryf.prog.info? 5).map (·.size) = some 1 := by kernel_rfl
set_option maxRecDepth 100000 in
set_option maxHeartbeats 400000 in
theorem copy6 (A : Option Addr) (n c : Nat) (zs : List Int) (w : World) (h : Args.IsInts .u8 w A n c zs) (hn : n ≤ 1048576) :
    Calls Tryf.prog 6 #[.slice A n c] w fun e w' => Cloned .u8 5 w A n zs e w' := by
  have heq := fun (W : World) (X : Option Addr) (l cc : Nat) => Lib.run_eql_slice_nil (P := Tryf.prog) W 22 5 X l cc 0 0 Tryf.underlying22
  rcases A with _ | a
  · obtain ⟨h1, h2, h3, h4, h5, h6⟩ := h
    have hc := h5 rfl
    obtain rfl : n = 0 := by omega
    obtain rfl : zs = [] := List.eq_nil_of_length_eq_zero h3
    go_enter Tryf.func6, Tryf.ntmps6
    go_wp2
    go_ret
    exact ⟨_, rfl, .inl ⟨rfl, rfl, rfl⟩⟩
  · have hmk := fun W => run_make_row' (P := Tryf.prog) 22 5 (.int .u8 0) 1 Tryf.underlying22 copy6_info rfl .i64 .i64 n (by omega) (by omega) W
    have hlen := h.2.2.1
    have hrow := made_row w 5 (.int .u8 0) n
    have HB := Lib.hid ((Below.refl w.heap.size w).alloc (Nat.le_refl _) (.cells (madeCells #[.int .u8 0] n) 5))
    have H := Lib.hid h
    clear h
    rcases Nat.eq_zero_or_pos n with h0 | h0
    · subst h0
      obtain rfl : zs = [] := List.eq_nil_of_length_eq_zero hlen
      have HR := Lib.hid hrow
      have hmk0 : ∀ W, (Instr.makeSlice 22 (.int .i64 0) (.int .i64 0)).run Tryf.prog W = .ok (.slice (some ⟨W.heap.size, 0, none⟩) 0 0) (W.alloc (.cells (madeCells #[.int .u8 0] 0) 5)) := fun W => hmk W
      clear hrow hlen hmk
      go_enter Tryf.func6, Tryf.ntmps6
      go_wp2_with (refine wpList_copy_nothing rfl (.tmp 9) (.tmp 10) 22 22 rfl 5 Tryf.underlying22 copy6_sz (some ⟨w.heap.size, 0, none⟩) (some a) 0 0 0 c rfl rfl rfl ?_)
      go_ret
      exact ⟨_, rfl, .inr ⟨by simp, rfl, HR.out, HB.out, by simp⟩⟩
    · obtain ⟨b, off, ha, hb, hcell⟩ := H.out.2.2.2.2.2 (Nat.lt_of_lt_of_le h0 H.out.1)
      injection ha with ha
      subst ha
      have hsrc : ∀ j v, (iv .u8 zs)[j]? = some v → (w.alloc (.cells (madeCells #[.int .u8 0] n) 5)).cell? ((⟨b, off, none⟩ : Addr).add j) = some v := by
        intro j v hv
        have hj : j < zs.length := by have := (List.getElem?_eq_some_iff.1 hv).1; rwa [iv_length] at this
        rw [iv_at .u8 zs j hj] at hv
        have hadd : (⟨b, off, none⟩ : Addr).add j = ⟨b, off + j, none⟩ := by unfold Addr.add; split <;> simp_all
        rw [hadd, World.cell?_alloc_lt _ _ _ hb, hcell j (by omega), hv]
      have HSRC := Lib.hid hsrc
      have HL := Lib.hid hlen
      clear hsrc hrow hcell hlen
      go_enter Tryf.func6, Tryf.ntmps6
      go_wp2_with (refine wpList_copy_own rfl (.tmp 9) (.tmp 10) 22 22 rfl 5 Tryf.underlying22 copy6_sz w.heap.size 0 n n ⟨b, off, none⟩ n c rfl rfl (madeCells #[.int .u8 0] n) 5 (heap_alloc_new w _) (iv .u8 zs) (by rw [iv_length, HL.out]; exact (Nat.min_self n).symm) HSRC.out (by rw [size_madeCells, iv_length, HL.out]; omega) (by intro v hv; simp [iv] at hv; obtain ⟨x, _, rfl⟩ := hv; rfl) ?_)
      go_ret
      refine ⟨_, rfl, .inr ⟨by simp, rfl, ?_, below_setRow HB.out (Nat.le_refl _) _, by simp⟩⟩
      have hs := setRow_heap (w.alloc (.cells (madeCells #[.int .u8 0] n) 5)) w.heap.size (madeCells #[.int .u8 0] n) ((madeCells #[.int .u8 0] n).toList.take 0 ++ (iv .u8 zs ++ (madeCells #[.int .u8 0] n).toList.drop (0 + (iv .u8 zs).length))).toArray 5 (0, 0) (heap_alloc_new w _)
      have e1 : (madeCells #[.int .u8 0] n).toList.take 0 ++ (iv .u8 zs ++ (madeCells #[.int .u8 0] n).toList.drop (0 + (iv .u8 zs).length)) = iv .u8 zs := by
        rw [List.drop_of_length_le (by rw [Array.length_toList, size_madeCells, iv_length, HL.out]; omega)]; simp
      rw [e1] at hs
      have e2 : (iv .u8 zs ++ List.drop (iv .u8 zs).length (madeCells #[.int .u8 0] n).toList) = iv .u8 zs := by simpa using e1
      simpa [Row, e2] using hs

set_option maxHeartbeats 400000 in
theorem eq11 (A B : Option Addr) (n c d : Nat) (zs : List Int) (w : World) (h : Args.IsInts .u8 w A n c zs) (h' : Args.IsInts .u8 w B n d zs) (hn : n ≤ 4194304) :
    Calls Tryf.prog 11 #[.slice A n c, .slice B n d] w fun e w' => e = .returned (.bool true) ∧ ∃ m, w' = w.drewN m := by
  have HR := Lib.hid (fun k => h.read k)
  have HR' := Lib.hid (fun k => h'.read k)
  have hne : ((n : Int) != (n : Int)) = false := by simp
  clear h h'
  go_enter Tryf.func11, Tryf.ntmps11
  go_wp2
  go_loopw [5] (fun i wr => ∃ k m : Nat, k ≤ n ∧ i = .int .i64 k ∧ wr = w.drewN m) (fun i _ => n - (intOf i).toNat)
  case atStart => exact ⟨0, 0, Nat.zero_le _, rfl, rfl⟩
  case round =>
    obtain ⟨k, m, hk, rfl, rfl⟩ := hrel
    by_cases hlt : k < n
    · obtain ⟨b, off, ha, hb, hcell⟩ := HR.out k hlt
      obtain ⟨b', off', ha', hb', hcell'⟩ := HR'.out k hlt
      subst ha ha'
      obtain ⟨x, hx⟩ : ∃ x, x = zs.getD k 0 := ⟨_, rfl⟩
      rw [← hx] at hcell hcell'
      clear hx
      have hxx : (x != x) = false := by simp
      go_wp2
      go_quiet (fail)
      go_wp2
      go_roundw
      case rel => exact ⟨k + 1, m + nq, by omega, by go_num, by simp⟩
      case measure => simp [intOf]; omega
    · go_wp2
      go_ret
      exact ⟨rfl, m, rfl⟩

set_option maxHeartbeats 1000000 in
theorem bytes4 (A0 : Option Addr) (n0 c0 : Nat) (y1 : ByteArray) (y2 : Bool) (y3 : Int) (w : World) (m0 : n0 ≤ maxLen) (m1 : y1.size ≤ maxLen) : Calls Tryf.prog 4 #[.slice A0 n0 c0, .string y1, .bool y2, .int .u8 y3] w fun e w' => e = .returned (.bool (decide (n0 + y1.size ≤ 1048576))) ∧ w = w' := by
  unfold maxLen at *
  by_cases h0 : n0 ≤ 1048576
  case neg =>
    go_enter Tryf.func4, Tryf.ntmps4
    go_wp2_with fail
    go_ret
    exact ⟨congrArg (fun b => Ending.returned (Value.bool b)) (show false = decide (n0 + y1.size ≤ 1048576) by symm; simp; omega), rfl⟩
  by_cases h1 : y1.size ≤ 1048576
  case neg =>
    go_enter Tryf.func4, Tryf.ntmps4
    go_wp2_with fail
    go_ret
    exact ⟨congrArg (fun b => Ending.returned (Value.bool b)) (show false = decide (n0 + y1.size ≤ 1048576) by symm; simp; omega), rfl⟩
  by_cases g1 : n0 + y1.size ≤ 1048576
  case neg =>
    go_enter Tryf.func4, Tryf.ntmps4
    go_wp2_with fail
    go_ret
    exact ⟨congrArg (fun b => Ending.returned (Value.bool b)) (show false = decide (n0 + y1.size ≤ 1048576) by symm; simp; omega), rfl⟩
  go_enter Tryf.func4, Tryf.ntmps4
  go_wp2_with fail
  go_ret
  exact ⟨congrArg (fun b => Ending.returned (Value.bool b)) (show true = decide (n0 + y1.size ≤ 1048576) by symm; simp; omega), rfl⟩

theorem id13 (p : Nat) (cs : List Value) (v : Value) (zs : List Int) (s : ByteArray) (f : Int) (ao : Bool) (w : World) (h : Pr w p 61 15 5 cs v zs) (hao : cs[7]? = some (.bool ao)) (hs : s.size ≤ 1048576) (hb : zs.length ≤ 1048576) (hD : Dom s) :
    Calls Tryf.prog 13 #[.pointer (some ⟨p, 0, none⟩), .string s, .int .u8 0, .int .u8 f] w fun e w' => e = .returned (.tuple #[]) ∧ Printed w p 61 15 5 cs v (zs ++ outK (startB (nums s)) (nums s) s.size) w' := by
  cases hst : startB (nums s)
  · exact id13_f p cs v zs s f ao w h hao hs hb hD hst
  · by_cases hall : ∀ k, k < s.size → nameB ((nums s).getD k 0) = true
    · exact id13_ok p cs v zs s f ao w h hao hs hb hD hst hall
    · have hex : ∃ m, m < s.size ∧ nameB ((nums s).getD m 0) = false := by
        apply Classical.byContradiction
        intro hno
        apply hall
        intro k hk
        cases hb : nameB ((nums s).getD k 0) with
        | true => rfl
        | false => exact absurd ⟨k, hk, hb⟩ hno
      have hmin : ∀ n, (∃ m, m < n ∧ m < s.size ∧ nameB ((nums s).getD m 0) = false) → ∃ m, m < s.size ∧ nameB ((nums s).getD m 0) = false ∧ ∀ k, k < m → nameB ((nums s).getD k 0) = true := by
        intro n
        induction n with
        | zero => rintro ⟨m, h, _⟩; omega
        | succ n ih =>
          rintro ⟨m, h1, h2, h3⟩
          by_cases hl : ∃ j, j < n ∧ j < s.size ∧ nameB ((nums s).getD j 0) = false
          · exact ih hl
          · refine ⟨m, h2, h3, fun k hk => ?_⟩
            cases hb : nameB ((nums s).getD k 0) with
            | true => rfl
            | false => exact absurd ⟨k, by omega, by omega, hb⟩ hl
      obtain ⟨m0, hm0, hb0⟩ := hex
      obtain ⟨m, hm, hf, hk⟩ := hmin (m0 + 1) ⟨m0, by omega, hm0, hb0⟩
      exact id13_t p cs v zs s f ao w h hao hs hb hD hst m hm fun k => ⟨hk k, fun e => by subst e; exact hf⟩
theorem norm8 (p : Nat) (cs : List Value) (v : Value) (zs : List Int) (s : ByteArray) (f : Int) (ao : Bool) (w : World) (h : Pr w p 61 15 5 cs v zs) (hao : cs[7]? = some (.bool ao)) (hs : s.size ≤ 1048576) (hb : zs.length ≤ 1048576) (hD : Dom s) :
    Calls Tryf.prog 8 #[.pointer (some ⟨p, 0, none⟩), .string s, .int .u8 f] w fun e w' => e = .returned (.tuple #[]) ∧ Printed w p 61 15 5 cs v (zs ++ outK (startB (nums s)) (nums s) s.size) w' := by
  have H := Lib.hid (id13 p cs v zs s f ao w h hao hs hb hD)
  clear h hao hb hD
  go_enter Tryf.func8, Tryf.ntmps8
  go_wp2_with fail
  refine H.out.mono ?_
  rintro e w1 ⟨rfl, hp⟩
  have HP := Lib.hid hp
  clear hp
  go_wp2_with fail
  go_end0
  exact ⟨rfl, HP.out⟩
noncomputable def zo : Array Value := match (Tryf.prog.info? 43).bind (fun i => i.zero) with | some (.agg cs) => cs | _ => #[]
noncomputable def zp : Array Value := match (Tryf.prog.info? 61).bind (fun i => i.zero) with | some (.agg cs) => cs | _ => #[]
noncomputable def opt (ao : Bool) : Array Value := ((zo.setIfInBounds 3 (.int .i64 0)).setIfInBounds 6 (.bool false)).setIfInBounds 7 (.bool ao)
noncomputable def prn (v : Value) (ao : Bool) : Array Value := (zp.setIfInBounds 15 v).setIfInBounds 7 (.bool ao)
theorem prn15 (v : Value) (ao : Bool) : (prn v ao)[15]? = some v := by kernel_rfl
theorem prn7 (v : Value) (ao : Bool) : (prn v ao)[7]? = some (.bool ao) := by kernel_rfl
set_option maxRecDepth 100000 in
theorem new7 (A : Option Addr) (n c : Nat) (ao : Bool) (w : World) :
    Calls Tryf.prog 7 #[.slice A n c, .int .i64 0, .bool false, .bool ao] w fun e w' => e = .returned (.pointer (some ⟨w.heap.size, 0, none⟩)) ∧ w.alloc (.cells (prn (.slice A n c) ao) 61) = w' := by
  go_enter Tryf.func7, Tryf.ntmps7
  go_wp2_with (first | (refine wpList_buildTo rfl 43 _ rfl (some 12) rfl (opt ao) (by kernel_rfl) ?_) | (refine wpList_buildTo rfl 61 _ rfl (some 14) rfl (prn (.slice A n c) ao) (by kernel_rfl) ?_))
  go_ret
  exact ⟨rfl, rfl⟩
theorem css9 (p : Nat) (v : Value) (w : World) (h : w.cell? ⟨p, 15, none⟩ = some v) : Calls Tryf.prog 9 #[.pointer (some ⟨p, 0, none⟩)] w fun e w' => e = .returned v ∧ w = w' := by
  go_enter Tryf.func9, Tryf.ntmps9
  go_wp2
  go_ret
  exact ⟨rfl, rfl⟩
/-- What a clone of bytes is good for. -/
structure Cl (w : World) (n : Nat) (zs : List Int) (A' : Option Addr) (c' : Nat) (w' : World) : Prop where
  ints : Args.IsInts .u8 w' A' n c' zs
  buf : Buf w' 5 (.slice A' n c') zs
  low : ∀ g, Value.ownBlock (.slice A' n c') = some g → w.heap.size ≤ g
  bel : Below w.heap.size w w'
theorem cl_of {w w' : World} {A : Option Addr} {n c : Nat} {zs : List Int} {e : Ending} (h : Args.IsInts .u8 w A n c zs) (hc : Cloned .u8 5 w A n zs e w') : ∃ A' c', e = .returned (.slice A' n c') ∧ Cl w n zs A' c' w' := by
  obtain ⟨v, rfl, hc⟩ := hc
  obtain ⟨h1, h2, h3, h4, h5, h6⟩ := h
  rcases hc with ⟨rfl, rfl, rfl⟩ | ⟨_, rfl, hr, hb, _⟩
  · have hc := h5 rfl
    subst hc
    obtain rfl : n = 0 := by omega
    obtain rfl : zs = [] := List.eq_nil_of_length_eq_zero h3
    exact ⟨none, 0, rfl, ⟨h1, h2, h3, h4, h5, h6⟩, buf_nil _ _, by simp [Value.ownBlock], Below.refl _ _⟩
  · subst h3
    refine ⟨_, _, rfl, ints_of_row hr (Nat.le_trans h1 h2) h4, buf_of_row hr (Nat.le_trans h1 h2), ?_, hb⟩
    intro g hg
    have : w.heap.size = g := by simpa [Value.ownBlock] using hg
    omega
theorem grown_low {w w' : World} {v : Value} {B : Nat} (hg : w.grownBy w' v.ownBlock) (hl : ∀ g, v.ownBlock = some g → B ≤ g) (hB : B ≤ w.heap.size) : Below B w w' :=
  ⟨hg.os, hg.tape, hg.output, hg.size, fun i hi => hg.block i (by omega) (fun e => by have := hl i e.symm; omega)⟩
theorem outK_wf (st : Bool) (s : ByteArray) : ∀ k, k ≤ s.size → ∀ z ∈ outK st (nums s) k, (Lit.int .u8 z).wf = true
  | 0, _, z, hz => by simp [outK] at hz
  | k + 1, hk, z, hz => by
    simp only [outK, List.mem_append, List.mem_singleton] at hz
    rcases hz with hz | hz | hz
    · exact outK_wf st s k (by omega) z hz
    · split at hz
      · simp at hz; subst hz; rfl
      · simp at hz
    · subst hz
      apply nums_wf s
      have hl : k < (nums s).length := by rw [nums_length]; omega
      rw [getD_at _ _ hl]
      exact List.getElem_mem _
/-- The model's slice as bytes that are read. -/
theorem mdl_ints {w w' : World} {st : Bool} {s : ByteArray} {v : Value} (h0 : s.size = 0 → v = .slice (some ⟨w.heap.size, 0, none⟩) 0 (2 * s.size)) (ho : Own w' w.heap.size 5 .u8 v (outK st (nums s) s.size)) :
    ∃ ad c, v = .slice (some ad) (outK st (nums s) s.size).length c ∧ ∀ j, j < (outK st (nums s) s.size).length → w'.cell? (ad.add j) = some (.int .u8 ((outK st (nums s) s.size).getD j 0)) := by
  by_cases z : s.size = 0
  · have hl : (outK st (nums s) s.size).length = 0 := by rw [z]; rfl
    refine ⟨_, _, by rw [h0 z, hl], fun j hj => by omega⟩
  · obtain ⟨A, c, rfl, hi⟩ := ho.ints (outK_wf st s s.size (Nat.le_refl _))
    have hpos : 0 < (outK st (nums s) s.size).length := by
      obtain ⟨k, hk⟩ : ∃ k, s.size = k + 1 := ⟨s.size - 1, by omega⟩
      rw [hk]
      simp [outK]
      omega
    obtain ⟨b, off, rfl, hb, hc⟩ := hi.2.2.2.2.2 (Nat.lt_of_lt_of_le hpos hi.1)
    refine ⟨_, _, rfl, fun j hj => ?_⟩
    have hadd : (⟨b, off, none⟩ : Addr).add j = ⟨b, off + j, none⟩ := by unfold Addr.add; split <;> simp_all
    rw [hadd, hc j hj]
set_option maxHeartbeats 4000000 in
set_option maxRecDepth 100000 in
theorem law (A0 : Option Addr) (n0 c0 : Nat) (z0 : List Int) (a1 : ByteArray) (a2 : Bool) (a3 : Int) (w : World) (w0 : Args.IsInts .u8 w A0 n0 c0 z0) (w1 : a1.size ≤ maxLen) (w3 : (Lit.int .u8 a3).wf = true) (_hT : True) :
    Calls Tryf.prog 3 #[.slice A0 n0 c0, .string a1, .bool a2, .int .u8 a3] w fun e w' => e = .returned (.bool true) ∧ Below w.heap.size w w' := by
  obtain ⟨i0, hi, hz0, hz1, hz2⟩ := info_parts info5
  have hm : n0 ≤ maxLen := Nat.le_trans w0.1 w0.2.1
  have H4 := Lib.hid (bytes4 A0 n0 c0 a1 a2 a3 w hm w1)
  unfold maxLen at hm w1
  have HI := Lib.hid w0
  have HLEN := Lib.hid w0.2.2.1
  clear w0 w3
  go_enter Tryf.func3, Tryf.ntmps3
  go_wp2_with fail
  refine H4.out.mono ?_
  rintro e wx ⟨rfl, rfl⟩
  by_cases h4 : n0 + a1.size ≤ 1048576
  case neg =>
    have t4 : decide (n0 + a1.size ≤ 1048576) = false := by simp; omega
    rw [t4]
    go_wp2_with fail
    go_ret
    exact ⟨rfl, Below.refl _ _⟩
  have t4 : decide (n0 + a1.size ≤ 1048576) = true := by simp; omega
  rw [t4]
  clear t4
  have u1 : decide (1048576 < (n0 : Int)) = false := by simp; omega
  have u2 : decide (1048576 < (a1.size : Int)) = false := by simp; omega
  have u3 : decide (1048576 < (n0 : Int) + (a1.size : Int)) = false := by simp; omega
  go_wp2_with fail
  refine (dom5 a1 w (by omega)).mono ?_
  rintro e wx ⟨b, rfl, hD, rfl⟩
  cases b
  case false =>
    clear hD
    go_wp2_with fail
    go_ret
    exact ⟨rfl, Below.refl _ _⟩
  have HD := Lib.hid (hD rfl)
  clear hD u1 u2 u3
  go_wp2_with fail
  refine (copy6 A0 n0 c0 z0 w HI.out (by omega)).mono ?_
  intro e W1 hcl
  obtain ⟨A1, c1, rfl, h1⟩ := cl_of HI.out hcl
  have H1 := Lib.hid h1
  clear hcl h1
  go_wp2_with fail
  refine (copy6 A1 n0 c1 z0 W1 H1.out.ints (by omega)).mono ?_
  intro e W2 hcl
  obtain ⟨A2, c2, rfl, h2⟩ := cl_of H1.out.ints hcl
  have H2 := Lib.hid h2
  clear hcl h2
  go_wp2_with fail
  refine (new7 A2 n0 c2 a2 W2).mono ?_
  rintro e W3 ⟨rfl, hw3⟩
  have hpr : Pr W3 W2.heap.size 61 15 5 (prn (.slice A2 n0 c2) a2).toList (.slice A2 n0 c2) z0 := by
    rw [← hw3]
    exact ⟨Row.newArr _ _ _, by rw [Array.getElem?_toList]; exact prn15 _ _, H2.out.buf.below ((Below.refl _ _).alloc (Nat.le_refl _) _) (Nat.le_refl _)⟩
  have HPR := Lib.hid hpr
  have HB3 := Lib.hid (show Below W2.heap.size W2 W3 by rw [← hw3]; exact (Below.refl _ _).alloc (Nat.le_refl _) _)
  have HS3 := Lib.hid (show W3.heap.size = W2.heap.size + 1 by rw [← hw3]; simp)
  clear hw3 hpr
  go_wp2_with fail
  refine (norm8 W2.heap.size _ _ z0 a1 a3 a2 W3 HPR.out (by rw [Array.getElem?_toList]; exact prn7 _ _) (by omega) (by have := HLEN.out; omega) HD.out).mono ?_
  rintro e W4 ⟨rfl, hpd⟩
  obtain ⟨v4, hp4, hs4⟩ := hpd
  have HP4 := Lib.hid hp4
  have HS4 := Lib.hid hs4
  have HB4 := Lib.hid (hs4.below (B := W1.heap.size) H2.out.bel.size H2.out.low (by have := HS3.out; have := H2.out.bel.size; omega))
  have c15 := hp4.row.at_ hp4.at_
  clear hp4 hs4
  go_wp2_with fail
  refine (css9 W2.heap.size v4 W4 c15).mono ?_
  rintro e wx ⟨rfl, rfl⟩
  clear c15
  have HI4 := Lib.hid (H1.out.ints.later ((H2.out.bel.trans (HB3.out.mono H2.out.bel.size)).trans HB4.out))
  go_wp2_with fail
  refine (copy6 A1 n0 c1 z0 W4 HI4.out (by omega)).mono ?_
  intro e W5 hcl
  obtain ⟨A5, c5, rfl, h5⟩ := cl_of HI4.out hcl
  have H5 := Lib.hid h5
  clear hcl h5
  go_wp2_with fail
  refine (model10 a1 W5 (by omega)).mono ?_
  rintro e W6 ⟨vm, rfl, hvm0, hvm, hb6⟩
  obtain ⟨ad, cm, hvmE, hcm⟩ := mdl_ints hvm0 hvm
  obtain ⟨L, hL⟩ : ∃ L, (outK (startB (nums a1)) (nums a1) a1.size).length = L := ⟨_, rfl⟩
  rw [hL] at hvmE hcm
  subst hvmE
  have HCM := Lib.hid hcm
  have HB6 := Lib.hid hb6
  have HL := Lib.hid hL
  have HL2 := Lib.hid (show L ≤ 2097152 by have := outK_len (startB (nums a1)) (nums a1) a1.size; omega)
  have HB5 := Lib.hid (H5.out.buf.below hb6 (Nat.le_refl _))
  clear hvm0 hvm hb6 hcm hL
  go_wp2_with (at_builtin; refine wpList_append_buf _ rfl (.tmp 48) (.tmp 50) 22 rfl 5 i0 Tryf.underlying22 hi hz0 hz1 hz2 (.slice A5 n0 c5) z0 rfl HB5.out ad L cm (outK (startB (nums a1)) (nums a1) a1.size) rfl HL.out HCM.out (by have := HL2.out; have := HLEN.out; omega) ?_; intro A7 n7 c7 W7 hbuf hgr hat; have HBF := Lib.hid hbuf; have HGR := Lib.hid hgr; clear hbuf hgr hat)
  have hwf : ∀ z ∈ z0 ++ outK (startB (nums a1)) (nums a1) a1.size, (Lit.int .u8 z).wf = true := by
    intro z hz
    rcases List.mem_append.1 hz with hz | hz
    · exact HI.out.2.2.2.1 z hz
    · exact outK_wf _ a1 a1.size (Nat.le_refl _) z hz
  have hlen : (z0 ++ outK (startB (nums a1)) (nums a1) a1.size).length ≤ 4194304 := by
    rw [List.length_append, HL.out]
    have := HL2.out
    have := HLEN.out
    omega
  have hB67 : Below W4.heap.size W6 W7 := grown_low HGR.out (fun g hg => H5.out.low g hg) (by have := H5.out.bel.size; have := HB6.out.size; omega)
  have hB47 : Below W4.heap.size W4 W7 := (H5.out.bel.trans (HB6.out.mono H5.out.bel.size)).trans hB67
  obtain ⟨A4, c4, hv4, hi4, -⟩ := HP4.out.buf.ints (by unfold maxLen; omega) hwf
  obtain ⟨A8, c8, hv8, hi8, -⟩ := HBF.out.ints (by unfold maxLen; omega) hwf
  have HI47 := Lib.hid (hi4.later hB47)
  have HI8 := Lib.hid hi8
  have HBF2 := Lib.hid ((H1.out.bel.trans ((H2.out.bel.trans ((HB3.out.mono H2.out.bel.size).trans HB4.out)).mono H1.out.bel.size)).trans (hB47.mono (by have := H1.out.bel.size; have := H2.out.bel.size; have := HB3.out.size; have := HB4.out.size; omega)))
  generalize (z0 ++ outK (startB (nums a1)) (nums a1) a1.size) = Z at hv4 hv8 HI47 HI8 hlen
  generalize hZ : Z.length = NZ at hv4 hv8 HI47 HI8 hlen
  injection hv8 with e1 e2 e3
  subst hv4 e1 e2 e3
  clear hi4 hi8 hB67 hB47 hwf hZ HP4 HS4
  go_wp2_with fail
  refine (eq11 A4 A7 n7 c4 c7 Z W7 HI47.out HI8.out hlen).mono ?_
  rintro e W8 ⟨rfl, m, rfl⟩
  go_wp2_with fail
  go_ret
  exact ⟨rfl, below_drewN HBF2.out _⟩
theorem of_laid {w : World} (_h : laidMetH Tryf.prog Rows.fnPrintIdentAsciiEscapesExactRow.laid w) : True := trivial
end Go.Proofs.YtmhiekokjogkhaaFmt.IdG
