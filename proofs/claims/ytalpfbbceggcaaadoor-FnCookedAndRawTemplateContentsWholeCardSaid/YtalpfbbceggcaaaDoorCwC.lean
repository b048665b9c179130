/- FnCookedAndRawTemplateContentsWhole: CookedAndRawTemplateContents, and the small functions. -/
import Derived.Test.YtalpfbbceggcaaaDoorCwD
import Derived.Great.BuildSlice
import Derived.Deep.DeepCutAuto
import Derived.Deep.CutBlock
import Derived.OwnWalk
import Derived.Laws.IdiomStrings
import Derived.Lib.IndexLaws
import Derived.WalkKit
import Derived.ProofKit
import Derived.OpenShut
import Derived.Below
import Derived.WalkLawsBesides
import Derived.Lib.Hide
import Derived.Outline
import Derived.RegionTactic
import Derived.Deep.QuietTactic
import Derived.BigQuiet
import Derived.WalkSpells
import Derived.Deep.OwnRows
import Derived.IntWalk
import Derived.Deep.DeepMust
import Derived.Test.YtalpfbbceggcaaaDoorCwV
import Derived.Test.YtalpfbbceggcaaaDoorCwU
import Derived.Test.YtalpfbbceggcaaaDoorCwQ
import Derived.Test.YtalpfbbceggcaaaDoorCwS
import Derived.Deep.RegionLaw
import Derived.Test.YtalpfbbceggcaaaDoorShelf
namespace Go.Proofs.YtalpfbbceggcaaaDoor.CwX
open Go.RowKit Mem Args Sl Own Prn Str Dec Step CwP CwG CwU CwN CwQ CwS
set_option linter.unusedVariables false
set_option linter.unusedSimpArgs false
set_option maxRecDepth 100000 in
set_option maxHeartbeats 4000000 in
theorem nil20 (w : World) (p : Nat) (st : Int) (re : Bool) : Calls Tryd.prog 20 #[.pointer (some ⟨p, 0, none⟩), .int .i64 st, .string (bytesOf []), .bool re] w fun e w' => e = .returned (.tuple #[.slice (some ⟨w.heap.size, 0, none⟩) 0 0, .bool true, .int .i64 0]) ∧ w' = w.alloc (.cells #[] 37) := by
  obtain ⟨w1, hw1⟩ : ∃ w1, w1 = w.alloc (.cells #[] 37) := ⟨_, rfl⟩
  have HW := Lib.hid hw1
  have hsz : (bytesOf []).size = 0 := bytesOf_size []
  clear hw1
  go_enter Tryd.func20, Tryd.ntmps20
  go_upto_region 2 with fail
  rw [← HW.out]
  go_upto_block 0 with fail
  refine wp_norm ?_
  refine wp_block ?_
  refine wp_loop (fun a' w' => a' = _ ∧ w' = w1) (fun _ _ => 0) ⟨rfl, rfl⟩ ?_
  rintro a' w' ⟨rfl, rfl⟩
  refine wp_then fun M hM => ?_
  go_wp2_with fail
  go_ret3
  exact ⟨rfl, HW.out⟩
theorem wf16 {V : List Int} (h : ∀ i, 0 ≤ V.getD i 0 ∧ V.getD i 0 ≤ 65535) : ∀ z ∈ V, (Lit.int .u16 z).wf = true := by
  intro z hz
  obtain ⟨i, hi, rfl⟩ := List.getElem_of_mem hz
  have := h i
  simp only [List.getD, List.getElem?_eq_getElem hi, Option.getD_some] at this
  simp [Lit.wf, IntKind.min, IntKind.max, IntKind.bits, IntKind.signed]
  omega
theorem cooked20 (w : World) (p : Nat) (st : Int) (re : Bool) (S V : List Int) (hB : ∀ z ∈ S, (Lit.int .u8 z).wf = true) (hD : Dec S V) (hV : ∀ i, 0 ≤ V.getD i 0 ∧ V.getD i 0 ≤ 65535) (hn : V = [] → S = []) (hl : S.length ≤ 100000000) (hv : V.length ≤ 1000000) (hT : Lib.Utf8Tabs 1 2 w) (hp : p < w.heap.size) (hj : w.cell? ⟨p, 68, none⟩ = some (.int .u8 2)) :
    Calls Tryd.prog 20 #[.pointer (some ⟨p, 0, none⟩), .int .i64 st, .string (bytesOf S), .bool re] w fun e w' => ∃ a c, e = .returned (.tuple #[.slice (some a) V.length c, .bool true, .int .i64 0]) ∧ IsInts .u16 w' (some a) V.length c V ∧ Below w.heap.size w w' := by
  by_cases h0 : V = []
  · have hS := hn h0
    subst h0
    subst hS
    refine (nil20 w p st re).mono ?_
    rintro e w' ⟨rfl, rfl⟩
    refine ⟨_, _, rfl, ⟨Nat.le_refl _, by decide, rfl, by simp, fun h => (by cases h), fun h => absurd h (by simp)⟩, (Below.refl _ _).alloc (Nat.le_refl _) _⟩
  · refine (CwD.dec20 w p st re S V hB hD hl (by omega) hT hp hj).mono ?_
    rintro e w' ⟨v, rfl, ho, hb⟩
    obtain ⟨A, c, rfl, hI⟩ := ho.ints (wf16 hV)
    have hlen : 0 < V.length := List.length_pos_iff.2 h0
    obtain ⟨b, off, rfl, _⟩ := hI.2.2.2.2.2 (Nat.lt_of_lt_of_le hlen hI.1)
    exact ⟨_, _, rfl, hI, hb⟩
end Go.Proofs.YtalpfbbceggcaaaDoor.CwX
namespace Go.Proofs.YtalpfbbceggcaaaDoor.CwY
open Go.RowKit Mem Args Sl Own Prn Str Dec Step CwP CwG CwU CwN CwQ CwS
set_option linter.unusedVariables false
set_option linter.unusedSimpArgs false
/-- The bytes that are being rewritten lie in the row g. -/
structure Bw (w wr : World) (g : Nat) (L : List Int) : Prop where
  ge : w.heap.size ≤ g
  row : ∃ (xs : List Value) (m : Nat), wr.heap[g]? = some (.cells xs.toArray 5 (m, m + 1)) ∧ L.length ≤ m ∧ ∀ j, j < L.length → xs[j]? = some (.int .u8 (L.getD j 0))
  bel : Below w.heap.size w wr
section
variable {w wr : World} {g : Nat} {L : List Int}
theorem Bw.cell (h : Bw w wr g L) {j : Nat} (hj : j < L.length) : wr.cell? ⟨g, j, none⟩ = some (.int .u8 (L.getD j 0)) := by
  obtain ⟨xs, m, hh, hm, hc⟩ := h.row
  have := hc j hj
  unfold World.cell?
  rw [hh]
  simpa using this
theorem Bw.frozen (h : Bw w wr g L) {j : Nat} (hj : j < L.length) : wr.frozen? ⟨g, j, none⟩ = false := by
  obtain ⟨xs, m, hh, hm, hc⟩ := h.row
  unfold World.frozen?
  rw [hh]
  simp
  omega
theorem Bw.set (h : Bw w wr g L) {k : Nat} (hk : k < L.length) (c : Int) : Bw w (wr.setCell ⟨g, k, none⟩ (.int .u8 c)) g (L.set k c) := by
  obtain ⟨xs, m, hh, hm, hc⟩ := h.row
  refine ⟨h.ge, ⟨xs.set k (.int .u8 c), m, ?_, by simpa using hm, fun j hj => ?_⟩, h.bel.setCell h.ge _⟩
  · simp [World.setCell, Array.getElem?_modify, hh]
  · have hj' : j < L.length := by simpa using hj
    have hx : j < xs.length := (List.getElem?_eq_some_iff.1 (hc j hj')).1
    by_cases e : k = j
    · subst e
      rw [List.getElem?_set_self hx]
      simp only [List.getD, List.getElem?_set_self hj', Option.getD_some]
    · rw [List.getElem?_set_ne e, hc j hj']
      simp only [List.getD, List.getElem?_set_ne e]
end
/-- In the midst: i bytes of E are read, k are written. -/
structure Nr (E L : List Int) (k i : Nat) : Prop where
  len : L.length = E.length
  ki : k ≤ i
  ie : i ≤ E.length
  tl : L.drop i = E.drop i
  hd : nrm E = L.take k ++ nrm (E.drop i)
  wf : ∀ z ∈ L, (Lit.int .u8 z).wf = true
theorem Nr.start (E : List Int) (h : ∀ z ∈ E, (Lit.int .u8 z).wf = true) : Nr E E 0 0 := ⟨rfl, Nat.le_refl _, Nat.zero_le _, rfl, by simp, h⟩
theorem Nr.stop {E L : List Int} {k : Nat} (h : Nr E L k E.length) : L.take k = nrm E := by
  have := h.hd
  rw [List.drop_length] at this
  simpa [nrm] using this.symm
theorem drop_set {L : List Int} {k i : Nat} (h : k < i) (c : Int) : (L.set k c).drop i = L.drop i := by
  rw [List.drop_set]
  rw [if_pos h]
theorem take_set {L : List Int} {k : Nat} (h : k < L.length) (c : Int) : (L.set k c).take (k + 1) = L.take k ++ [c] := by
  rw [List.take_add_one, List.getElem?_set_self h]
  congr 1
  rw [List.take_set_of_le (Nat.le_refl _)]
theorem wf_set {L : List Int} (h : ∀ z ∈ L, (Lit.int .u8 z).wf = true) (k : Nat) (c : Int) (hc : (Lit.int .u8 c).wf = true) : ∀ z ∈ L.set k c, (Lit.int .u8 z).wf = true := by
  intro z hz
  rcases List.mem_or_eq_of_mem_set hz with h1 | rfl
  · exact h z h1
  · exact hc
theorem Nr.get {E L : List Int} {k i : Nat} (h : Nr E L k i) {j : Nat} (hj : i ≤ j) : L.getD j 0 = E.getD j 0 := by
  have : (L.drop i)[j - i]? = (E.drop i)[j - i]? := by rw [h.tl]
  rw [List.getElem?_drop, List.getElem?_drop, Nat.add_sub_cancel' hj] at this
  simp only [List.getD, this]
theorem drop_cons {E : List Int} {i : Nat} (h : i < E.length) : E.drop i = E.getD i 0 :: E.drop (i + 1) := by
  rw [List.drop_eq_getElem_cons h]
  simp only [List.getD, List.getElem?_eq_getElem h, Option.getD_some]
theorem Nr.plain {E L : List Int} {k i : Nat} (h : Nr E L k i) (hi : i < E.length) {c : Int} (hc : c = L.getD i 0) (h13 : c ≠ 13) : Nr E (L.set k c) (k + 1) (i + 1) := by
  have hl := h.len
  have hk := h.ki
  have e : E.getD i 0 = c := by rw [hc]; exact (h.get (Nat.le_refl _)).symm
  refine ⟨by simpa using hl, by omega, by omega, ?_, ?_, wf_set h.wf k c ?_⟩
  · rw [drop_set (by omega)]
    have := congrArg (List.drop 1) h.tl
    rw [List.drop_drop, List.drop_drop] at this
    exact this
  · rw [take_set (by omega), h.hd, drop_cons hi, e, nrm_cons c _ h13]
    simp
  · rw [hc]
    simp only [List.getD, List.getElem?_eq_getElem (show i < L.length by omega), Option.getD_some]
    exact h.wf _ (List.getElem_mem _)
theorem Nr.crlf {E L : List Int} {k i : Nat} (h : Nr E L k i) (hi : i + 1 < E.length) (h13 : L.getD i 0 = 13) (h10 : L.getD (i + 1) 0 = 10) : Nr E (L.set k 10) (k + 1) (i + 2) := by
  have hl := h.len
  have hk := h.ki
  have e : E.getD i 0 = 13 := by rw [← h13]; exact (h.get (Nat.le_refl _)).symm
  have e1 : E.getD (i + 1) 0 = 10 := by rw [← h10]; exact (h.get (by omega)).symm
  refine ⟨by simpa using hl, by omega, by omega, ?_, ?_, wf_set h.wf k 10 (by decide)⟩
  · rw [drop_set (by omega)]
    have := congrArg (List.drop 2) h.tl
    rw [List.drop_drop, List.drop_drop] at this
    exact this
  · rw [take_set (by omega), h.hd, drop_cons (show i < E.length by omega), drop_cons hi, e, e1, nrm_crlf]
    simp
theorem Nr.cr {E L : List Int} {k i : Nat} (h : Nr E L k i) (hi : i < E.length) (h13 : L.getD i 0 = 13) (h10 : ¬ (i + 1 < E.length ∧ L.getD (i + 1) 0 = 10)) : Nr E (L.set k 10) (k + 1) (i + 1) := by
  have hl := h.len
  have hk := h.ki
  have e : E.getD i 0 = 13 := by rw [← h13]; exact (h.get (Nat.le_refl _)).symm
  have hne : (E.drop (i + 1)).head? ≠ some 10 := by
    rw [List.head?_drop]
    intro hq
    have hlt := (List.getElem?_eq_some_iff.1 hq).1
    refine h10 ⟨hlt, ?_⟩
    rw [h.get (by omega)]
    simp only [List.getD, hq, Option.getD_some]
  refine ⟨by simpa using hl, by omega, by omega, ?_, ?_, wf_set h.wf k 10 (by decide)⟩
  · rw [drop_set (by omega)]
    have := congrArg (List.drop 1) h.tl
    rw [List.drop_drop, List.drop_drop] at this
    exact this
  · rw [take_set (by omega), h.hd, drop_cons hi, e, nrm_cr _ hne]
    simp
/-- A text without CR is as it was. -/
theorem nrm_no13 {E : List Int} (h : ∀ c ∈ E, c ≠ 13) : nrm E = E := by
  have := nrm_plain E [] h
  simpa [nrm] using this
theorem no13 {E : List Int} (hE : ∀ z ∈ E, (Lit.int .u8 z).wf = true) (h : Lib.indexByte (bytesOf E).data.toList (13 : Int).toNat.toUInt8 = -1) : ∀ c ∈ E, c ≠ 13 := by
  intro c hc e
  obtain ⟨i, hi, rfl⟩ := List.getElem_of_mem hc
  refine Lib.indexByte_none h i ?_
  simp [bytesOf, List.getElem?_eq_getElem hi, e]
/-- What '[]byte(s)' lays. -/
theorem bw_new (w W : World) (E : List Int) (cap : Nat) (hb : Below w.heap.size w W) (hE : ∀ z ∈ E, (Lit.int .u8 z).wf = true) : Bw w (W.drew.alloc (.cells (bytesRow (bytesOf E) cap) 5 ((bytesRow (bytesOf E) cap).size, (bytesRow (bytesOf E) cap).size + 1))) W.heap.size E := by
  refine ⟨hb.size, ⟨(bytesRow (bytesOf E) cap).toList, (bytesRow (bytesOf E) cap).size, ?_, ?_, fun j hj => ?_⟩, ?_⟩
  · simp [World.alloc, World.drew, -World.alloc_eq, -World.drew_eq]
  · simp [bytesRow, bytesOf]
  · have hj' : j < (bytesOf E).data.size := by simpa [bytesOf] using hj
    have := bytesRow_at (bytesOf E) cap j hj'
    rw [Array.getElem?_toList, this]
    have hw := hE _ (List.getElem_mem hj)
    simp [Lit.wf, IntKind.min, IntKind.max, IntKind.bits, IntKind.signed] at hw
    simp [bytesOf, List.getD, List.getElem?_eq_getElem hj]
    omega
  · exact (hb.trans ((Below.refl _ _).drew.mono hb.size)).alloc hb.size _
/-- string(b[:k]). -/
theorem bw_string {w wr : World} {g cap : Nat} {L : List Int} (h : Bw w wr g L) (hwf : ∀ z ∈ L, (Lit.int .u8 z).wf = true) (k : Nat) (hk : k ≤ L.length) : (convert 23 9 (.slice (some ⟨g, 0, none⟩) k cap)).run Tryd.prog wr = .ok (.string (bytesOf (L.take k))) wr := by
  have hl : ((L.take k).map fun z => UInt8.ofNat z.toNat).length = k := by simp; omega
  have := run_convert_bytes_back (P := Tryd.prog) wr 23 9 5 ⟨g, 0, none⟩ cap ((L.take k).map fun z => UInt8.ofNat z.toNat) Tryd.underlying23 Tryd.underlying5 Tryd.underlying9 (fun j hj => by
    have hjk : j < k := by omega
    have hjl : j < L.length := by omega
    have hc := h.cell hjl
    have hw := hwf _ (List.getElem_mem hjl)
    simp [Lit.wf, IntKind.min, IntKind.max, IntKind.bits, IntKind.signed] at hw
    simp only [List.getD, List.getElem?_eq_getElem hjl, Option.getD_some] at hc
    have ea : Addr.add ⟨g, 0, none⟩ j = ⟨g, j, none⟩ := by
      unfold Addr.add
      split <;> simp [*]
    rw [ea, hc]
    simp
    omega)
  rw [hl] at this
  exact this
end Go.Proofs.YtalpfbbceggcaaaDoor.CwY
namespace Go.Proofs.YtalpfbbceggcaaaDoor.CwF
open Go.RowKit Mem Args Sl Own Prn Str Dec Step CwP CwG CwU
set_option linter.unusedVariables false
set_option linter.unusedSimpArgs false

theorem clone5_info : (Tryd.prog.info? 37).map (fun i => (i.zero, i.size, i.bytes)) = some (some (.int .u16 0), 1, 2) := by kernel_rfl
set_option maxHeartbeats 400000 in
theorem clone5 (A : Option Addr) (n c : Nat) (zs : List Int) (w : World) (h : Args.IsInts .u16 w A n c zs) (hn : n ≤ 1048576) :
    Calls Tryd.prog 5 #[.slice A n c] w fun e w' => Cloned .u16 37 w A n zs e w' := by
  have heq := fun (W : World) (X : Option Addr) (l cc : Nat) => Lib.run_eql_slice_nil (P := Tryd.prog) W 22 37 X l cc 0 0 Tryd.underlying22
  rcases A with _ | a
  · obtain ⟨h1, h2, h3, h4, h5, h6⟩ := h
    have hc := h5 rfl
    obtain rfl : n = 0 := by omega
    obtain rfl : zs = [] := List.eq_nil_of_length_eq_zero h3
    go_enter Tryd.func5, Tryd.ntmps5
    go_wp2
    go_ret
    exact ⟨_, rfl, .inl ⟨rfl, rfl, rfl⟩⟩
  · have hmk := fun W => run_make_row' (P := Tryd.prog) 22 37 (.int .u16 0) 2 Tryd.underlying22 clone5_info rfl .i64 .i64 n (by omega) (by omega) W
    have hlen := h.2.2.1
    have hrd := fun k => h.read k
    have HR := Lib.hid hrd
    clear hrd
    go_enter Tryd.func5, Tryd.ntmps5
    go_wp2
    go_loopw [4] (fun i wr => ∃ k : Nat, k ≤ n ∧ i = .int .i64 k ∧ Row wr w.heap.size 37 (filled (iv .u16 zs) (.int .u16 0) k) ∧ Below w.heap.size w wr ∧ wr.heap.size = w.heap.size + 1) (fun i _ => n - (intOf i).toNat)
    case atStart =>
      refine ⟨0, Nat.zero_le _, rfl, ?_, (Below.refl _ _).alloc (Nat.le_refl _) _, by simp⟩
      rw [filled_zero, iv_length, hlen]
      exact made_row w 37 (.int .u16 0) n
    case round =>
      obtain ⟨k, hk, rfl, hrow, hbel, hsz⟩ := hrel
      have HS := Lib.hid hsz
      clear hsz
      by_cases hlt : k < n
      · obtain ⟨b, off, ha, hb, hcell⟩ := HR.out k hlt
        injection ha with ha
        subst ha
        obtain ⟨x, hx⟩ : ∃ x, x = zs.getD k 0 := ⟨_, rfl⟩
        rw [← hx] at hcell
        have c1 := cell_later hbel hcell
        have hl : k < (iv .u16 zs).length := by rw [iv_length]; omega
        have c2 := hrow.at_ (filled_at (iv .u16 zs) (.int .u16 0) k hl)
        have c3 := hrow.frozen k
        have hset := hrow.set k (.int .u16 x)
        rw [filled_set _ _ k hl _ (by rw [hx]; exact iv_at .u16 zs k (by omega))] at hset
        have HSET := Lib.hid hset
        have HB := Lib.hid hbel
        clear hset hbel hrow hcell hx
        go_wp2
        go_roundw
        case rel => exact ⟨k + 1, by omega, by go_num, HSET.out, HB.out.setCell (Nat.le_refl _) _, by simpa using HS.out⟩
        case measure => simp [intOf]; omega
      · have hkn : k = n := by omega
        subst hkn
        have HROW := Lib.hid hrow
        have HB := Lib.hid hbel
        clear hrow hbel
        go_wp2
        go_ret
        refine ⟨_, rfl, .inr ⟨by simp, rfl, ?_, HB.out, HS.out⟩⟩
        have h1 := HROW.out
        rwa [← hlen, ← iv_length .u16 zs, filled_all] at h1

theorem clone6_info : (Tryd.prog.info? 5).map (fun i => (i.zero, i.size, i.bytes)) = some (some (.int .u8 0), 1, 1) := by kernel_rfl
set_option maxHeartbeats 400000 in
theorem clone6 (A : Option Addr) (n c : Nat) (zs : List Int) (w : World) (h : Args.IsInts .u8 w A n c zs) (hn : n ≤ 1048576) :
    Calls Tryd.prog 6 #[.slice A n c] w fun e w' => Cloned .u8 5 w A n zs e w' := by
  have heq := fun (W : World) (X : Option Addr) (l cc : Nat) => Lib.run_eql_slice_nil (P := Tryd.prog) W 23 5 X l cc 0 0 Tryd.underlying23
  rcases A with _ | a
  · obtain ⟨h1, h2, h3, h4, h5, h6⟩ := h
    have hc := h5 rfl
    obtain rfl : n = 0 := by omega
    obtain rfl : zs = [] := List.eq_nil_of_length_eq_zero h3
    go_enter Tryd.func6, Tryd.ntmps6
    go_wp2
    go_ret
    exact ⟨_, rfl, .inl ⟨rfl, rfl, rfl⟩⟩
  · have hmk := fun W => run_make_row' (P := Tryd.prog) 23 5 (.int .u8 0) 1 Tryd.underlying23 clone6_info rfl .i64 .i64 n (by omega) (by omega) W
    have hlen := h.2.2.1
    have hrd := fun k => h.read k
    have HR := Lib.hid hrd
    clear hrd
    go_enter Tryd.func6, Tryd.ntmps6
    go_wp2
    go_loopw [4] (fun i wr => ∃ k : Nat, k ≤ n ∧ i = .int .i64 k ∧ Row wr w.heap.size 5 (filled (iv .u8 zs) (.int .u8 0) k) ∧ Below w.heap.size w wr ∧ wr.heap.size = w.heap.size + 1) (fun i _ => n - (intOf i).toNat)
    case atStart =>
      refine ⟨0, Nat.zero_le _, rfl, ?_, (Below.refl _ _).alloc (Nat.le_refl _) _, by simp⟩
      rw [filled_zero, iv_length, hlen]
      exact made_row w 5 (.int .u8 0) n
    case round =>
      obtain ⟨k, hk, rfl, hrow, hbel, hsz⟩ := hrel
      have HS := Lib.hid hsz
      clear hsz
      by_cases hlt : k < n
      · obtain ⟨b, off, ha, hb, hcell⟩ := HR.out k hlt
        injection ha with ha
        subst ha
        obtain ⟨x, hx⟩ : ∃ x, x = zs.getD k 0 := ⟨_, rfl⟩
        rw [← hx] at hcell
        have c1 := cell_later hbel hcell
        have hl : k < (iv .u8 zs).length := by rw [iv_length]; omega
        have c2 := hrow.at_ (filled_at (iv .u8 zs) (.int .u8 0) k hl)
        have c3 := hrow.frozen k
        have hset := hrow.set k (.int .u8 x)
        rw [filled_set _ _ k hl _ (by rw [hx]; exact iv_at .u8 zs k (by omega))] at hset
        have HSET := Lib.hid hset
        have HB := Lib.hid hbel
        clear hset hbel hrow hcell hx
        go_wp2
        go_roundw
        case rel => exact ⟨k + 1, by omega, by go_num, HSET.out, HB.out.setCell (Nat.le_refl _) _, by simpa using HS.out⟩
        case measure => simp [intOf]; omega
      · have hkn : k = n := by omega
        subst hkn
        have HROW := Lib.hid hrow
        have HB := Lib.hid hbel
        clear hrow hbel
        go_wp2
        go_ret
        refine ⟨_, rfl, .inr ⟨by simp, rfl, ?_, HB.out, HS.out⟩⟩
        have h1 := HROW.out
        rwa [← hlen, ← iv_length .u8 zs, filled_all] at h1

set_option maxHeartbeats 400000 in
theorem same11 (A B : Option Addr) (n c d : Nat) (zs : List Int) (w : World) (h : Args.IsInts .u16 w A n c zs) (h' : Args.IsInts .u16 w B n d zs) (hn : n ≤ 1048576) :
    Calls Tryd.prog 11 #[.slice A n c, .slice B n d] w fun e w' => e = .returned (.bool true) ∧ ∃ m, w' = w.drewN m := by
  have HR := Lib.hid (fun k => h.read k)
  have HR' := Lib.hid (fun k => h'.read k)
  have hne : ((n : Int) != (n : Int)) = false := by simp
  clear h h'
  go_enter Tryd.func11, Tryd.ntmps11
  go_wp2
  go_loopw [5] (fun i wr => ∃ k m : Nat, k ≤ n ∧ i = .int .i64 k ∧ wr = w.drewN m) (fun i _ => n - (intOf i).toNat)
  case atStart => exact ⟨0, 0, Nat.zero_le _, rfl, rfl⟩
  case round =>
    obtain ⟨k, m, hk, rfl, rfl⟩ := hrel
    by_cases hlt : k < n
    · obtain ⟨b, off, ha, hb, hcell⟩ := HR.out k hlt
      obtain ⟨b', off', ha', hb', hcell'⟩ := HR'.out k hlt
      subst ha ha'
      obtain ⟨x, hx⟩ : ∃ x, x = zs.getD k 0 := ⟨_, rfl⟩
      rw [← hx] at hcell hcell'
      clear hx
      have hxx : (x != x) = false := by simp
      go_wp2
      go_quiet (fail)
      go_wp2
      go_roundw
      case rel => exact ⟨k + 1, m + nq, by omega, by go_num, by simp⟩
      case measure => simp [intOf]; omega
    · go_wp2
      go_ret
      exact ⟨rfl, m, rfl⟩

set_option maxHeartbeats 1000000 in
theorem bytes4 (y0 : ByteArray) (y1 : ByteArray) (A2 : Option Addr) (n2 c2 : Nat) (A3 : Option Addr) (n3 c3 : Nat) (y4 : Int) (w : World) (m0 : y0.size ≤ maxLen) (m1 : y1.size ≤ maxLen) (m2 : n2 ≤ maxLen) (m3 : n3 ≤ maxLen) : Calls Tryd.prog 4 #[.string y0, .string y1, .slice A2 n2 c2, .slice A3 n3 c3, .int .u8 y4] w fun e w' => e = .returned (.bool (decide (y0.size + y1.size + n2 + n3 ≤ 1048576))) ∧ w = w' := by
  unfold maxLen at *
  by_cases h0 : y0.size ≤ 1048576
  case neg =>
    go_enter Tryd.func4, Tryd.ntmps4
    go_wp2_with fail
    go_ret
    exact ⟨congrArg (fun b => Ending.returned (Value.bool b)) (show false = decide (y0.size + y1.size + n2 + n3 ≤ 1048576) by symm; simp; omega), rfl⟩
  by_cases h1 : y1.size ≤ 1048576
  case neg =>
    go_enter Tryd.func4, Tryd.ntmps4
    go_wp2_with fail
    go_ret
    exact ⟨congrArg (fun b => Ending.returned (Value.bool b)) (show false = decide (y0.size + y1.size + n2 + n3 ≤ 1048576) by symm; simp; omega), rfl⟩
  by_cases g1 : y0.size + y1.size ≤ 1048576
  case neg =>
    go_enter Tryd.func4, Tryd.ntmps4
    go_wp2_with fail
    go_ret
    exact ⟨congrArg (fun b => Ending.returned (Value.bool b)) (show false = decide (y0.size + y1.size + n2 + n3 ≤ 1048576) by symm; simp; omega), rfl⟩
  by_cases h2 : n2 ≤ 1048576
  case neg =>
    go_enter Tryd.func4, Tryd.ntmps4
    go_wp2_with fail
    go_ret
    exact ⟨congrArg (fun b => Ending.returned (Value.bool b)) (show false = decide (y0.size + y1.size + n2 + n3 ≤ 1048576) by symm; simp; omega), rfl⟩
  by_cases g2 : y0.size + y1.size + n2 ≤ 1048576
  case neg =>
    go_enter Tryd.func4, Tryd.ntmps4
    go_wp2_with fail
    go_ret
    exact ⟨congrArg (fun b => Ending.returned (Value.bool b)) (show false = decide (y0.size + y1.size + n2 + n3 ≤ 1048576) by symm; simp; omega), rfl⟩
  by_cases h3 : n3 ≤ 1048576
  case neg =>
    go_enter Tryd.func4, Tryd.ntmps4
    go_wp2_with fail
    go_ret
    exact ⟨congrArg (fun b => Ending.returned (Value.bool b)) (show false = decide (y0.size + y1.size + n2 + n3 ≤ 1048576) by symm; simp; omega), rfl⟩
  by_cases g3 : y0.size + y1.size + n2 + n3 ≤ 1048576
  case neg =>
    go_enter Tryd.func4, Tryd.ntmps4
    go_wp2_with fail
    go_ret
    exact ⟨congrArg (fun b => Ending.returned (Value.bool b)) (show false = decide (y0.size + y1.size + n2 + n3 ≤ 1048576) by symm; simp; omega), rfl⟩
  go_enter Tryd.func4, Tryd.ntmps4
  go_wp2_with fail
  go_ret
  exact ⟨congrArg (fun b => Ending.returned (Value.bool b)) (show true = decide (y0.size + y1.size + n2 + n3 ≤ 1048576) by symm; simp; omega), rfl⟩

/-- The parts of a template piece: what stands ahead of the body, what behind it, the token. -/
def op (k : Int) : List Int := if k % 4 = 1 ∨ k % 4 = 3 then [125] else [96]
def cl (k : Int) : List Int := if k % 4 = 2 ∨ k % 4 = 3 then [36, 123] else [96]
def tk (k : Int) : Int := if k % 4 = 1 then 9 else if k % 4 = 2 then 7 else if k % 4 = 3 then 8 else 3
theorem parts8 (k : Int) (h0 : 0 ≤ k) (h1 : k ≤ 255) (w : World) : Calls Tryd.prog 8 #[.int .u8 k] w fun e w' => e = .returned (.tuple #[.string (bytesOf (op k)), .string (bytesOf (cl k)), .int .u8 (tk k)]) ∧ w = w' := by
  have hm : k.tmod 4 = k % 4 := by rw [Int.tmod_eq_emod_of_nonneg h0]
  have hcs : k % 4 = 0 ∨ k % 4 = 1 ∨ k % 4 = 2 ∨ k % 4 = 3 := by omega
  have gw : IntKind.u8.wrap (k % 4) = k % 4 := by rw [IntKind.wrap_u8]; omega
  rcases hcs with h | h | h | h
  all_goals
    rw [h] at hm gw
    have HO := Lib.hid h
    clear h
    go_enter Tryd.func8, Tryd.ntmps8
    go_wp2_with fail
    go_ret3
    refine ⟨?_, rfl⟩
    unfold op cl tk
    rw [HO.out]
    rfl
noncomputable def zp : Array Value := match (Tryd.prog.info? 86).bind (fun i => i.zero) with | some (.agg cs) => cs | _ => #[]
noncomputable def lxr (st en tok : Int) : Array Value := (((zp.setIfInBounds 68 (.int .u8 2)).setIfInBounds 69 (.int .u8 tok)).setIfInBounds 53 (.int .i64 st)).setIfInBounds 54 (.int .i64 en)
theorem lxr14 (st en tok : Int) : (lxr st en tok)[14]? = some (.string ⟨#[]⟩) := by kernel_rfl
theorem lxr53 (st en tok : Int) : (lxr st en tok)[53]? = some (.int .i64 st) := by kernel_rfl
theorem lxr54 (st en tok : Int) : (lxr st en tok)[54]? = some (.int .i64 en) := by kernel_rfl
theorem lxr68 (st en tok : Int) : (lxr st en tok)[68]? = some (.int .u8 2) := by kernel_rfl
theorem lxr69 (st en tok : Int) : (lxr st en tok)[69]? = some (.int .u8 tok) := by kernel_rfl
/-- The lexer at p. -/
structure Lx (w : World) (p : Nat) (s : ByteArray) (st en tok : Int) : Prop where
  lt : p < w.heap.size
  c14 : w.cell? ⟨p, 14, none⟩ = some (.string s)
  c53 : w.cell? ⟨p, 53, none⟩ = some (.int .i64 st)
  c54 : w.cell? ⟨p, 54, none⟩ = some (.int .i64 en)
  c68 : w.cell? ⟨p, 68, none⟩ = some (.int .u8 2)
  c69 : w.cell? ⟨p, 69, none⟩ = some (.int .u8 tok)
theorem Lx.below {w w' : World} {p : Nat} {s : ByteArray} {st en tok : Int} (h : Lx w p s st en tok) (hb : Below w.heap.size w w') : Lx w' p s st en tok :=
  ⟨Nat.lt_of_lt_of_le h.lt hb.size, (hb.cell (p := ⟨p, 14, none⟩) h.lt).trans h.c14, (hb.cell (p := ⟨p, 53, none⟩) h.lt).trans h.c53, (hb.cell (p := ⟨p, 54, none⟩) h.lt).trans h.c54, (hb.cell (p := ⟨p, 68, none⟩) h.lt).trans h.c68, (hb.cell (p := ⟨p, 69, none⟩) h.lt).trans h.c69⟩
set_option maxRecDepth 100000 in
set_option maxHeartbeats 1000000 in
theorem new9 (s : ByteArray) (st en tok : Int) (w : World) : Calls Tryd.prog 9 #[.string s, .int .i64 st, .int .i64 en, .int .u8 tok] w fun e w' => e = .returned (.pointer (some ⟨w.heap.size, 0, none⟩)) ∧ Lx w' w.heap.size s st en tok ∧ Below w.heap.size w w' := by
  obtain ⟨W, hW, hrow, hbel, hsz⟩ := made_box w 86 (lxr st en tok)
  have a : ∀ {i : Nat} {v : Value}, (lxr st en tok)[i]? = some v → (lxr st en tok).toList[i]? = some v := fun h => by simpa using h
  have c14 := hrow.at_ (a (lxr14 st en tok))
  have f14 := hrow.frozen 14
  have hset := hrow.set 14 (.string s)
  have hlt := hset.lt
  have s53 := hset.at_ (i := 53) (v := .int .i64 st) (by rw [List.getElem?_set_ne (by decide)]; exact a (lxr53 st en tok))
  have s54 := hset.at_ (i := 54) (v := .int .i64 en) (by rw [List.getElem?_set_ne (by decide)]; exact a (lxr54 st en tok))
  have s68 := hset.at_ (i := 68) (v := .int .u8 2) (by rw [List.getElem?_set_ne (by decide)]; exact a (lxr68 st en tok))
  have s69 := hset.at_ (i := 69) (v := .int .u8 tok) (by rw [List.getElem?_set_ne (by decide)]; exact a (lxr69 st en tok))
  have hl14 : 14 < (lxr st en tok).toList.length := (List.getElem?_eq_some_iff.1 (a (lxr14 st en tok))).1
  have s14 := hset.at_ (i := 14) (v := .string s) (by rw [List.getElem?_set_self hl14])
  have HX := Lib.hid (show Lx _ w.heap.size s st en tok from ⟨hlt, s14, s53, s54, s68, s69⟩)
  have HB := Lib.hid (hbel.setCell (p := ⟨w.heap.size, 14, none⟩) (Nat.le_refl _) (.string s))
  have HW := Lib.hid hW
  clear hW hrow hbel hsz hset hlt s53 s54 s68 s69 s14 hl14
  go_enter Tryd.func9, Tryd.ntmps9
  go_upto_region 2 with (refine wpList_buildTo rfl 86 _ rfl (some 13) rfl (lxr st en tok) (by kernel_rfl) ?_)
  rw [HW.out]
  go_wp2_with fail
  go_ret
  exact ⟨rfl, HX.out, HB.out⟩
end Go.Proofs.YtalpfbbceggcaaaDoor.CwF
namespace Go.Proofs.YtalpfbbceggcaaaDoor.CwC
open Go.RowKit Mem Args Sl Own Prn Str Dec Step CwP CwG CwU CwN CwQ CwS CwX CwY CwF
set_option linter.unusedVariables false
set_option linter.unusedSimpArgs false
set_option maxRecDepth 100000 in
set_option maxHeartbeats 4000000 in
theorem cook10 (w : World) (p : Nat) (s : ByteArray) (st en kk : Nat) (tok : Int) (E V : List Int)
    (hL : Lx w p s (st : Int) (en : Int) tok) (htok : (tok = 3 ∨ tok = 9) ∧ kk = 1 ∨ (tok = 7 ∨ tok = 8) ∧ kk = 2)
    (hraw : s.extract (st + 1) (en - kk) = bytesOf E) (hb1 : st + 1 + kk ≤ en) (hb2 : en ≤ s.size) (hs : s.size ≤ 100000000)
    (hE : ∀ z ∈ E, (Lit.int .u8 z).wf = true) (hR : ∀ z ∈ nrm E, (Lit.int .u8 z).wf = true) (hD : Dec (nrm E) V) (hV : ∀ i, 0 ≤ V.getD i 0 ∧ V.getD i 0 ≤ 65535) (hn : V = [] → nrm E = []) (hEl : E.length ≤ 100000000) (hl : (nrm E).length ≤ 100000000) (hv : V.length ≤ 1000000) (hT : Lib.Utf8Tabs 1 2 w) :
    Calls Tryd.prog 10 #[.pointer (some ⟨p, 0, none⟩)] w fun e w' => ∃ a c, e = .returned (.tuple #[.slice (some a) V.length c, .string (bytesOf (nrm E))]) ∧ IsInts .u16 w' (some a) V.length c V ∧ Below w.heap.size w w' := by
  have HL := Lib.hid hL
  have HD := Lib.hid hD
  have HV := Lib.hid hV
  have HN := Lib.hid hn
  have HE := Lib.hid hE
  have HR := Lib.hid hR
  have HT := Lib.hid hT
  have HRAW := Lib.hid hraw
  have c14 := hL.c14
  have c53 := hL.c53
  have c54 := hL.c54
  have c69 := hL.c69
  clear hD hV hn hE hR hT hraw hL
  go_enter Tryd.func10, Tryd.ntmps10
  go_upto_block 0 with fail
  go_cut [4] from 12 to 53 (fun s4 wx => s4 = .string (bytesOf E) ∧ ∃ wz, wz = wx ∧ Hid (Below w.heap.size w wz))
  case first =>
    have u1 : ((st : Int) + 1).toNat = st + 1 := by omega
    have v0 : (0 : Int) ≤ (st : Int) + 1 := by omega
    rcases htok with ⟨ht, rfl⟩ | ⟨ht, rfl⟩
    · have u2 : ((en : Int) - 1).toNat = en - 1 := by omega
      have v1 : (st : Int) + 1 ≤ (en : Int) - 1 := by omega
      have v2 : (en : Int) - 1 ≤ (s.size : Int) := by omega
      rcases ht with rfl | rfl
      all_goals
        go_wp2_with fail
        go_region
        go_wp2_with fail
        go_meet
        exact ⟨by rw [← HRAW.out], _, rfl, Lib.hid ((Below.refl _ _).drew)⟩
    · have u2 : ((en : Int) - 2).toNat = en - 2 := by omega
      have v1 : (st : Int) + 1 ≤ (en : Int) - 2 := by omega
      have v2 : (en : Int) - 2 ≤ (s.size : Int) := by omega
      rcases ht with rfl | rfl
      all_goals
        go_wp2_with fail
        go_region
        go_wp2_with fail
        go_meet
        exact ⟨by rw [← HRAW.out], _, rfl, Lib.hid ((Below.refl _ _).drew)⟩
  case rest =>
    obtain ⟨rfl, wz, rfl, HB⟩ := hcut
    clear c14 c53 c54 c69
    obtain ⟨q, hq⟩ : ∃ q, q = Lib.indexByte (bytesOf E).data.toList (13 : Int).toNat.toUInt8 := ⟨_, rfl⟩
    have K19 := Tryd.strings_IndexByte (bytesOf E) 13 wz
    rw [← hq] at K19
    have HK := Lib.hid K19
    have HQ := Lib.hid hq
    clear K19 hq
    go_upto_if 56 with (go_at_call 19; refine HK.out.mono ?_; rintro e wv ⟨rfl, hw⟩; rw [hw]; clear hw)
    go_cut [4, 56] from 57 to 93 (fun s4 s56 wx => s4 = .string (bytesOf (nrm E)) ∧ ∃ wz, wz = wx ∧ Hid (Below w.heap.size w wz))
    case first =>
      by_cases h13 : q = -1
      · have hq1 : (q != -1) = false := by rw [h13]; rfl
        have HNO := Lib.hid (show nrm E = E from nrm_no13 (no13 HE.out (by rw [← HQ.out]; exact h13)))
        clear h13
        go_wp2_with fail
        go_meet
        exact ⟨by rw [HNO.out], _, rfl, HB⟩
      · have hq1 : (q != -1) = true := by simpa using h13
        rw [hq1]
        clear h13 hq1
        have hcv := run_bytes_of_string (P := Tryd.prog) wz 9 23 5 (bytesOf E) Tryd.underlying9 Tryd.underlying23 Tryd.underlying5
        have hbw := bw_new w wz E (grownCap wz (bytesOf E).size 0 5) HB.out HE.out
        have hcap : E.length ≤ grownCap wz (bytesOf E).size 0 5 := by have := grownCap_ge wz (bytesOf E).size 0 5; rw [bytesOf_size] at this ⊢; exact this
        obtain ⟨W2, hW2⟩ : ∃ W2, W2 = wz.drew.alloc (.cells (bytesRow (bytesOf E) (grownCap wz (bytesOf E).size 0 5)) 5 ((bytesRow (bytesOf E) (grownCap wz (bytesOf E).size 0 5)).size, (bytesRow (bytesOf E) (grownCap wz (bytesOf E).size 0 5)).size + 1)) := ⟨_, rfl⟩
        rw [← hW2] at hcv hbw
        obtain ⟨cap, hcp⟩ : ∃ cap, cap = grownCap wz (bytesOf E).size 0 5 := ⟨_, rfl⟩
        rw [← hcp] at hcv hcap
        obtain ⟨g, hg⟩ : ∃ g, g = wz.heap.size := ⟨_, rfl⟩
        rw [← hg] at hcv hbw
        rw [bytesOf_size] at hcv
        obtain ⟨n, hn⟩ : ∃ n, n = E.length := ⟨_, rfl⟩
        rw [← hn] at hcv hcap hEl
        have HBW := Lib.hid hbw
        have HNN := Lib.hid hn
        clear hbw hcp hg hn hW2
        go_wp2_with fail
        go_loopw [6, 7] (fun s6 s7 wr => ∃ (k i : Nat) (L : List Int), s6 = .int .i64 k ∧ s7 = .int .i64 i ∧ Hid (Nr E L k i ∧ Bw w wr g L)) (fun _ s7 _ => n - (intOf s7).toNat)
        case atStart => exact ⟨0, 0, E, rfl, rfl, Lib.hid ⟨Nr.start E HE.out, HBW.out⟩⟩
        case round =>
          obtain ⟨k, i, L, rfl, rfl, HNR⟩ := hrel
          refine wp_then fun M hM => ?_
          have HM := Lib.hid hM
          clear hM
          clear HBW
          have hki := HNR.out.1.ki
          have hin : i ≤ n := by rw [HNN.out]; exact HNR.out.1.ie
          have hLn : L.length = n := by rw [HNN.out]; exact HNR.out.1.len
          by_cases hlt : i < n
          · have ci := HNR.out.2.cell (j := i) (by omega)
            have ck := HNR.out.2.cell (j := k) (by omega)
            have fk := HNR.out.2.frozen (j := k) (by omega)
            obtain ⟨c, hc⟩ : ∃ c, c = L.getD i 0 := ⟨_, rfl⟩
            rw [← hc] at ci
            obtain ⟨c0, hc0⟩ : ∃ c0, c0 = L.getD k 0 := ⟨_, rfl⟩
            rw [← hc0] at ck
            have HC := Lib.hid hc
            clear hc hc0
            by_cases h13 : c = 13
            · subst h13
              by_cases h1 : i + 1 < n
              · have ci1 := HNR.out.2.cell (j := i + 1) (by omega)
                obtain ⟨d, hd⟩ : ∃ d, d = L.getD (i + 1) 0 := ⟨_, rfl⟩
                rw [← hd] at ci1
                have HDD := Lib.hid hd
                clear hd
                by_cases h10 : d = 10
                · subst h10
                  have HNX := Lib.hid (show Nr E (L.set k 10) (k + 1) (i + 2) ∧ Bw w _ g (L.set k 10) from ⟨HNR.out.1.crlf (by rw [← HNN.out]; exact h1) HC.out.symm HDD.out.symm, HNR.out.2.set (by omega) 10⟩)
                  go_wp2_with fail
                  refine HM.out _ _ ?_
                  try dsimp only
                  go_roundw
                  case rel => exact ⟨k + 1, i + 2, L.set k 10, by go_num, by go_num, HNX⟩
                  case measure => simp [intOf]; omega
                · have t10 : (d == 10) = false := by simpa using h10
                  have HNX := Lib.hid (show Nr E (L.set k 10) (k + 1) (i + 1) ∧ Bw w _ g (L.set k 10) from ⟨HNR.out.1.cr (by rw [← HNN.out]; exact hlt) HC.out.symm (fun h => h10 (HDD.out.trans h.2)), HNR.out.2.set (by omega) 10⟩)
                  go_wp2_with fail
                  refine HM.out _ _ ?_
                  try dsimp only
                  go_roundw
                  case rel => exact ⟨k + 1, i + 1, L.set k 10, by go_num, by go_num, HNX⟩
                  case measure => simp [intOf]; omega
              · have HNX := Lib.hid (show Nr E (L.set k 10) (k + 1) (i + 1) ∧ Bw w _ g (L.set k 10) from ⟨HNR.out.1.cr (by rw [← HNN.out]; exact hlt) HC.out.symm (fun h => h1 (by rw [HNN.out]; exact h.1)), HNR.out.2.set (by omega) 10⟩)
                have h1' : (n : Int) ≤ (i : Int) + 1 := by omega
                go_wp2_with fail
                refine HM.out _ _ ?_
                try dsimp only
                go_roundw
                case rel => exact ⟨k + 1, i + 1, L.set k 10, by go_num, by go_num, HNX⟩
                case measure => simp [intOf]; omega
            · have t13 : (c == 13) = false := by simpa using h13
              have HNX := Lib.hid (show Nr E (L.set k c) (k + 1) (i + 1) ∧ Bw w _ g (L.set k c) from ⟨HNR.out.1.plain (by rw [← HNN.out]; exact hlt) HC.out h13, HNR.out.2.set (by omega) c⟩)
              go_wp2_with fail
              refine HM.out _ _ ?_
              try dsimp only
              go_roundw
              case rel => exact ⟨k + 1, i + 1, L.set k c, by go_num, by go_num, HNX⟩
              case measure => simp [intOf]; omega
          · obtain rfl : i = n := by omega
            have hst := bw_string (cap := cap) HNR.out.2 HNR.out.1.wf k (by omega)
            have hfin : L.take k = nrm E := by
              have := HNR.out.1
              rw [HNN.out] at this
              exact this.stop
            rw [hfin] at hst
            have hkc : (k : Int) ≤ (cap : Int) := by omega
            have hk0 : (0 : Int) ≤ (k : Int) := by omega
            clear hfin
            go_wp2_with fail
            go_meet
            exact ⟨rfl, _, rfl, Lib.hid HNR.out.2.bel⟩
    case rest =>
      obtain ⟨rfl, w3, rfl, HB3⟩ := hcut
      clear HK HQ HB
      have HL3 := Lib.hid (show p < w3.heap.size ∧ w3.cell? ⟨p, 53, none⟩ = some (.int .i64 (st : Int)) ∧ w3.cell? ⟨p, 68, none⟩ = some (.int .u8 2) from
        ⟨Nat.lt_of_lt_of_le HL.out.lt HB3.out.size, (HB3.out.cell (p := ⟨p, 53, none⟩) HL.out.lt).trans HL.out.c53, (HB3.out.cell (p := ⟨p, 68, none⟩) HL.out.lt).trans HL.out.c68⟩)
      have c53 := HL3.out.2.1
      go_wp2_with (go_at_call 20; refine (cooked20 w3 p _ false (nrm E) V HR.out HD.out HV.out HN.out hl hv (tabs_later HT.out HB3.out) HL3.out.1 HL3.out.2.2).mono ?_; rintro e w4 ⟨a, c, rfl, hI, hb4⟩; have HI := Lib.hid hI; have HB4 := Lib.hid hb4; clear hI hb4)
      go_ret2
      exact ⟨a, c, rfl, HI.out, HB3.out.trans (HB4.out.mono HB3.out.size)⟩
end Go.Proofs.YtalpfbbceggcaaaDoor.CwC
