/- FnCookedAndRawTemplateContentsWhole: words for the decoder. -/
import Derived.Test.YtalpfbbceggcaaaDoorCwM
import Derived.Test.YtalpfbbceggcaaaDoorStep
import Derived.Test.YtalpfbbceggcaaaDoorShelf
import Derived.WalkKit
import Derived.ProofKit
import Derived.OpenShut
import Derived.Below
import Derived.WalkLawsBesides
import Derived.Lib.Hide
import Derived.Outline
import Derived.RegionTactic
import Derived.Deep.QuietTactic
import Derived.BigQuiet
import Derived.WalkSpells
import Derived.Deep.OwnRows
import Derived.IntWalk
import Derived.Deep.DeepMust
namespace Go.Proofs.YtalpfbbceggcaaaDoor.CwU
open Go.RowKit Mem Args Own Prn Str Dec Step CwP CwG
set_option linter.unusedVariables false
set_option linter.unusedSimpArgs false

/-- From i on the text t reads p. -/
def Txt (t : ByteArray) (i : Nat) (p : List Int) : Prop := i + p.length ≤ t.size ∧ ∀ j, j < p.length → (by_ t (i + j) : Int) = p.getD j 0
theorem by_nums (s : ByteArray) (i : Nat) (h : i < s.size) : (by_ s i : Int) = (nums s).getD i 0 := by
  rw [by_at _ _ h]
  unfold nums
  have h' : i < s.data.toList.length := by simpa using h
  simp [List.getD, List.getElem?_map, List.getElem?_eq_getElem h', ByteArray.getElem_eq_getElem_data]
theorem by_bytes (zs : List Int) (h : ∀ z ∈ zs, (Lit.int .u8 z).wf = true) (i : Nat) (hi : i < zs.length) : (by_ (bytesOf zs) i : Int) = zs.getD i 0 := by
  rw [by_nums _ _ (by rw [bytesOf_size]; exact hi), nums_bytesOf zs h]
theorem txt_of (a p b : List Int) (h : ∀ z ∈ a ++ (p ++ b), (Lit.int .u8 z).wf = true) : Txt (bytesOf (a ++ (p ++ b))) a.length p := by
  refine ⟨by rw [bytesOf_size]; simp, fun j hj => ?_⟩
  rw [by_bytes _ h _ (by simp; omega)]
  simp only [List.getD]
  rw [List.getElem?_append_right (by omega), Nat.add_sub_cancel_left, List.getElem?_append_left hj]
theorem Txt.tail {t : ByteArray} {i : Nat} {c : Int} {p : List Int} (h : Txt t i (c :: p)) : Txt t (i + 1) p := by
  refine ⟨by have := h.1; simp at this; omega, fun j hj => ?_⟩
  have := h.2 (j + 1) (by simp; omega)
  rw [show i + 1 + j = i + (j + 1) by omega, this]
  rfl
theorem Txt.drop {t : ByteArray} : ∀ {a : List Int} {i : Nat} {p : List Int}, Txt t i (a ++ p) → Txt t (i + a.length) p
  | [], i, p, h => h
  | c :: a, i, p, h => by
    have := Txt.drop (Txt.tail (by simpa using h))
    rw [List.length_cons, show i + (a.length + 1) = i + 1 + a.length by omega]
    exact this
theorem Txt.left {t : ByteArray} {i : Nat} {a p : List Int} (h : Txt t i (a ++ p)) : Txt t i a := by
  refine ⟨by have := h.1; simp at this; omega, fun j hj => ?_⟩
  rw [h.2 j (by simp; omega)]
  simp only [List.getD]
  rw [List.getElem?_append_left hj]
theorem Txt.hd {t : ByteArray} {i : Nat} {c : Int} {p : List Int} (h : Txt t i (c :: p)) : (by_ t i : Int) = c ∧ i < t.size := ⟨by have := h.2 0 (by simp); simpa using this, by have := h.1; simp at this; omega⟩
/-- An ASCII byte is decoded as itself. -/
theorem dc_ascii {t : ByteArray} {i : Nat} {c : Int} {p : List Int} (h : Txt t i (c :: p)) (hc : c < 128) : Lib.decodeGo (t.extract i t.size) = (c.toNat, 1) := by
  obtain ⟨h1, h2⟩ := h.hd
  rw [dec_tail t i h2, dec1 t i (by omega)]
  rw [show by_ t i = c.toNat by omega]
/-- A unit that is no surrogate is decoded as it was written. -/
theorem dc_utf {t : ByteArray} {i : Nat} {u : Int} {p : List Int} (h : Txt t i (utf u ++ p)) (h0 : 0 ≤ u) (h1 : u ≤ 65535) (hs : sur u = false) : Lib.decodeGo (t.extract i t.size) = (u.toNat, (utf u).length) := by
  have hs' : ¬ (55296 ≤ u ∧ u ≤ 57343) := by simpa [sur] using hs
  have h := h.left
  by_cases g1 : u < 128
  · have e : utf u = [u] := by unfold utf; rw [if_pos g1]
    rw [e] at h ⊢
    exact dc_ascii h g1
  by_cases g2 : u < 2048
  · have e : utf u = [192 + u / 64, 128 + u % 64] := by unfold utf; rw [if_neg g1, if_pos g2]
    rw [e] at h ⊢
    have b0 := h.2 0 (by simp)
    have b1 := h.2 1 (by simp)
    have hl := h.1
    simp at b0 b1 hl
    rw [dec_tail t i (by omega), dec2 t i ⟨by omega, by omega, by omega, by omega, by omega⟩]
    simp
    omega
  · have e : utf u = [224 + u / 4096, 128 + u / 64 % 64, 128 + u % 64] := by unfold utf; rw [if_neg g1, if_neg g2]
    rw [e] at h ⊢
    have b0 := h.2 0 (by simp)
    have b1 := h.2 1 (by simp)
    have b2 := h.2 2 (by simp)
    have hl := h.1
    simp at b0 b1 b2 hl
    rw [dec_tail t i (by omega), dec3 t i ⟨by omega, by omega, by omega, by omega, by omega, by omega, by omega, by omega, by omega⟩]
    simp
    omega
/-- A call of utf8.DecodeRuneInString whose result is known. -/
theorem dcall {t : ByteArray} {R W : Nat} (hd : Lib.decodeGo t = (R, W)) (w : World) (hT : Lib.Utf8Tabs 1 2 w) : Calls Tryd.prog 23 #[.string t] w fun e w' => e = .returned (.tuple #[.int .i32 (R : Int), .int .i64 (W : Int)]) ∧ Below w.heap.size w w' := by
  have := Tryd.utf8_DecodeRuneInString t w hT
  rw [hd] at this
  exact this
/-- .. of an ASCII byte. -/
theorem dcall1 {t : ByteArray} {i : Nat} {c : Int} {p : List Int} (h : Txt t i (c :: p)) (h0 : 0 ≤ c) (hc : c < 128) (w : World) (hT : Lib.Utf8Tabs 1 2 w) : Calls Tryd.prog 23 #[.string (t.extract i t.size)] w fun e w' => e = .returned (.tuple #[.int .i32 c, .int .i64 1]) ∧ Below w.heap.size w w' := by
  have := dcall (dc_ascii h hc) w hT
  rw [Int.toNat_of_nonneg h0] at this
  exact this
/-- .. of a unit. -/
theorem dcallu {t : ByteArray} {i : Nat} {u : Int} {p : List Int} (h : Txt t i (utf u ++ p)) (h0 : 0 ≤ u) (h1 : u ≤ 65535) (hs : sur u = false) (w : World) (hT : Lib.Utf8Tabs 1 2 w) : Calls Tryd.prog 23 #[.string (t.extract i t.size)] w fun e w' => e = .returned (.tuple #[.int .i32 u, .int .i64 ((utf u).length : Int)]) ∧ Below w.heap.size w w' := by
  have := dcall (dc_utf h h0 h1 hs) w hT
  rw [Int.toNat_of_nonneg h0] at this
  exact this
theorem info37 : (Tryd.prog.info? 37).map (fun i => (i.zero, i.size, i.bytes)) = some (some (.int .u16 0), 1, 2) := by kernel_rfl
/-- append(v, ys...) of units that lie in a block just made. -/
theorem wpList_app16 (w : World) {ops : Array Oper} {rest : List Oper} {o : Oper} {a : Act} {Q : Exit → Act → World → Prop} (hgd : o.guard = none) (s x : Operand)
    (ho : o.op = .call { callee := .builtin .append, args := #[s, x], argTypes := #[22, 22] }) (B : Nat) (v : Value) (zs : List Int) (hs : a.eval s = v) (hown : Own w B 37 .u16 v zs) (ys : List Int) (m : Nat)
    (hx : a.eval x = .slice (some ⟨w.heap.size, 0, none⟩) m m) (hm : ys.length = m) (hlen : zs.length + m ≤ 1000000000) (hB : B ≤ w.heap.size)
    (h : ∀ A' n' c' w', Own w' B 37 .u16 (.slice A' n' c') (zs ++ ys) → Gr w w' v (.slice A' n' c') → wpList Tryd.prog ops Q rest (a.put o.dst (.slice A' n' c')) w') : wpList Tryd.prog ops Q (o :: rest) a (w.alloc (.cells (iv .u16 ys).toArray 37)) := by
  have hrow := Row.newArr w 37 (iv .u16 ys).toArray
  refine Owg.wpList_own_g (w.alloc (.cells (iv .u16 ys).toArray 37)) hgd s x 22 ho B 37 .u16 2 Tryd.underlying22 info37 (by decide) v zs hs (hown.alloc _) w.heap.size 0 m m ys hx hm (fun i hi => ?_) hlen (by simp; omega) (fun A' n' c' w' h1 h2 h3 => h A' n' c' w' h1 ⟨h2.os, h2.tape, h2.output, Nat.le_trans (by simp) h2.size, fun j hj hv => (h2.block j (by simp; omega) (fun e => hv e.symm)).trans (Below.heap_alloc w _ j hj), ?_⟩)
  · rw [Nat.zero_add]
    exact hrow.at_ (iv_at .u16 ys i (by omega))
  · rcases h3 with e | e
    · exact .inl e
    · exact .inr ⟨_, e, by simp⟩
/-- The decoder's state: us are the units so far. -/
structure St (w wr : World) (p J : Nat) (v : Value) (us : List Int) : Prop where
  own : Own wr w.heap.size 37 .u16 v us
  bel : Below w.heap.size w wr
  t0 : Lib.Utf8Tabs 1 2 w
  plt : p < w.heap.size
  js0 : w.cell? ⟨p, J, none⟩ = some (.int .u8 2)
section
variable {w wr w1 : World} {p J : Nat} {v v' : Value} {us us' : List Int}
theorem St.tabs (h : St w wr p J v us) : Lib.Utf8Tabs 1 2 wr := tabs_later h.t0 h.bel
theorem St.js (h : St w wr p J v us) : wr.cell? ⟨p, J, none⟩ = some (.int .u8 2) := (h.bel.cell (p := ⟨p, J, none⟩) h.plt).trans h.js0
theorem St.dec (h : St w wr p J v us) (hb : Below wr.heap.size wr w1) : St w w1 p J v us := ⟨h.own.later hb (Nat.le_refl _), h.bel.trans (hb.mono h.bel.size), h.t0, h.plt, h.js0⟩
theorem St.grow (h : St w wr p J v us) (ho : Own w1 w.heap.size 37 .u16 v' us') (hg : Gr wr w1 v v') : St w w1 p J v' us' := ⟨ho, h.bel.trans (hg.below h.bel.size (fun g e => (h.own.lt g e).1)), h.t0, h.plt, h.js0⟩
end
/-- a times sixteen, with a digit. -/
theorem bor16 (a d : Int) (ha : 0 ≤ a) (hb : a ≤ 65535) (h0 : 0 ≤ d) (h1 : d < 16) : bits .or .i32 (a * 16) d = a * 16 + d := by
  have hw : ∀ n : Int, 0 ≤ n → n < 2 ^ 31 → IntKind.i32.wrap n = n := fun n h0 h1 => by rw [IntKind.wrap_i32]; omega
  exact bits_join .i32 31 (by decide) hw 4 (a * 16) d (by omega) (by omega) (by omega) (by omega) (by omega) (by omega)
end Go.Proofs.YtalpfbbceggcaaaDoor.CwU
