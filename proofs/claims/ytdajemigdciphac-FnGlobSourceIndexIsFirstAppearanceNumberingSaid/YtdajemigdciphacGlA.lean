/- GetGlob. -/
import Derived.Test.YtdajemigdciphacRows
import Derived.Test.YtdajemigdciphacMem
import Derived.Test.YtdajemigdciphacSl
import Derived.Test.YtdajemigdciphacMap
import Derived.Test.YtdajemigdciphacLocks
import Derived.Conc.MuLone
import Derived.WalkKit
import Derived.ProofKit
import Derived.OpenShut
import Derived.Below
import Derived.WalkLawsBesides
import Derived.Lib.Hide
import Derived.Outline
import Derived.RegionTactic
import Derived.Deep.QuietTactic
import Derived.BigQuiet
import Derived.WalkSpells
import Derived.Deep.OwnRows
import Derived.IntWalk
import Derived.Deep.DeepMust
namespace Go.Proofs.Ytdajemigdciphac.GlA
open Go.RowKit Mem Sl
set_option linter.unusedVariables false
open Map Locks Go.MuLone Go.MapKept

/-- Nothing but the blocks q and g has turned, and no block is new. -/
structure Two (q g : Nat) (w w' : World) : Prop where
  os : w'.os = w.os
  tape : w'.tape = w.tape
  output : w'.output = w.output
  size : w'.heap.size = w.heap.size
  block : ∀ i, i ≠ q → i ≠ g → w'.heap[i]? = w.heap[i]?
theorem Two.refl (q g : Nat) (w : World) : Two q g w w := ⟨rfl, rfl, rfl, rfl, fun _ _ _ => rfl⟩
theorem Two.set {q g : Nat} {w w' : World} (h : Two q g w w') (i : Nat) (u : Value) : Two q g w (w'.setCell ⟨q, i, none⟩ u) :=
  ⟨h.os, h.tape, h.output, by simpa [World.setCell] using h.size, fun j h1 h2 => (Below.heap_setCell w' ⟨q, i, none⟩ u j h1).trans (h.block j h1 h2)⟩
theorem Two.grown {q g : Nat} {w w' w2 : World} (h : Two q g w w') (hg : w'.grownBy w2 (some g)) (hs : w2.heap.size = w'.heap.size) : Two q g w w2 :=
  ⟨hg.os.trans h.os, hg.tape.trans h.tape, hg.output.trans h.output, hs.trans h.size, fun j h1 h2 => by
    by_cases hj : j < w'.heap.size
    · exact (hg.block j hj (fun e => h2 (by injection e))).trans (h.block j h1 h2)
    · have h3 : w2.heap[j]? = none := Array.getElem?_eq_none (by omega)
      have h4 : w'.heap[j]? = none := Array.getElem?_eq_none (by omega)
      rw [h3, ← h.block j h1 h2, h4]⟩
/-- The set of caches at q: its map of globs at g, the lock free, the next index nx. -/
structure Cac (w : World) (q g n nx : Nat) (f : Value → Option Value) : Prop where
  row : ∃ xs, Row w q 130 xs ∧ xs.length = 17 ∧ xs[12]? = some (.map (some g)) ∧ xs[14]? = some (.int .i32 0) ∧ xs[16]? = some (.int .u32 (nx : Int))
  map : MapF w g (.int .u64) n f
def ky (a b : Nat) : Value := .int .u64 ((a * 4294967296 + b : Nat) : Int)
def GG (w : World) (q g n nx : Nat) (f : Value → Option Value) (k : Value) (e : Ending) (w' : World) : Prop :=
  Two q g w w' ∧ ((∃ r : Int, f k = some (.int .u32 r) ∧ e = .returned (.int .u32 r) ∧ Cac w' q g n nx f) ∨ (f k = none ∧ e = .returned (.int .u32 (nx : Int)) ∧ Cac w' q g (n + 1) (nx + 1) (put f k (.int .u32 (nx : Int)))))
theorem or_bits (a b : Nat) (ha : a < 4294967296) (hb : b < 4294967296) : bits .or .u64 ((a : Int) * 4294967296) (b : Int) = ((a * 4294967296 + b : Nat) : Int) := by
  have h0 : (a * 4294967296) ||| b = a * 4294967296 + b := by
    have := Nat.shiftLeft_add_eq_or_of_lt (b := b) (i := 32) (by omega) a
    rw [Nat.shiftLeft_eq] at this
    exact this.symm
  have h1 : (BitVec.ofInt 64 ((a * 4294967296 : Nat) : Int) ||| BitVec.ofInt 64 (b : Int)).toNat = a * 4294967296 + b := by
    rw [BitVec.toNat_or, BitVec.ofInt_natCast, BitVec.ofInt_natCast, BitVec.toNat_ofNat, BitVec.toNat_ofNat, Nat.mod_eq_of_lt (by omega), Nat.mod_eq_of_lt (by omega), h0]
  have h2 : IntKind.u64.wrap (((a * 4294967296 + b : Nat)) : Int) = ((a * 4294967296 + b : Nat) : Int) := by
    unfold IntKind.wrap
    simp [IntKind.bits, IntKind.signed]
    omega
  rw [show (a : Int) * 4294967296 = ((a * 4294967296 : Nat) : Int) by simp]
  show IntKind.u64.wrap ((BitVec.ofInt 64 ((a * 4294967296 : Nat) : Int) ||| BitVec.ofInt 64 (b : Int)).toNat : Int) = _
  rw [h1, h2]
set_option maxHeartbeats 4000000 in
set_option maxRecDepth 100000 in
theorem gg12 (w : World) (q g n nx a b : Nat) (f : Value → Option Value) (hC : Cac w q g n nx f) (ha : a < 4294967296) (hb : b < 4294967296) (hnx : nx < 4294967295) (hval : ∀ k v, f k = some v → ∃ r : Int, v = .int .u32 r) :
    Calls Try.prog 12 #[.pointer (some ⟨q, 12, none⟩), .int .u32 (a : Int), .int .u32 (b : Int)] w (GG w q g n nx f (ky a b)) := by
  obtain ⟨⟨xs, hr, hl, h12, h14, h16⟩, hm⟩ := hC
  have hqg : g ≠ q := by
    rintro rfl
    obtain ⟨es, c, h1, _⟩ := hm
    unfold Row at hr
    rw [h1] at hr
    cases hr
  have ho := or_bits a b ha hb
  have c14 := hr.at_ h14
  have z14 := hr.frozen 14
  have hr1 := hr.set 14 (.int .i32 1)
  have d12 := hr1.at_ (i := 12) (v := .map (some g)) (by simpa using h12)
  have d16 := hr1.at_ (i := 16) (v := .int .u32 (nx : Int)) (by simpa using h16)
  have y16 := hr1.frozen 16
  have hk : IsKey (.int .u64) (ky a b) := by first | exact ⟨_, rfl⟩ | (unfold IsKey ky; simp)
  have hm1 := hm.set (p := ⟨q, 14, none⟩) hqg (.int .i32 1)
  have hlk := hm1.look_ok (P := Try.prog) Try.underlying107 Try.underlying84 hk (Try.zeroValue28 _)
  obtain ⟨K, hK⟩ : ∃ K : Nat, a * 4294967296 + b = K := ⟨_, rfl⟩
  unfold ky at hlk hk ⊢
  rw [hK] at hlk hk ho ⊢
  have HR1 := Lib.hid hr1
  have HM1 := Lib.hid hm1
  have HX := Lib.hid (And.intro hl (And.intro h12 (And.intro h14 h16)))
  have HQG := Lib.hid hqg
  have HR := Lib.hid hr
  have HKY := Lib.hid hk
  have HM := Lib.hid hm
  clear hr1 hm1 hl h12 h14 h16 hqg hr hk hm hK
  cases hfk : f (.int .u64 (K : Int)) with
  | some v =>
    obtain ⟨r, rfl⟩ := hval _ _ hfk
    rw [hfk] at hlk
    have HF := Lib.hid hfk
    clear hfk
    simp only [Option.getD_some, Option.isSome_some] at hlk
    go_enter_defers Try.func12, Try.ntmps12
    go_wp2_with (go_at_call 13; refine (lock_free muLib ⟨q, 14, none⟩ _ c14 z14).mono ?_; rintro e w' ⟨rfl, rfl⟩)
    refine leaves_cons (f := 14) (args := #[.pointer (some ⟨q, 14, none⟩)]) (by simp) (by simp [go_sem]) ?_
    refine (unlock_deferred muLib ⟨q, 14, none⟩ .returning _ (HR1.out.at_ (i := 14) (by have := HX.out.1; simp [this])) (HR1.out.frozen 14)).mono ?_
    rintro e u' w'' ⟨rfl, rfl, rfl⟩
    refine ⟨_, results_tmp rfl _ _ _, ((Two.refl q g w).set 14 _).set 14 _, .inl ⟨r, HF.out, rfl, ⟨⟨_, HR1.out.set 14 _, ?_⟩, HM1.out.set (p := ⟨q, 14, none⟩) HQG.out _⟩⟩⟩
    obtain ⟨x1, x2, x3, x4⟩ := HX.out
    exact ⟨by simp [x1], by simpa using x2, by simp [x1], by simpa using x4⟩
  | none =>
    rw [hfk] at hlk
    have HF := Lib.hid hfk
    clear hfk
    simp only [Option.getD_none, Option.isSome_none] at hlk
    have HR2 := Lib.hid (HR1.out.set 16 (.int .u32 ((nx : Int) + 1)))
    have HM2 := Lib.hid (HM1.out.set (p := ⟨q, 16, none⟩) HQG.out (.int .u32 ((nx : Int) + 1)))
    have e12 := HR2.out.at_ (i := 12) (v := .map (some g)) (by have := HX.out.2.1; simpa using this)
    go_enter_defers Try.func12, Try.ntmps12
    go_wp2_with (first | (go_at_call 13; refine (lock_free muLib ⟨q, 14, none⟩ _ c14 z14).mono ?_; rintro e w' ⟨rfl, rfl⟩) | (refine wpList_mapUpdate_f _ rfl _ _ _ 107 rfl 84 28 _ Try.underlying107 Try.underlying84 g n f rfl HM2.out (.int .u64 (K : Int)) (.int .u32 (nx : Int)) rfl rfl HKY.out ?_; intro w4 hm4 hg4 hs4; have HM4 := Lib.hid hm4; have HG4 := Lib.hid hg4; have HS4 := Lib.hid hs4; clear hm4 hg4 hs4))
    have HR4 := Lib.hid (HR2.out.grown HG4.out (fun e => HQG.out (by injection e with e; exact e.symm)))
    refine leaves_cons (f := 14) (args := #[.pointer (some ⟨q, 14, none⟩)]) (by simp) (by simp [go_sem]) ?_
    refine (unlock_deferred muLib ⟨q, 14, none⟩ .returning _ (HR4.out.at_ (i := 14) (by have := HX.out.1; simp [this])) (HR4.out.frozen 14)).mono ?_
    rintro e u' w'' ⟨rfl, rfl, rfl⟩
    have hm4 := HM4.out
    rw [HF.out] at hm4
    refine ⟨_, results_tmp rfl _ _ _, ((((Two.refl q g w).set 14 _).set 16 _).grown HG4.out HS4.out).set 14 _, .inr ⟨HF.out, rfl, ⟨⟨_, HR4.out.set 14 _, ?_⟩, hm4.set (p := ⟨q, 14, none⟩) HQG.out _⟩⟩⟩
    obtain ⟨x1, x2, x3, x4⟩ := HX.out
    exact ⟨by simp [x1], by simpa using x2, by simp [x1], by simp [x1]⟩
end Go.Proofs.Ytdajemigdciphac.GlA
