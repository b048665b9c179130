/- FnMarkReachableMatchesBFS: small functions. -/
import Derived.Test.YtpidbikdncgogaaRows
import Derived.Test.YtpidbikdncgogaaMem
import Derived.Test.YtpidbikdncgogaaSl
import Derived.Test.YtpidbikdncgogaaMrC
import Derived.Great.BuildSlice
import Derived.Deep.DeepCutAuto
import Derived.Laws.Rows
import Derived.Deep.RegionHeld3
import Derived.Deep.RegionLaw
import Derived.Deep.RegionWith
import Derived.Carry
import Derived.WalkKit
import Derived.ProofKit
import Derived.OpenShut
import Derived.Below
import Derived.WalkLawsBesides
import Derived.Lib.Hide
import Derived.Outline
import Derived.RegionTactic
import Derived.Deep.QuietTactic
import Derived.BigQuiet
import Derived.WalkSpells
import Derived.Deep.OwnRows
import Derived.IntWalk
import Derived.Deep.DeepMust
namespace Go.Proofs.Ytpidbikdncgogaa.MrS
open Go.RowKit Mem Sl
set_option linter.unusedVariables false
open Args Fvs Fxs Tab MrC

theorem u32_not (a : Nat) (ha : a < 4294967296) : bits .xor .u32 4294967295 (a : Int) = 4294967295 - (a : Int) := by
  show IntKind.u32.wrap ((BitVec.ofInt 32 4294967295 ^^^ BitVec.ofInt 32 (a : Int)).toNat : Int) = _
  have h1 : BitVec.ofInt 32 4294967295 = BitVec.allOnes 32 := by decide
  have h2 : (BitVec.ofInt 32 (a : Int)).toNat = a := by simp; omega
  rw [h1, BitVec.allOnes_xor, BitVec.toNat_not, h2]
  simp [IntKind.wrap, IntKind.bits, IntKind.signed]
  omega
/-- A target's index, as it lies. -/
def flp (t : Int) : Int := if t < 0 then 0 else 4294967295 - t
theorem mk12 (t : Nat) (ht : t < 4294967296) (w : World) : Calls Try.prog 12 #[.int .u32 (t : Int)] w fun e w' => e = .returned (.agg #[.int .u32 (4294967295 - (t : Int))]) ∧ Below w.heap.size w w' := by
  have HB := Lib.hid (Below.refl w.heap.size w)
  have hx : bits BinOp.xor IntKind.u32 IntKind.u32.max (t : Int) = 4294967295 - (t : Int) := u32_not t ht
  go_enter Try.func12, Try.ntmps12
  go_wp2
  refine bodyPost_ret (v := .agg #[.int .u32 (4294967295 - (t : Int))]) (by simp [results, Try.results12, go_sem]) rfl ⟨rfl, ?_⟩
  exact HB.out.alloc (Nat.le_refl _) _
theorem valid20 (x : Int) (b : Bool) (hx : (x != 0) = b) (w : World) : Calls Try.prog 20 #[.agg #[.int .u32 x]] w fun e w' => e = .returned (.bool b) ∧ Below w.heap.size w w' := by
  have HB := Lib.hid (Below.refl w.heap.size w)
  go_enter Try.func20, Try.ntmps20
  go_wp2
  go_ret
  exact ⟨rfl, HB.out.alloc (Nat.le_refl _) _⟩
theorem get21 (t : Nat) (ht : t < 4294967296) (w : World) : Calls Try.prog 21 #[.agg #[.int .u32 (4294967295 - (t : Int))]] w fun e w' => e = .returned (.int .u32 (t : Int)) ∧ Below w.heap.size w w' := by
  have HB := Lib.hid (Below.refl w.heap.size w)
  have hx : bits BinOp.xor IntKind.u32 IntKind.u32.max (4294967295 - (t : Int)) = (t : Int) := by
    have := u32_not (4294967295 - t) (by omega)
    rw [show ((4294967295 - t : Nat) : Int) = 4294967295 - (t : Int) by omega] at this
    rw [show IntKind.u32.max = 4294967295 by decide, this]
    omega
  go_enter Try.func21, Try.ntmps21
  go_wp2
  go_ret
  exact ⟨rfl, HB.out.alloc (Nat.le_refl _) _⟩
theorem entry23 (b o : Nat) (w : World) (h : w.cell? ⟨b, o + 22, none⟩ = some (.int .u8 0)) : Calls Try.prog 23 #[.pointer (some ⟨b, o, none⟩)] w fun e w' => e = .returned (.bool false) ∧ w = w' := by
  go_enter Try.func23, Try.ntmps23
  go_wp2
  go_ret
  exact ⟨rfl, rfl⟩
set_option maxRecDepth 20000 in
theorem bits14 (w : World) : Calls Try.prog 14 #[.int .u64 256] w fun e w' => (∃ E, e = .returned (.agg #[.slice (some ⟨E, 0, none⟩) 32 32]) ∧ w.heap.size ≤ E ∧ Fv w' E 32 (fun _ => .int .u8 0)) ∧ Below w.heap.size w w' := by
  have HB := Lib.hid (Below.refl w.heap.size w)
  have hi : (Try.prog.info? 5).map (fun i => (i.zero, i.size, i.bytes)) = some (some (.int .u8 0), 1, 1) := by kernel_rfl
  obtain ⟨C, hC⟩ : ∃ C, C = madeCells #[.int .u8 0] 32 := ⟨_, rfl⟩
  have hm : ∀ W, (Instr.makeSlice 36 (.int .u64 32) (.int .u64 32)).run Try.prog W = .ok (.slice (some ⟨W.heap.size, 0, none⟩) 32 32) (W.alloc (.cells C 5)) := fun W => by
    rw [hC]; exact run_make_row' (P := Try.prog) 36 5 (.int .u8 0) 1 Try.underlying36 hi rfl .u64 .u64 32 (by omega) (by omega) W
  have HC := Lib.hid hC
  clear hi hC
  go_enter Try.func14, Try.ntmps14
  go_upto_region 1 with fail
  obtain ⟨w1, hw1⟩ : ∃ w1, w1 = w.alloc (.cells #[.slice none 0 0] 38) := ⟨_, rfl⟩
  have r1 := Row.newArr w 38 #[.slice none 0 0]
  have b1 : Below w.heap.size w (w.alloc (.cells #[.slice none 0 0] 38)) := (Below.refl _ _).alloc (Nat.le_refl _) _
  rw [← hw1] at r1 b1 ⊢
  obtain ⟨g, hg⟩ : ∃ g, g = w.heap.size := ⟨_, rfl⟩
  rw [← hg] at r1 b1 ⊢
  have c0 := r1.at_ (i := 0) rfl
  have z0 := r1.frozen 0
  have hl := r1.lt
  have R1 := Lib.hid r1
  have B1 := Lib.hid b1
  have HG := Lib.hid hg
  clear hw1 r1 b1 hg
  go_wp2
  obtain ⟨w2, hw2⟩ : ∃ w2, w2 = w1.setCell ⟨g, 0, none⟩ (.slice (some ⟨w1.heap.size, 0, none⟩) 32 32) := ⟨_, rfl⟩
  have s2 : w2.heap.size = w1.heap.size := by rw [hw2]; simp
  have c2 : w2.cell? ⟨g, 0, none⟩ = some (.slice (some ⟨w1.heap.size, 0, none⟩) 32 32) := by rw [hw2]; exact cell_self _ (by rw [c0]; rfl)
  have fm := fv_made w2 5 (.int .u8 0) 32
  rw [← HC.out] at fm
  rw [s2] at fm
  have c1 : (w2.alloc (.cells C 5)).cell? ⟨g, 0, none⟩ = some (.slice (some ⟨w1.heap.size, 0, none⟩) 32 32) := by rw [World.cell?_alloc_lt _ _ _ (by show g < w2.heap.size; omega)]; exact c2
  have hb := B1.out
  rw [HG.out] at hb
  have hb2 : Below w.heap.size w w2 := by rw [hw2]; exact hb.setCell (p := ⟨g, 0, none⟩) (by show w.heap.size ≤ g; rw [HG.out]; exact Nat.le_refl _) _
  rw [← hw2]
  clear hw2 c2
  refine bodyPost_ret (v := .agg #[.slice (some ⟨w1.heap.size, 0, none⟩) 32 32]) (by simp [results, Try.results14, go_sem, c1]) rfl ⟨⟨w1.heap.size, rfl, by have := HG.out; omega, fm⟩, ?_⟩
  exact hb2.alloc (by have := hb2.size; omega) _
theorem and8 : ∀ (p q : Fin 8), bits .and .u8 ((2 ^ p.val : Nat) : Int) ((2 ^ q.val : Nat) : Int) = if p = q then ((2 ^ p.val : Nat) : Int) else 0 := by decide +kernel
theorem or8 : ∀ (p : Fin 8), bits .or .u8 0 ((2 ^ p.val : Nat) : Int) = ((2 ^ p.val : Nat) : Int) ∧ bits .or .u8 ((2 ^ p.val : Nat) : Int) ((2 ^ p.val : Nat) : Int) = ((2 ^ p.val : Nat) : Int) ∧ bits .and .u8 0 ((2 ^ p.val : Nat) : Int) = 0 := by decide +kernel
theorem and7 : ∀ (b : Fin 256), bits .and .u64 (b.val : Int) 7 = ((b.val % 8 : Nat) : Int) := by decide +kernel
/-- A file's bits: none, or the one. -/
def bv (m : Bool) (bit x : Nat) : Int := if m = true ∧ x = bit / 8 then ((2 ^ (bit % 8) : Nat) : Int) else 0
theorem pow8 : ∀ (p : Fin 8), (2 : Int) ^ p.val % 256 = ((2 ^ p.val : Nat) : Int) ∧ ((2 ^ p.val : Nat) : Int) ≠ 0 := by decide +kernel
theorem bv_out (m : Bool) (bit x : Nat) (h : x ≠ bit / 8) : bv m bit x = 0 := if_neg (fun e => h e.2)
theorem bv_no (bit x : Nat) : bv false bit x = 0 := if_neg (fun e => by cases e.1)
theorem bv_yes (bit : Nat) : bv true bit (bit / 8) = ((2 ^ (bit % 8) : Nat) : Int) := if_pos ⟨rfl, rfl⟩
theorem has_eq (m : Bool) (bit b : Nat) : (bits .and .u8 (bv m bit (b / 8)) (2 ^ (b % 8) % 256) != 0) = (m && (b == bit)) := by
  have hp : b % 8 < 8 := Nat.mod_lt _ (by decide)
  have hq : bit % 8 < 8 := Nat.mod_lt _ (by decide)
  rw [(pow8 ⟨b % 8, hp⟩).1]
  have h0 := (or8 ⟨b % 8, hp⟩).2.2
  cases m
  · rw [bv_no, h0]; rfl
  · by_cases e : b / 8 = bit / 8
    · rw [e, bv_yes]
      have h1 := and8 ⟨bit % 8, hq⟩ ⟨b % 8, hp⟩
      simp only at h1
      rw [h1]
      by_cases e2 : bit % 8 = b % 8
      · have : b = bit := by omega
        subst this
        simp only [if_true]
        have := (pow8 ⟨b % 8, hp⟩).2
        simp only at this
        rw [bne_iff_ne.2 this]
        simp
      · have hne : b ≠ bit := fun h => e2 (by rw [h])
        rw [if_neg (by intro h; injection h with h; exact e2 h)]
        simp [hne]
    · have hne : b ≠ bit := fun h => e (by rw [h])
      rw [bv_out _ _ _ e, h0]
      simp [hne]
theorem set_eq (m : Bool) (bit : Nat) : bits .or .u8 (bv m bit (bit / 8)) (2 ^ (bit % 8) % 256) = bv true bit (bit / 8) := by
  have hq : bit % 8 < 8 := Nat.mod_lt _ (by decide)
  rw [(pow8 ⟨bit % 8, hq⟩).1, bv_yes]
  have h1 := or8 ⟨bit % 8, hq⟩
  cases m
  · rw [bv_no]; exact h1.1
  · rw [bv_yes]; exact h1.2.1
set_option maxHeartbeats 1000000 in
theorem has11 (E : Nat) (m : Bool) (bit b : Nat) (hb : bit < 256) (hb' : b < 256) (w : World) (h : ∀ x, x < 32 → w.cell? ⟨E, x, none⟩ = some (.int .u8 (bv m bit x))) : Calls Try.prog 11 #[.agg #[.slice (some ⟨E, 0, none⟩) 32 32], .int .u64 (b : Int)] w fun e w' => e = .returned (.bool (m && (b == bit))) ∧ Below w.heap.size w w' := by
  have HB := Lib.hid (Below.refl w.heap.size w)
  have hc := h (b / 8) (by omega)
  have ha := and7 ⟨b, hb'⟩
  obtain ⟨v, hv⟩ : ∃ v, v = bv m bit (b / 8) := ⟨_, rfl⟩
  rw [← hv] at hc
  have HV := Lib.hid hv
  have hl : E < w.heap.size := cell_lt hc
  have hc' : (w.alloc (.cells #[.slice (some ⟨E, 0, none⟩) 32 32] 38)).cell? ⟨E, b / 8, none⟩ = some (.int .u8 v) := by rw [World.cell?_alloc_lt _ _ _ hl]; exact hc
  have HX := Lib.hid (show (bits .and .u8 v (2 ^ (b % 8) % 256) != 0) = (m && (b == bit)) by rw [hv]; exact has_eq m bit b)
  clear h hv hc
  go_enter Try.func11, Try.ntmps11
  go_wp2
  go_ret
  exact ⟨ret_bool HX.out, HB.out.alloc (Nat.le_refl _) _⟩
set_option maxHeartbeats 1000000 in
theorem set19 (E : Nat) (m : Bool) (bit : Nat) (hb : bit < 256) (w : World) (h : Fv w E 32 (fun x => .int .u8 (bv m bit x))) : Calls Try.prog 19 #[.agg #[.slice (some ⟨E, 0, none⟩) 32 32], .int .u64 (bit : Int)] w fun e w' => e = .returned (.tuple #[]) ∧ Fv w' E 32 (fun x => .int .u8 (bv true bit x)) ∧ Fx (fun j => j = E) w w' := by
  have H := Lib.hid h
  have hc := h.cell (bit / 8) (by omega)
  have ha := and7 ⟨bit, hb⟩
  obtain ⟨v, hv⟩ : ∃ v, v = bv m bit (bit / 8) := ⟨_, rfl⟩
  rw [← hv] at hc
  have hl : E < w.heap.size := cell_lt hc
  have b1 : Below w.heap.size w (w.alloc (.cells #[.slice (some ⟨E, 0, none⟩) 32 32] 38)) := (Below.refl _ _).alloc (Nat.le_refl _) _
  have f1 := h.below b1 hl
  have hc' : (w.alloc (.cells #[.slice (some ⟨E, 0, none⟩) 32 32] 38)).cell? ⟨E, bit / 8, none⟩ = some (.int .u8 v) := by rw [World.cell?_alloc_lt _ _ _ hl]; exact hc
  have hf' := f1.frozen (bit / 8)
  have HX := Lib.hid (show bits .or .u8 v (2 ^ (bit % 8) % 256) = bv true bit (bit / 8) by rw [hv]; exact set_eq m bit)
  have F1 := Lib.hid f1
  have B1 := Lib.hid b1
  clear h hv hc b1 f1
  go_enter Try.func19, Try.ntmps19
  go_wp2
  go_end0
  rw [HX.out]
  have f2 := H.out.set (show bit / 8 < 32 by omega) (.int .u8 (bv true bit (bit / 8)))
  have f3 : Fv (w.setCell ⟨E, bit / 8, none⟩ (.int .u8 (bv true bit (bit / 8)))) E 32 (fun x => .int .u8 (bv true bit x)) := f2.congr (fun x hx => by
    unfold up
    split
    · subst_vars; rfl
    · rename_i e
      show Value.int .u8 (bv m bit x) = .int .u8 (bv true bit x)
      rw [bv_out _ _ _ e, bv_out _ _ _ e])
  exact ⟨rfl, f3.below ((Below.refl _ _).alloc (Nat.le_refl _) _) f3.lt, (Fx.setCell (P := fun j => j = E) (Fx.refl _ _) (p := ⟨E, bit / 8, none⟩) rfl _).alloc _⟩
noncomputable def c215 (g F : Nat) (n : Nat) : Array Value := (Try.prog.built 215 [(0, .pointer (some ⟨g, 0, none⟩)), (5, .agg ((Try.prog.built 197 [(0, .slice (some ⟨F, 0, none⟩) n n)]).getD #[]))]).getD #[]
noncomputable def c197 (F : Nat) (n : Nat) : Array Value := (Try.prog.built 197 [(0, .slice (some ⟨F, 0, none⟩) n n)]).getD #[]
noncomputable def c189 (b : Bool) : Array Value := (Try.prog.built 189 [(55, .bool b)]).getD #[]
theorem c215_at (g F : Nat) (n : Nat) : (c215 g F n).toList[10]? = some (.slice (some ⟨F, 0, none⟩) n n) ∧ (c215 g F n).toList[0]? = some (.pointer (some ⟨g, 0, none⟩)) := ⟨by kernel_rfl, by kernel_rfl⟩
theorem c189_at (b : Bool) : (c189 b).toList[79]? = some (.bool b) := by kernel_rfl
set_option maxRecDepth 100000 in
set_option maxHeartbeats 4000000 in
theorem link15 (g F n : Nat) (w : World) : Calls Try.prog 15 #[.pointer (some ⟨g, 0, none⟩), .slice (some ⟨F, 0, none⟩) n n] w fun e w' => (∃ c, e = .returned (.pointer (some ⟨c, 0, none⟩)) ∧ w'.cell? ⟨c, 10, none⟩ = some (.slice (some ⟨F, 0, none⟩) n n) ∧ w'.cell? ⟨c, 0, none⟩ = some (.pointer (some ⟨g, 0, none⟩)) ∧ w.heap.size ≤ c) ∧ Below w.heap.size w w' := by
  go_enter Try.func15, Try.ntmps15
  go_wp2_with (first | (refine wpList_buildTo rfl 197 _ rfl (some 7) rfl (c197 F n) (by kernel_rfl) ?_) | (refine wpList_buildTo rfl 215 _ rfl (some 8) rfl (c215 g F n) (by kernel_rfl) ?_))
  go_ret
  have r := Row.newArr w 215 (c215 g F n)
  exact ⟨⟨_, rfl, r.at_ (i := 10) (c215_at _ _ _).1, r.at_ (i := 0) (c215_at _ _ _).2, Nat.le_refl _⟩, (Below.refl _ _).alloc (Nat.le_refl _) _⟩
def c62 (I : Nat) : Array Value := #[.slice none 0 0, .pointer none, .iface 104 (.pointer (some ⟨I, 0, none⟩)), .pointer none, .slice none 0 0, .string ⟨#[]⟩, .pointer none, .int .u8 0, .string ⟨#[]⟩, .string ⟨#[]⟩, .string ⟨#[]⟩, .string ⟨#[]⟩, .string ⟨#[]⟩, .string ⟨#[]⟩, .string ⟨#[]⟩, .string ⟨#[]⟩, .int .u8 0, .int .u32 0, .int .u8 0, .bool false, .int .u32 0, .int .u32 0, .int .u8 0, .bool false]
theorem c62_one (I : Nat) : (c62 I).all (·.oneCell') = true := by kernel_rfl
theorem c62_at (I : Nat) : (c62 I).toList[2]? = some (.iface 104 (.pointer (some ⟨I, 0, none⟩))) ∧ (c62 I).toList[22]? = some (.int .u8 0) ∧ (c62 I).size = 24 ∧ (Try.prog.info? 62).map (·.size) = some (c62 I).size := ⟨by kernel_rfl, by kernel_rfl, by kernel_rfl, by kernel_rfl⟩
theorem set_old (I : Nat) : (#[.slice none 0 0, .pointer none, .nilIface, .pointer none, .slice none 0 0, .string ⟨#[]⟩, .pointer none, .int .u8 0, .string ⟨#[]⟩, .string ⟨#[]⟩, .string ⟨#[]⟩, .string ⟨#[]⟩, .string ⟨#[]⟩, .string ⟨#[]⟩, .string ⟨#[]⟩, .string ⟨#[]⟩, .int .u8 0, .int .u32 0, .int .u8 0, .bool false, .int .u32 0, .int .u32 0, .int .u8 0, .bool false] : Array Value).toList.set 2 (.iface 104 (.pointer (some ⟨I, 0, none⟩))) = (c62 I).toList := rfl
set_option maxRecDepth 100000 in
set_option maxHeartbeats 4000000 in
theorem js13 (I : Nat) (w : World) : Calls Try.prog 13 #[.pointer (some ⟨I, 0, none⟩)] w fun e w' => e = .returned (.agg (c62 I)) ∧ Below w.heap.size w w' := by
  obtain ⟨C, hC⟩ : ∃ x, x = c62 I := ⟨_, rfl⟩
  have HC := Lib.hid hC
  have hsz := Lib.hid (show (Try.prog.info? 62).map (·.size) = some C.size from by rw [hC]; exact (c62_at I).2.2.2)
  have h24 := Lib.hid (show C.size = 24 from by rw [hC]; rfl)
  have hone := Lib.hid (show C.all (·.oneCell') = true from by rw [hC]; exact c62_one I)
  have hold := Lib.hid (show Array.size (#[.slice none 0 0, .pointer none, .nilIface, .pointer none, .slice none 0 0, .string ⟨#[]⟩, .pointer none, .int .u8 0, .string ⟨#[]⟩, .string ⟨#[]⟩, .string ⟨#[]⟩, .string ⟨#[]⟩, .string ⟨#[]⟩, .string ⟨#[]⟩, .string ⟨#[]⟩, .string ⟨#[]⟩, .int .u8 0, .int .u32 0, .int .u8 0, .bool false, .int .u32 0, .int .u32 0, .int .u8 0, .bool false] : Array Value) = C.size from by rw [h24.out]; rfl)
  rw [← hC]
  clear hC
  go_enter Try.func13, Try.ntmps13
  go_upto_region 3 with fail
  obtain ⟨w2, hw2⟩ : ∃ w2, w2 = (w.alloc (.cells #[.slice none 0 0, .pointer none, .nilIface, .pointer none, .slice none 0 0, .string ⟨#[]⟩, .pointer none, .int .u8 0, .string ⟨#[]⟩, .string ⟨#[]⟩, .string ⟨#[]⟩, .string ⟨#[]⟩, .string ⟨#[]⟩, .string ⟨#[]⟩, .string ⟨#[]⟩, .string ⟨#[]⟩, .int .u8 0, .int .u32 0, .int .u8 0, .bool false, .int .u32 0, .int .u32 0, .int .u8 0, .bool false] 62)).alloc (.cells #[.slice none 0 0, .pointer none, .iface 104 (.pointer (some ⟨I, 0, none⟩)), .pointer none, .slice none 0 0, .string ⟨#[]⟩, .pointer none, .int .u8 0, .string ⟨#[]⟩, .string ⟨#[]⟩, .string ⟨#[]⟩, .string ⟨#[]⟩, .string ⟨#[]⟩, .string ⟨#[]⟩, .string ⟨#[]⟩, .string ⟨#[]⟩, .int .u8 0, .int .u32 0, .int .u8 0, .bool false, .int .u32 0, .int .u32 0, .int .u8 0, .bool false] 62) := ⟨_, rfl⟩
  rw [← hw2]
  obtain ⟨g, hg⟩ : ∃ g, g = w.heap.size := ⟨_, rfl⟩
  have b2 : Below w.heap.size w w2 := by rw [hw2]; exact ((Below.refl _ _).alloc (Nat.le_refl _) _).alloc (by simp) _
  have hh : w2.heap[g]? = some (.cells #[.slice none 0 0, .pointer none, .nilIface, .pointer none, .slice none 0 0, .string ⟨#[]⟩, .pointer none, .int .u8 0, .string ⟨#[]⟩, .string ⟨#[]⟩, .string ⟨#[]⟩, .string ⟨#[]⟩, .string ⟨#[]⟩, .string ⟨#[]⟩, .string ⟨#[]⟩, .string ⟨#[]⟩, .int .u8 0, .int .u32 0, .int .u8 0, .bool false, .int .u32 0, .int .u32 0, .int .u8 0, .bool false] 62 (0, 0)) := by rw [hw2, hg]; exact (Row.newArr w 62 #[.slice none 0 0, .pointer none, .nilIface, .pointer none, .slice none 0 0, .string ⟨#[]⟩, .pointer none, .int .u8 0, .string ⟨#[]⟩, .string ⟨#[]⟩, .string ⟨#[]⟩, .string ⟨#[]⟩, .string ⟨#[]⟩, .string ⟨#[]⟩, .string ⟨#[]⟩, .string ⟨#[]⟩, .int .u8 0, .int .u32 0, .int .u8 0, .bool false, .int .u32 0, .int .u32 0, .int .u8 0, .bool false]).alloc _
  have rr : w2.rangeAt (g + 1) 0 C.toList := by
    have r := Row.newArr (w.alloc (.cells #[.slice none 0 0, .pointer none, .nilIface, .pointer none, .slice none 0 0, .string ⟨#[]⟩, .pointer none, .int .u8 0, .string ⟨#[]⟩, .string ⟨#[]⟩, .string ⟨#[]⟩, .string ⟨#[]⟩, .string ⟨#[]⟩, .string ⟨#[]⟩, .string ⟨#[]⟩, .string ⟨#[]⟩, .int .u8 0, .int .u32 0, .int .u8 0, .bool false, .int .u32 0, .int .u32 0, .int .u8 0, .bool false] 62)) 62 #[.slice none 0 0, .pointer none, .iface 104 (.pointer (some ⟨I, 0, none⟩)), .pointer none, .slice none 0 0, .string ⟨#[]⟩, .pointer none, .int .u8 0, .string ⟨#[]⟩, .string ⟨#[]⟩, .string ⟨#[]⟩, .string ⟨#[]⟩, .string ⟨#[]⟩, .string ⟨#[]⟩, .string ⟨#[]⟩, .string ⟨#[]⟩, .int .u8 0, .int .u32 0, .int .u8 0, .bool false, .int .u32 0, .int .u32 0, .int .u8 0, .bool false]
    simp only [World.size_alloc] at r
    rw [← hw2, ← hg] at r
    intro j v hv
    rw [Nat.zero_add]
    exact r.at_ (by rw [HC.out] at hv; exact hv)
  have rl : (Try.prog.info? 62).map (·.size) = some C.toList.length := by rw [Array.length_toList]; exact hsz.out
  have ht : C.toList.toArray = C := by simp
  rw [← hg] at b2 ⊢
  have HH := Lib.hid hh
  have RR := Lib.hid rr
  have RL := Lib.hid rl
  have B2 := Lib.hid b2
  have HG := Lib.hid hg
  clear hw2 hh rr rl b2 hg
  go_wp2_with (first | (refine wpList_load_mid rfl 62 _ rfl (g + 1) 0 rfl C.toList _ RR.out Try.underlying62 rfl RL.out ?_; rw [ht]) | (refine wpList_store_rowTo rfl 62 _ _ rfl rfl g C rfl rfl 62 _ HH.out hsz.out hold.out hone.out ?_))
  refine bodyPost_ret (v := .agg C) (results_cell_row rfl _ _ g 62 C (0, 0) _ rfl (setRow_heap w2 g _ C 62 (0, 0) HH.out) Try.underlying62 rfl hsz.out) rfl ⟨rfl, ?_⟩
  rw [← HG.out]
  exact ⟨B2.out.os, B2.out.tape, B2.out.output, by simpa using B2.out.size, fun j hj => (setRow_other _ _ _ _ (by omega)).trans (B2.out.block j hj)⟩
end Go.Proofs.Ytpidbikdncgogaa.MrS
