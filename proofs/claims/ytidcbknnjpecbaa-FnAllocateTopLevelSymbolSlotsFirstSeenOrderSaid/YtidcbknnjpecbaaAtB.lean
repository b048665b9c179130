/- FnAllocateTopLevelSymbolSlotsFirstSeenOrder: NewMinifyRenamer, keys. -/
import Derived.Test.YtidcbknnjpecbaaRows
import Derived.Test.YtidcbknnjpecbaaMem
import Derived.Test.YtidcbknnjpecbaaSl
import Derived.Test.YtidcbknnjpecbaaAtA
import Derived.Test.YtidcbknnjpecbaaInvx
import Derived.Test.YtidcbknnjpecbaaMapK
import Derived.Carry
import Derived.WalkKit
import Derived.ProofKit
import Derived.OpenShut
import Derived.Below
import Derived.WalkLawsBesides
import Derived.Lib.Hide
import Derived.Outline
import Derived.RegionTactic
import Derived.Deep.QuietTactic
import Derived.BigQuiet
import Derived.WalkSpells
import Derived.Deep.OwnRows
import Derived.IntWalk
import Derived.Deep.DeepMust
namespace Go.Proofs.Ytidcbknnjpecbaa.AtB
open Go.RowKit Mem Sl
set_option linter.unusedVariables false
open Args AtA MapK Go.Proofs.Ytidcbknnjpecbaa.Inv Invx Go.Maps

theorem keyed50 : Keyed Try.prog 50 := Keyed.of_law (deep_law_laid (by kernel_rfl) (m := 5) (by decide) (by decide +kernel) (by kernel_rfl) (by kernel_rfl))
def refv (i : Nat) : Value := .agg #[.int .u32 0, .int .u32 (i : Int)]
theorem info83 : (Try.prog.info? 83).map (fun i => (i.zero, i.size, i.bytes)) = some (some (.agg #[.string ByteArray.empty, .int .u32 0, .int .u32 0]), 3, 24) := by kernel_rfl
theorem run_make_wide {P : Program} (t e : TypeId) (z : Value) (size bytes : Nat) (cs : Array Value) (ht : P.underlying t = some (.slice e)) (hinfo : (P.info? e).map (fun i => (i.zero, i.size, i.bytes)) = some (some z, size, bytes)) (hz1 : z.cells = cs)
    (kl kc : IntKind) (n : Nat) (hbytes : bytes * n ≤ 281474976710656) (h63 : n ≤ 9223372036854775807) (w : World) :
    (Instr.makeSlice t (.int kl (n : Int)) (.int kc (n : Int))).run P w = .ok (.slice (some ⟨w.heap.size, 0, none⟩) n n) (w.alloc (.cells (madeCells cs (n * size)) e)) := by
  obtain ⟨i, hi, hzz⟩ := Option.map_eq_some_iff.1 hinfo
  simp only [Prod.mk.injEq] at hzz
  obtain ⟨hz, hs, hb⟩ := hzz
  have hb' : (i.bytes : Int) * (n : Int) ≤ 281474976710656 := by
    have h : ((i.bytes * n : Nat) : Int) ≤ 281474976710656 := by rw [hb]; omega
    rwa [Int.natCast_mul] at h
  have hr := run_make (P := P) w t e i z ht hi hz kl kc n n (by omega) (Int.le_refl _) hb' (by omega)
  simp only [Int.toNat_natCast, hs, hz1] at hr
  exact hr
/-- Block g is n zero slots. -/
def Zs (w : World) (g n : Nat) : Prop := w.heap[g]? = some (.cells (madeCells #[.string ByteArray.empty, .int .u32 0, .int .u32 0] (n * 3)) 83)
theorem Zs.lt {w : World} {g n : Nat} (h : Zs w g n) : g < w.heap.size := (Array.getElem?_eq_some_iff.1 h).1
theorem Zs.below {w w' : World} {g n : Nat} (h : Zs w g n) (hb : Below w.heap.size w w') : Zs w' g n := (hb.block g h.lt).trans h
def SlV (H : Nat) (w : World) (n : Nat) (v : Value) : Prop := ∃ g, v = .slice (some ⟨g, 0, none⟩) n n ∧ Zs w g n ∧ H ≤ g
structure Slots (H : Nat) (w : World) (n0 n1 n2 n3 : Nat) (s0 s1 s2 s3 : Value) : Prop where
  a0 : SlV H w n0 s0
  a1 : SlV H w n1 s1
  a2 : SlV H w n2 s2
  a3 : SlV H w n3 s3
  ne : ∀ g, s0.ownBlock = some g → s1.ownBlock ≠ some g
def MpV (H : Nat) (w : World) (v : Value) : Prop := ∃ b, v = .map (some b) ∧ w.heap[b]? = some (.map #[] 0) ∧ H ≤ b
theorem SlV.below {H : Nat} {w w' : World} {n : Nat} {v : Value} (h : SlV H w n v) (hb : Below w.heap.size w w') : SlV H w' n v := by
  obtain ⟨g, h1, h2, h3⟩ := h
  exact ⟨g, h1, h2.below hb, h3⟩
theorem MpV.below {H : Nat} {w w' : World} {v : Value} (h : MpV H w v) (hb : Below w.heap.size w w') : MpV H w' v := by
  obtain ⟨g, h1, h2, h3⟩ := h
  exact ⟨g, h1, (hb.block g (Array.getElem?_eq_some_iff.1 h2).1).trans h2, h3⟩
theorem Slots.below {H : Nat} {w w' : World} {n0 n1 n2 n3 : Nat} {s0 s1 s2 s3 : Value} (h : Slots H w n0 n1 n2 n3 s0 s1 s2 s3) (hb : Below w.heap.size w w') : Slots H w' n0 n1 n2 n3 s0 s1 s2 s3 :=
  ⟨h.a0.below hb, h.a1.below hb, h.a2.below hb, h.a3.below hb, h.ne⟩
/-- The renamer: block p, its cells, the four rows of slots, the map. -/
def Ren (H : Nat) (rb : Value) (sm : Value) (w : World) (n0 n1 n2 n3 : Nat) (v : Value) : Prop := ∃ p s0 s1 s2 s3 m, v = .pointer (some ⟨p, 0, none⟩) ∧ Row w p 58 [rb, s0, s1, s2, s3, m, sm] ∧ Slots H w n0 n1 n2 n3 s0 s1 s2 s3 ∧ MpV H w m ∧ H ≤ p
theorem Ren.below {H : Nat} {rb sm : Value} {w w' : World} {n0 n1 n2 n3 : Nat} {v : Value} (h : Ren H rb sm w n0 n1 n2 n3 v) (hb : Below w.heap.size w w') : Ren H rb sm w' n0 n1 n2 n3 v := by
  obtain ⟨p, s0, s1, s2, s3, m, h1, h2, h3, h4, h5⟩ := h
  exact ⟨p, s0, s1, s2, s3, m, h1, h2.below hb h2.lt, h3.below hb, h4.below hb, h5⟩
def V (H : Nat) (rb sm : Value) (n0 n1 n2 n3 : Nat) (t : Nat) (v : Value) (w : World) : Prop :=
  match t with
  | 2 => v = rb
  | 3 => v = .pointer (some ⟨H, 0, none⟩)
  | 4 => v = .pointer (some ⟨H + 1, 0, none⟩)
  | 7 => v = .agg #[sm]
  | 8 => v = rb
  | 9 => v = .pointer (some ⟨H + 1, 0, none⟩)
  | 12 => v = .pointer (some ⟨H + 1, 1, none⟩)
  | 15 => v = .pointer (some ⟨H + 1, 2, none⟩)
  | 18 => v = .pointer (some ⟨H + 1, 3, none⟩)
  | 10 => v = .int .u32 n0
  | 13 => v = .int .u32 n1
  | 16 => v = .int .u32 n2
  | 19 => v = .int .u32 n3
  | 11 => SlV H w n0 v
  | 14 => SlV H w n1 v
  | 17 => SlV H w n2 v
  | 20 => SlV H w n3 v
  | 21 => ∃ s0 s1 s2 s3, v = .agg #[s0, s1, s2, s3] ∧ Slots H w n0 n1 n2 n3 s0 s1 s2 s3
  | 22 => MpV H w v
  | 23 => ∃ s0 s1 s2 s3 m, v = .agg #[rb, s0, s1, s2, s3, m, sm] ∧ Slots H w n0 n1 n2 n3 s0 s1 s2 s3 ∧ MpV H w m
  | 24 => Ren H rb sm w n0 n1 n2 n3 v
  | 6 => Ren H rb sm w n0 n1 n2 n3 v
  | _ => True
theorem V_mono (H : Nat) (rb sm : Value) (n0 n1 n2 n3 t : Nat) (v : Value) (w w' : World) (h : V H rb sm n0 n1 n2 n3 t v w) (hb : Below w.heap.size w w') : V H rb sm n0 n1 n2 n3 t v w' := by
  unfold V at h ⊢
  split at h
  all_goals first | exact h | exact SlV.below h hb | exact MpV.below h hb | exact Ren.below h hb | skip
  · obtain ⟨s0, s1, s2, s3, h1, h2⟩ := h
    exact ⟨s0, s1, s2, s3, h1, h2.below hb⟩
  · obtain ⟨s0, s1, s2, s3, m, h1, h2, h3⟩ := h
    exact ⟨s0, s1, s2, s3, m, h1, h2.below hb, h3.below hb⟩
/-- The two rows of slots that are made lie apart. -/
def X (a : Act) (w : World) : Prop := (∀ g, (a.tmps.getD 11 undef).ownBlock = some g → g < w.heap.size ∧ (a.tmps.getD 14 undef).ownBlock ≠ some g) ∧ ∀ g, (a.tmps.getD 14 undef).ownBlock = some g → g < w.heap.size
theorem getD_put (a : Act) (d t : Nat) (v : Value) (h : d ≠ t) : (a.put (some d) v).tmps.getD t undef = a.tmps.getD t undef := by
  simp [Act.put, Array.getD_eq_getD_getElem?, Array.getElem?_setIfInBounds_ne h]
theorem getD_self (a : Act) (d : Nat) (v : Value) (h : d < a.tmps.size) : (a.put (some d) v).tmps.getD d undef = v := by
  simp [Act.put, Array.getD_eq_getD_getElem?, h]
theorem X.keep {a : Act} {w w' : World} (h : X a w) (d : Nat) (v : Value) (h1 : d ≠ 11) (h2 : d ≠ 14) (hs : w.heap.size ≤ w'.heap.size) : X (a.put (some d) v) w' := by
  unfold X
  rw [getD_put a d 11 v h1, getD_put a d 14 v h2]
  exact ⟨fun g hg => ⟨Nat.lt_of_lt_of_le (h.1 g hg).1 hs, (h.1 g hg).2⟩, fun g hg => Nat.lt_of_lt_of_le (h.2 g hg) hs⟩
theorem X.new11 {a : Act} {w w' : World} (h : X a w) (n : Nat) (hz : a.tmps.size = 25) (hs : w'.heap.size = w.heap.size + 1) : X (a.put (some 11) (.slice (some ⟨w.heap.size, 0, none⟩) n n)) w' := by
  unfold X
  rw [getD_self a 11 _ (by omega), getD_put a 11 14 _ (by decide)]
  refine ⟨fun g hg => ?_, fun g hg => by have := h.2 g hg; omega⟩
  have e : w.heap.size = g := by simpa [Value.ownBlock] using hg
  subst e
  exact ⟨by omega, fun e => by have := h.2 _ e; omega⟩
theorem X.new14 {a : Act} {w w' : World} (h : X a w) (n : Nat) (hz : a.tmps.size = 25) (hs : w'.heap.size = w.heap.size + 1) : X (a.put (some 14) (.slice (some ⟨w.heap.size, 0, none⟩) n n)) w' := by
  unfold X
  rw [getD_self a 14 _ (by omega), getD_put a 14 11 _ (by decide)]
  refine ⟨fun g hg => ⟨by have := (h.1 g hg).1; omega, fun e => ?_⟩, fun g hg => ?_⟩
  · have e' : w.heap.size = g := by simpa [Value.ownBlock] using e
    have := (h.1 g hg).1
    omega
  · have e : w.heap.size = g := by simpa [Value.ownBlock] using hg
    omega
set_option maxHeartbeats 2000000 in
set_option maxRecDepth 100000 in
theorem new5 (n0 n1 n2 n3 : Nat) (rb sm : Value) (w : World) (h0 : n0 ≤ 65536) (h1 : n1 ≤ 65536) (h2 : n2 ≤ 65536) (h3 : n3 ≤ 65536) (hrb : ∃ b, rb = .map b) (hsm : ∃ A n c, sm = .slice A n c) :
    Calls Try.prog 5 #[.agg #[sm], .agg #[.int .u32 n0, .int .u32 n1, .int .u32 n2, .int .u32 n3], rb] w fun e w' => (∃ v, e = .returned v ∧ Ren w.heap.size rb sm w' n0 n1 n2 n3 v) ∧ Below w.heap.size w w' := by
  obtain ⟨b, rfl⟩ := hrb
  obtain ⟨A, n, c, rfl⟩ := hsm
  go_enter Try.func5, Try.ntmps5
  go_wp2
  rename_i K hK
  have hw : Row ((w.alloc (Obj.cells #[Value.slice A n c] 30)).alloc (Obj.cells #[.int .u32 n0, .int .u32 n1, .int .u32 n2, .int .u32 n3] 33)) w.heap.size 30 [.slice A n c] := (Row.new w 30 [.slice A n c]).alloc _
  have hw1 : Row ((w.alloc (Obj.cells #[Value.slice A n c] 30)).alloc (Obj.cells #[.int .u32 n0, .int .u32 n1, .int .u32 n2, .int .u32 n3] 33)) (w.heap.size + 1) 33 [.int .u32 n0, .int .u32 n1, .int .u32 n2, .int .u32 n3] := by
    have := Row.new (w.alloc (Obj.cells #[Value.slice A n c] 30)) 33 [.int .u32 n0, .int .u32 n1, .int .u32 n2, .int .u32 n3]
    simpa using this
  have hbel : Below w.heap.size w ((w.alloc (Obj.cells #[Value.slice A n c] 30)).alloc (Obj.cells #[.int .u32 n0, .int .u32 n1, .int .u32 n2, .int .u32 n3] 33)) := ((Below.refl _ _).alloc (Nat.le_refl _) _).alloc (by simp) _
  generalize (w.alloc (Obj.cells #[Value.slice A n c] 30)).alloc (Obj.cells #[.int .u32 n0, .int .u32 n1, .int .u32 n2, .int .u32 n3] 33) = W at hw hw1 hbel ⊢
  refine wp_region_valsx (by kernel_rfl) [2, 3, 4] (V w.heap.size (.map b) (.slice A n c) n0 n1 n2 n3) (fun w' => Row w' w.heap.size 30 [.slice A n c] ∧ Row w' (w.heap.size + 1) 33 [.int .u32 n0, .int .u32 n1, .int .u32 n2, .int .u32 n3] ∧ Below w.heap.size w w') X 25 rfl (by decide +kernel) (V_mono _ _ _ _ _ _ _) ⟨hw, hw1, hbel.drew⟩ ⟨fun g hg => (by cases hg), fun g hg => (by cases hg)⟩ ?_ ?_ ?_
  · intro t ht
    simp at ht
    rcases ht with rfl | rfl | rfl <;> rfl
  · simp only [List.forall_mem_cons]
    refine ⟨?_, ?_, ?_, ?_, ?_, ?_, ?_, ?_, ?_, ?_, ?_, ?_, ?_, ?_, ?_, ?_, ?_, ?_, ?_, by simp⟩
    · rintro a' w' ⟨g1, g2, g3⟩ gx hz hV
      have v3 : a'.tmps.getD 3 undef = .pointer (some ⟨w.heap.size, 0, none⟩) := hV 3 (by simp [tmpsOf, Op.operands])
      have c0 := g1.at_ (i := 0) rfl
      unfold Oper.wp
      simp [execOp, Act.eval, go_sem, v3, c0]
      exact ⟨_, rfl, rfl, Below.refl _ _, ⟨g1, g2, g3⟩, gx.keep 7 _ (by decide) (by decide) (Nat.le_refl _)⟩
    · rintro a' w' ⟨g1, g2, g3⟩ gx hz hV
      have v2 : a'.tmps.getD 2 undef = .map b := hV 2 (by simp [tmpsOf, Op.operands])
      unfold Oper.wp
      simp [execOp, Act.eval, go_sem, v2]
      exact ⟨_, rfl, rfl, Below.refl _ _, ⟨g1, g2, g3⟩, gx.keep 8 _ (by decide) (by decide) (Nat.le_refl _)⟩
    · rintro a' w' ⟨g1, g2, g3⟩ gx hz hV
      have v4 : a'.tmps.getD 4 undef = .pointer (some ⟨w.heap.size + 1, 0, none⟩) := hV 4 (by simp [tmpsOf, Op.operands])
      unfold Oper.wp
      simp [execOp, Act.eval, go_sem, v4]
      exact ⟨_, rfl, rfl, Below.refl _ _, ⟨g1, g2, g3⟩, gx.keep 9 _ (by decide) (by decide) (Nat.le_refl _)⟩
    · rintro a' w' ⟨g1, g2, g3⟩ gx hz hV
      have v9 : a'.tmps.getD 9 undef = .pointer (some ⟨w.heap.size + 1, 0, none⟩) := hV 9 (by simp [tmpsOf, Op.operands])
      have c0 := g2.at_ (i := 0) rfl
      unfold Oper.wp
      simp [execOp, Act.eval, go_sem, v9, c0]
      exact ⟨_, rfl, rfl, Below.refl _ _, ⟨g1, g2, g3⟩, gx.keep 10 _ (by decide) (by decide) (Nat.le_refl _)⟩
    · rintro a' w' ⟨g1, g2, g3⟩ gx hz hV
      have v10 : a'.tmps.getD 10 undef = .int .u32 n0 := hV 10 (by simp [tmpsOf, Op.operands])
      have hmk := run_make_wide (P := Try.prog) 54 83 _ 3 24 _ Try.underlying54 info83 rfl .u32 .u32 n0 (by omega) (by omega) w'
      unfold Oper.wp
      simp [execOp, Act.eval, go_sem, v10, hmk]
      exact ⟨_, rfl, ⟨_, rfl, heap_alloc_new _ _, g3.size⟩, (Below.refl _ _).alloc (Nat.le_refl _) _, ⟨g1.alloc _, g2.alloc _, g3.alloc g3.size _⟩, gx.new11 _ hz (by simp)⟩
    · rintro a' w' ⟨g1, g2, g3⟩ gx hz hV
      have v4 : a'.tmps.getD 4 undef = .pointer (some ⟨w.heap.size + 1, 0, none⟩) := hV 4 (by simp [tmpsOf, Op.operands])
      unfold Oper.wp
      simp [execOp, Act.eval, go_sem, v4]
      exact ⟨_, rfl, rfl, Below.refl _ _, ⟨g1, g2, g3⟩, gx.keep 12 _ (by decide) (by decide) (Nat.le_refl _)⟩
    · rintro a' w' ⟨g1, g2, g3⟩ gx hz hV
      have v12 : a'.tmps.getD 12 undef = .pointer (some ⟨w.heap.size + 1, 1, none⟩) := hV 12 (by simp [tmpsOf, Op.operands])
      have c0 := g2.at_ (i := 1) rfl
      unfold Oper.wp
      simp [execOp, Act.eval, go_sem, v12, c0]
      exact ⟨_, rfl, rfl, Below.refl _ _, ⟨g1, g2, g3⟩, gx.keep 13 _ (by decide) (by decide) (Nat.le_refl _)⟩
    · rintro a' w' ⟨g1, g2, g3⟩ gx hz hV
      have v13 : a'.tmps.getD 13 undef = .int .u32 n1 := hV 13 (by simp [tmpsOf, Op.operands])
      have hmk := run_make_wide (P := Try.prog) 54 83 _ 3 24 _ Try.underlying54 info83 rfl .u32 .u32 n1 (by omega) (by omega) w'
      unfold Oper.wp
      simp [execOp, Act.eval, go_sem, v13, hmk]
      exact ⟨_, rfl, ⟨_, rfl, heap_alloc_new _ _, g3.size⟩, (Below.refl _ _).alloc (Nat.le_refl _) _, ⟨g1.alloc _, g2.alloc _, g3.alloc g3.size _⟩, gx.new14 _ hz (by simp)⟩
    · rintro a' w' ⟨g1, g2, g3⟩ gx hz hV
      have v4 : a'.tmps.getD 4 undef = .pointer (some ⟨w.heap.size + 1, 0, none⟩) := hV 4 (by simp [tmpsOf, Op.operands])
      unfold Oper.wp
      simp [execOp, Act.eval, go_sem, v4]
      exact ⟨_, rfl, rfl, Below.refl _ _, ⟨g1, g2, g3⟩, gx.keep 15 _ (by decide) (by decide) (Nat.le_refl _)⟩
    · rintro a' w' ⟨g1, g2, g3⟩ gx hz hV
      have v15 : a'.tmps.getD 15 undef = .pointer (some ⟨w.heap.size + 1, 2, none⟩) := hV 15 (by simp [tmpsOf, Op.operands])
      have c0 := g2.at_ (i := 2) rfl
      unfold Oper.wp
      simp [execOp, Act.eval, go_sem, v15, c0]
      exact ⟨_, rfl, rfl, Below.refl _ _, ⟨g1, g2, g3⟩, gx.keep 16 _ (by decide) (by decide) (Nat.le_refl _)⟩
    · rintro a' w' ⟨g1, g2, g3⟩ gx hz hV
      have v16 : a'.tmps.getD 16 undef = .int .u32 n2 := hV 16 (by simp [tmpsOf, Op.operands])
      have hmk := run_make_wide (P := Try.prog) 54 83 _ 3 24 _ Try.underlying54 info83 rfl .u32 .u32 n2 (by omega) (by omega) w'
      unfold Oper.wp
      simp [execOp, Act.eval, go_sem, v16, hmk]
      exact ⟨_, rfl, ⟨_, rfl, heap_alloc_new _ _, g3.size⟩, (Below.refl _ _).alloc (Nat.le_refl _) _, ⟨g1.alloc _, g2.alloc _, g3.alloc g3.size _⟩, gx.keep 17 _ (by decide) (by decide) (by simp)⟩
    · rintro a' w' ⟨g1, g2, g3⟩ gx hz hV
      have v4 : a'.tmps.getD 4 undef = .pointer (some ⟨w.heap.size + 1, 0, none⟩) := hV 4 (by simp [tmpsOf, Op.operands])
      unfold Oper.wp
      simp [execOp, Act.eval, go_sem, v4]
      exact ⟨_, rfl, rfl, Below.refl _ _, ⟨g1, g2, g3⟩, gx.keep 18 _ (by decide) (by decide) (Nat.le_refl _)⟩
    · rintro a' w' ⟨g1, g2, g3⟩ gx hz hV
      have v18 : a'.tmps.getD 18 undef = .pointer (some ⟨w.heap.size + 1, 3, none⟩) := hV 18 (by simp [tmpsOf, Op.operands])
      have c0 := g2.at_ (i := 3) rfl
      unfold Oper.wp
      simp [execOp, Act.eval, go_sem, v18, c0]
      exact ⟨_, rfl, rfl, Below.refl _ _, ⟨g1, g2, g3⟩, gx.keep 19 _ (by decide) (by decide) (Nat.le_refl _)⟩
    · rintro a' w' ⟨g1, g2, g3⟩ gx hz hV
      have v19 : a'.tmps.getD 19 undef = .int .u32 n3 := hV 19 (by simp [tmpsOf, Op.operands])
      have hmk := run_make_wide (P := Try.prog) 54 83 _ 3 24 _ Try.underlying54 info83 rfl .u32 .u32 n3 (by omega) (by omega) w'
      unfold Oper.wp
      simp [execOp, Act.eval, go_sem, v19, hmk]
      exact ⟨_, rfl, ⟨_, rfl, heap_alloc_new _ _, g3.size⟩, (Below.refl _ _).alloc (Nat.le_refl _) _, ⟨g1.alloc _, g2.alloc _, g3.alloc g3.size _⟩, gx.keep 20 _ (by decide) (by decide) (by simp)⟩
    · rintro a' w' ⟨g1, g2, g3⟩ gx hz hV
      obtain ⟨b0, e0, z0, l0⟩ : SlV w.heap.size w' n0 _ := hV 11 (by simp [tmpsOf, Op.operands])
      obtain ⟨b1, e1, z1, l1⟩ : SlV w.heap.size w' n1 _ := hV 14 (by simp [tmpsOf, Op.operands])
      obtain ⟨b2, e2, z2, l2⟩ : SlV w.heap.size w' n2 _ := hV 17 (by simp [tmpsOf, Op.operands])
      obtain ⟨b3, e3, z3, l3⟩ : SlV w.heap.size w' n3 _ := hV 20 (by simp [tmpsOf, Op.operands])
      have hne := gx.1
      rw [e0, e1] at hne
      rw [Array.getD_eq_getD_getElem?] at e0 e1 e2 e3
      unfold Oper.wp
      simp [execOp, Act.eval, go_sem, e0, e1, e2, e3]
      exact ⟨_, rfl, ⟨_, _, _, _, rfl, ⟨b0, rfl, z0, l0⟩, ⟨b1, rfl, z1, l1⟩, ⟨b2, rfl, z2, l2⟩, ⟨b3, rfl, z3, l3⟩, fun g hg => (hne g hg).2⟩, Below.refl _ _, ⟨g1, g2, g3⟩, gx.keep 21 _ (by decide) (by decide) (Nat.le_refl _)⟩
    · rintro a' w' ⟨g1, g2, g3⟩ gx hz hV
      have hmm := @run_makeMap Try.prog
      unfold Oper.wp
      simp [execOp, go_sem, hmm]
      exact ⟨_, rfl, ⟨_, rfl, heap_alloc_new _ _, g3.size⟩, (Below.refl _ _).alloc (Nat.le_refl _) _, ⟨g1.alloc _, g2.alloc _, g3.alloc g3.size _⟩, gx.keep 22 _ (by decide) (by decide) (by simp)⟩
    · rintro a' w' ⟨g1, g2, g3⟩ gx hz hV
      have v7 : a'.tmps.getD 7 undef = .agg #[.slice A n c] := hV 7 (by simp [tmpsOf, Op.operands])
      have v8 : a'.tmps.getD 8 undef = .map b := hV 8 (by simp [tmpsOf, Op.operands])
      obtain ⟨s0, s1, s2, s3, e0, hs⟩ : ∃ s0 s1 s2 s3, _ = Value.agg #[s0, s1, s2, s3] ∧ Slots w.heap.size w' n0 n1 n2 n3 s0 s1 s2 s3 := hV 21 (by simp [tmpsOf, Op.operands])
      obtain ⟨b9, e1, hm, hl⟩ : MpV w.heap.size w' _ := hV 22 (by simp [tmpsOf, Op.operands])
      have HS := hs
      obtain ⟨⟨b0, rfl, z0⟩, ⟨b1, rfl, z1⟩, ⟨b2, rfl, z2⟩, ⟨b3, rfl, z3⟩, _⟩ := hs
      rw [Array.getD_eq_getD_getElem?] at v7 v8 e0 e1
      unfold Oper.wp
      simp [execOp, Act.eval, go_sem, v7, v8, e0, e1]
      exact ⟨_, rfl, ⟨_, _, _, _, _, rfl, HS, ⟨b9, rfl, hm, hl⟩⟩, Below.refl _ _, ⟨g1, g2, g3⟩, gx.keep 23 _ (by decide) (by decide) (Nat.le_refl _)⟩
    · rintro a' w' ⟨g1, g2, g3⟩ gx hz hV
      obtain ⟨s0, s1, s2, s3, m, e0, hs, hm⟩ : ∃ s0 s1 s2 s3 m, _ = Value.agg #[.map b, s0, s1, s2, s3, m, .slice A n c] ∧ Slots w.heap.size w' n0 n1 n2 n3 s0 s1 s2 s3 ∧ MpV w.heap.size w' m := hV 23 (by simp [tmpsOf, Op.operands])
      unfold Oper.wp
      simp [execOp, Act.eval, go_sem, e0]
      exact ⟨_, rfl, ⟨_, s0, s1, s2, s3, m, rfl, Row.newArr _ _ _, hs.below ((Below.refl _ _).alloc (Nat.le_refl _) _), hm.below ((Below.refl _ _).alloc (Nat.le_refl _) _), g3.size⟩, (Below.refl _ _).alloc (Nat.le_refl _) _, ⟨g1.alloc _, g2.alloc _, g3.alloc g3.size _⟩, gx.keep 24 _ (by decide) (by decide) (by simp)⟩
    · rintro a' w' ⟨g1, g2, g3⟩ gx hz hV
      have e0 : Ren w.heap.size (.map b) (.slice A n c) w' n0 n1 n2 n3 _ := hV 24 (by simp [tmpsOf, Op.operands])
      rw [Array.getD_eq_getD_getElem?] at e0
      unfold Oper.wp
      simp [execOp, Act.eval, go_sem]
      exact ⟨_, rfl, e0, Below.refl _ _, ⟨g1, g2, g3⟩, gx.keep 6 _ (by decide) (by decide) (Nat.le_refl _)⟩
  · rintro a' w' ⟨g1, g2, g3⟩ gx hdf hsz hkeep hV
    have h6 : Ren w.heap.size (.map b) (.slice A n c) w' n0 n1 n2 n3 (a'.tmps.getD 6 undef) := hV 18 6 rfl
    apply hK
    apply wp_ret
    refine bodyPost_ret (v := a'.tmps.getD 6 undef) ?_ hdf ?_
    · simp [results, Try.results5]
    · exact ⟨⟨_, rfl, h6⟩, g3⟩
end Go.Proofs.Ytidcbknnjpecbaa.AtB
