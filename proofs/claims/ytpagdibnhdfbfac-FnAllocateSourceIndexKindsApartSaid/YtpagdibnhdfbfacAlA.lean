/- Get: the cache of indices by path and kind. -/
import Derived.Test.YtpagdibnhdfbfacRows
import Derived.Test.YtpagdibnhdfbfacMem
import Derived.Test.YtpagdibnhdfbfacSl
import Derived.Test.YtpagdibnhdfbfacLocks
import Derived.Conc.MuLone
import Derived.Laws.StructEq
import Derived.MapKept
import Derived.Laws.AppendOwn
import Derived.Deep.RegionLaw
import Derived.WalkKit
import Derived.ProofKit
import Derived.OpenShut
import Derived.Below
import Derived.WalkLawsBesides
import Derived.Lib.Hide
import Derived.Outline
import Derived.RegionTactic
import Derived.Deep.QuietTactic
import Derived.BigQuiet
import Derived.WalkSpells
import Derived.Deep.OwnRows
import Derived.IntWalk
import Derived.Deep.DeepMust
namespace Go.Proofs.Ytpagdibnhdfbfac.AlA
open Go.RowKit Mem Sl
set_option linter.unusedVariables false
open Locks Go.MuLone Go.MapKept

/-- The key of a path's text and a kind. -/
def kd (b : Bool) : Int := if b then 1 else 0
def key (t : ByteArray) (b : Bool) : Value := .agg #[.string t, .string ⟨#[]⟩, .string ⟨#[]⟩, .string ⟨#[]⟩, .int .u8 0, .int .u8 (kd b)]
theorem check_key (t : ByteArray) (b e : Bool) (w : World) : (Instr.checkKey e 10000 136 (key t b)).run Try.prog w = .ok () w := by
  cases b <;> cases e <;> kernel_rfl
set_option maxRecDepth 100000 in
theorem eq_key (t : ByteArray) (b b' : Bool) (w : World) : (Op.equal 136 (key t b) (key t b')).run Try.prog w = .ok (b == b') w := by
  unfold Op.equal Op.maxDepth
  cases b <;> cases b' <;> simp [go_sem, key, kd]
/-- The number under a kind. -/
def look (al : List (Bool × Nat)) (b : Bool) : Option Nat := (al.find? (·.1 == b)).map (·.2)
/-- The map at g holds the list al, all under the text t. -/
def EM (w : World) (g : Nat) (t : ByteArray) (al : List (Bool × Nat)) : Prop :=
  ∃ es clock, w.heap[g]? = some (.map es clock) ∧ es.toList.map (fun x => (x.key, x.val)) = al.map fun p => (key t p.1, Value.int .u32 (p.2 : Int))
theorem find_run (t : ByteArray) (b : Bool) (w : World) : ∀ (al : List (Bool × Nat)) (es : List MapEntry) (i : Nat), es.map (fun x => (x.key, x.val)) = al.map (fun p => (key t p.1, Value.int .u32 (p.2 : Int))) →
    ∃ r, (Instr.findAsking 136 (key t b) es i).run Try.prog w = .ok r w ∧ r.map (·.2) = (look al b).map fun x => Value.int .u32 (x : Int)
  | [], [], i, _ => ⟨none, rfl, rfl⟩
  | [], _ :: _, i, h => by simp at h
  | _ :: _, [], i, h => by simp at h
  | p :: al, e :: es, i, h => by
    simp only [List.map_cons, List.cons.injEq, Prod.mk.injEq] at h
    obtain ⟨⟨h1, h2⟩, h3⟩ := h
    have he := eq_key t b p.1 w
    rw [← h1] at he
    by_cases hb : b = p.1
    · have hb' : (b == p.1) = true := by simpa using hb
      rw [hb'] at he
      refine ⟨some (i, e.val), ?_, ?_⟩
      · rw [Instr.findAsking]
        simp only [Sem.run_bind, he, Result.andThen_ok, if_true, Sem.run_pure]
      · simp [look, hb, h2]
    · have hb' : (b == p.1) = false := by simpa using hb
      obtain ⟨r, hr, hv⟩ := find_run t b w al es (i + 1) h3
      refine ⟨r, ?_, ?_⟩
      · rw [Instr.findAsking]
        simp only [Sem.run_bind, he, Result.andThen_ok, hb', Bool.false_eq_true, if_false]
        exact hr
      · rw [hv]
        have : (p.1 == b) = false := by simpa using fun e => hb e.symm
        simp [look, this]
theorem findKey_run (t : ByteArray) (b : Bool) (w : World) (al : List (Bool × Nat)) (es : List MapEntry) (h : es.map (fun x => (x.key, x.val)) = al.map (fun p => (key t p.1, Value.int .u32 (p.2 : Int)))) :
    ∃ r, (Instr.findKey 136 (key t b) es).run Try.prog w = .ok r w ∧ r.map (·.2) = (look al b).map fun x => Value.int .u32 (x : Int) := by
  have hu : Try.prog.underlying 136 = _ := Try.underlying136
  cases es with
  | nil =>
    cases al with
    | nil => exact ⟨none, by simp [Instr.findKey, run_underlying hu, Instr.findNow], rfl⟩
    | cons _ _ => simp at h
  | cons e es =>
    obtain ⟨r, hr, hv⟩ := find_run t b w al (e :: es) 0 h
    refine ⟨r, ?_, hv⟩
    have hn : ∀ d, Instr.findNow (.struct d) (key t b) (e :: es) 0 = none := by
      intro d
      simp [Instr.findNow, Instr.sameNow]
    simp only [Instr.findKey, Sem.run_bind, run_underlying hu, Result.andThen_ok, hn]
    exact hr
theorem EM.look_run {w : World} {g : Nat} {t : ByteArray} {al : List (Bool × Nat)} (h : EM w g t al) (b : Bool) :
    (Instr.lookup 111 (.map (some g)) (key t b) true).run Try.prog w = .ok (.tuple #[.int .u32 (((look al b).getD 0 : Nat) : Int), .bool (look al b).isSome]) w := by
  obtain ⟨es, c, h1, h2⟩ := h
  obtain ⟨r, hr, hv⟩ := findKey_run t b w al es.toList h2
  have hz := Try.zeroValue25 w
  cases r with
  | none =>
    have hl : look al b = none := by cases h : look al b with
      | none => rfl
      | some x => rw [h] at hv; simp at hv
    simp [Instr.lookup, run_underlying Try.underlying111, MapKept.run_getObj_map h1, check_key, hr, hz, hl, Result.andThen]
  | some p =>
    obtain ⟨x, hl⟩ : ∃ x, look al b = some x := by cases h : look al b with
      | none => rw [h] at hv; simp at hv
      | some x => exact ⟨x, rfl⟩
    have hp : p.2 = .int .u32 (x : Int) := by rw [hl] at hv; simpa using hv
    simp [Instr.lookup, run_underlying Try.underlying111, MapKept.run_getObj_map h1, check_key, hr, hl, hp, Result.andThen]
theorem EM.update_run {w : World} {g : Nat} {t : ByteArray} {al : List (Bool × Nat)} (h : EM w g t al) (b : Bool) (hl : look al b = none) (x : Nat) :
    ∃ w', (Instr.mapUpdate 111 (.map (some g)) (key t b) (.int .u32 (x : Int))).run Try.prog w = .ok () w' ∧ EM w' g t (al ++ [(b, x)]) ∧ w.grownBy w' (some g) ∧ w'.heap.size = w.heap.size := by
  obtain ⟨es, c, h1, h2⟩ := h
  obtain ⟨r, hr, hv⟩ := findKey_run t b w al es.toList h2
  rw [hl] at hv
  have hr0 : r = none := by cases r with
    | none => rfl
    | some p => simp at hv
  subst hr0
  refine ⟨{ w with heap := w.heap.setIfInBounds g (.map (es.push { key := key t b, val := .int .u32 (x : Int), born := c }) (c + 1)) }, ?_, ⟨es.push { key := key t b, val := .int .u32 (x : Int), born := c }, c + 1, ?_, ?_⟩, ⟨rfl, rfl, rfl, by simp, fun j hj hne => ?_⟩, by simp⟩
  · simp [Instr.mapUpdate, run_underlying Try.underlying111, MapKept.run_getObj_map h1, check_key, hr, MapKept.run_setObj_map _ h1, Result.andThen]
  · have := (Array.getElem?_eq_some_iff.1 h1).1
    simp [this]
  · simp [h2]
  · have : g ≠ j := fun e => hne (by rw [e])
    simp [this]
theorem EM.kept {w w' : World} {g : Nat} {t : ByteArray} {al : List (Bool × Nat)} (h : EM w g t al) (hk : w'.heap[g]? = w.heap[g]?) : EM w' g t al := by
  obtain ⟨es, c, h1, h2⟩ := h
  exact ⟨es, c, hk.trans h1, h2⟩
/-- The set of caches at q: its map of indices at g, the lock free, the next index nx. -/
structure Cac (w : World) (q g nx : Nat) (t : ByteArray) (al : List (Bool × Nat)) : Prop where
  row : ∃ xs, Row w q 133 xs ∧ xs.length = 17 ∧ xs[13]? = some (.map (some g)) ∧ xs[14]? = some (.int .i32 0) ∧ xs[16]? = some (.int .u32 (nx : Int))
  map : EM w g t al
/-- Nothing but the blocks p, q and g has turned. -/
structure Fr (p q g : Nat) (w w' : World) : Prop where
  os : w'.os = w.os
  tape : w'.tape = w.tape
  output : w'.output = w.output
  size : w.heap.size ≤ w'.heap.size
  block : ∀ i, i < w.heap.size → i ≠ p → i ≠ q → i ≠ g → w'.heap[i]? = w.heap[i]?
theorem Fr.trans {p q g : Nat} {w w' w2 : World} (h : Fr p q g w w') (k : Fr p q g w' w2) : Fr p q g w w2 :=
  ⟨k.os.trans h.os, k.tape.trans h.tape, k.output.trans h.output, Nat.le_trans h.size k.size, fun i hi h1 h2 h3 => (k.block i (Nat.lt_of_lt_of_le hi h.size) h1 h2 h3).trans (h.block i hi h1 h2 h3)⟩
theorem Fr.of_below {p q g : Nat} {w w' : World} (h : Below w.heap.size w w') : Fr p q g w w' := ⟨h.os, h.tape, h.output, h.size, fun i hi _ _ _ => h.block i hi⟩
theorem Fr.set {p q g : Nat} {w w' : World} (h : Fr p q g w w') (i : Nat) (u : Value) : Fr p q g w (w'.setCell ⟨p, i, none⟩ u) :=
  ⟨h.os, h.tape, h.output, by simpa [World.setCell] using h.size, fun j hj h1 h2 h3 => (Below.heap_setCell w' ⟨p, i, none⟩ u j h1).trans (h.block j hj h1 h2 h3)⟩
theorem Fr.setq {p q g : Nat} {w w' : World} (h : Fr p q g w w') (i : Nat) (u : Value) : Fr p q g w (w'.setCell ⟨q, i, none⟩ u) :=
  ⟨h.os, h.tape, h.output, by simpa [World.setCell] using h.size, fun j hj h1 h2 h3 => (Below.heap_setCell w' ⟨q, i, none⟩ u j h2).trans (h.block j hj h1 h2 h3)⟩
theorem Fr.grown {p q g : Nat} {w w' w2 : World} (h : Fr p q g w w') (hg : w'.grownBy w2 (some g)) : Fr p q g w w2 :=
  ⟨hg.os.trans h.os, hg.tape.trans h.tape, hg.output.trans h.output, Nat.le_trans h.size hg.size, fun j hj h1 h2 h3 => (hg.block j (Nat.lt_of_lt_of_le hj h.size) (fun e => h3 (by injection e))).trans (h.block j hj h1 h2 h3)⟩
theorem Fr.drewN {p q g : Nat} {w w' : World} (h : Fr p q g w w') (n : Nat) : Fr p q g w (w'.drewN n) := ⟨h.os, h.tape, h.output, h.size, h.block⟩
theorem Fr.below {p q g B : Nat} {w w' : World} (h : Fr p q g w w') (hp : B ≤ p) (hq : B ≤ q) (hg : B ≤ g) (hB : B ≤ w.heap.size) : Below B w w' :=
  ⟨h.os, h.tape, h.output, h.size, fun i hi => h.block i (by omega) (by omega) (by omega) (by omega)⟩
/-- The index that Get hands back. -/
def Idx (q g nx : Nat) (t : ByteArray) (al : List (Bool × Nat)) (b : Bool) (r : Nat) (w' : World) : Prop :=
  (look al b = some r ∧ Cac w' q g nx t al) ∨ (look al b = none ∧ r = nx ∧ Cac w' q g (nx + 1) t (al ++ [(b, nx)]))
def Got (w : World) (q g nx : Nat) (t : ByteArray) (al : List (Bool × Nat)) (b : Bool) (e : Ending) (w' : World) : Prop :=
  ∃ r : Nat, e = .returned (.int .u32 (r : Int)) ∧ Idx q g nx t al b r w' ∧ Fr q q g w w'
/-- The path's cells. -/
def pth (t : ByteArray) : Array Value := #[.string t, .string ⟨#[]⟩, .string ⟨#[]⟩, .string ⟨#[]⟩, .int .u8 0]
set_option maxHeartbeats 4000000 in
set_option maxRecDepth 100000 in
theorem get_hit (w : World) (q g nx r : Nat) (t : ByteArray) (al : List (Bool × Nat)) (b : Bool) (hC : Cac w q g nx t al) (hl : look al b = some r) :
    Calls Try.prog 11 #[.pointer (some ⟨q, 12, none⟩), .agg (pth t), .int .u8 (kd b)] w (Got w q g nx t al b) := by
  have HCC := Lib.hid hC
  obtain ⟨⟨xs, hr, hxl, h13, h14, h16⟩, hm⟩ := hC
  have hq := hr.lt
  have hg : g < w.heap.size := by obtain ⟨es, c, h1, _⟩ := hm; exact (Array.getElem?_eq_some_iff.1 h1).1
  have hqg : g ≠ q := by
    rintro rfl
    obtain ⟨es, c, h1, _⟩ := hm
    unfold Row at hr
    rw [h1] at hr
    cases hr
  obtain ⟨W, hW⟩ : ∃ W, (w.alloc (.cells (pth t) 108)).alloc (.cells #[.string t, .string ⟨#[]⟩, .string ⟨#[]⟩, .string ⟨#[]⟩, .int .u8 0, .int .u8 (kd b)] 136) = W := ⟨_, rfl⟩
  have hB : Below w.heap.size w W := by rw [← hW]; exact ((Below.refl _ _).alloc (Nat.le_refl _) _).alloc (by simp) _
  have hK : Row W (w.heap.size + 1) 136 [.string t, .string ⟨#[]⟩, .string ⟨#[]⟩, .string ⟨#[]⟩, .int .u8 0, .int .u8 (kd b)] := by
    have := Row.newArr (w.alloc (.cells (pth t) 108)) 136 #[.string t, .string ⟨#[]⟩, .string ⟨#[]⟩, .string ⟨#[]⟩, .int .u8 0, .int .u8 (kd b)]
    rw [hW] at this
    simpa using this
  have hr1 := hr.below hB hq
  have hm1 : EM W g t al := hm.kept (hB.block g hg)
  have c14 := hr1.at_ h14
  have z14 := hr1.frozen 14
  have hr2 := hr1.set 14 (.int .i32 1)
  have d13 := hr2.at_ (i := 13) (v := .map (some g)) (by simpa using h13)
  have hK2 := hK.far (p := ⟨q, 14, none⟩) (show w.heap.size + 1 ≠ q by omega) (.int .i32 1)
  have k0 := hK2.at_ (i := 0) rfl
  have k1 := hK2.at_ (i := 1) rfl
  have k2 := hK2.at_ (i := 2) rfl
  have k3 := hK2.at_ (i := 3) rfl
  have k4 := hK2.at_ (i := 4) rfl
  have k5 := hK2.at_ (i := 5) rfl
  have hm2 : EM (W.setCell ⟨q, 14, none⟩ (.int .i32 1)) g t al := hm1.kept (Below.heap_setCell _ _ _ _ hqg)
  have hlk : ∀ n, (Instr.lookup 111 (.map (some g)) (.agg #[.string t, .string ⟨#[]⟩, .string ⟨#[]⟩, .string ⟨#[]⟩, .int .u8 0, .int .u8 (kd b)]) true).run Try.prog ((W.setCell ⟨q, 14, none⟩ (.int .i32 1)).drewN n) = .ok (.tuple #[.int .u32 (r : Int), .bool true]) ((W.setCell ⟨q, 14, none⟩ (.int .i32 1)).drewN n) := by
    intro n
    have := (show EM ((W.setCell ⟨q, 14, none⟩ (.int .i32 1)).drewN n) g t al from hm2).look_run b
    rw [hl] at this
    simpa [key] using this
  have HR2 := Lib.hid hr2
  have HM2 := Lib.hid hm2
  have HX := Lib.hid (And.intro hxl (And.intro h13 (And.intro h14 h16)))
  have HQG := Lib.hid hqg
  have HW := Lib.hid hW
  have HB := Lib.hid hB
  have HL := Lib.hid hl
  generalize kd b = kb at *
  clear hr hxl h13 h14 h16 hm hqg hW hB hK hr1 hm1 hr2 hK2 hm2 hl HCC
  unfold pth at *
  go_enter_defers Try.func11, Try.ntmps11
  go_wp2_with fail
  rw [HW.out]
  go_wp2_with (go_at_call 12; refine (lock_free muLib ⟨q, 14, none⟩ _ c14 z14).mono ?_; rintro e w' ⟨rfl, rfl⟩)
  go_quiet (fail)
  clear hlk
  go_wp2_with fail
  refine leaves_cons (f := 13) (args := #[.pointer (some ⟨q, 14, none⟩)]) (by simp) (by simp [go_sem]) ?_
  refine (unlock_deferred muLib ⟨q, 14, none⟩ .returning _ ((HR2.out.drewN nq).at_ (i := 14) (by have := HX.out.1; simp [this])) ((HR2.out.drewN nq).frozen 14)).mono ?_
  rintro e u' w'' ⟨rfl, rfl, rfl⟩
  obtain ⟨x1, x2, x3, x4⟩ := HX.out
  refine ⟨_, results_tmp rfl _ _ _, r, rfl, .inl ⟨HL.out, ⟨⟨_, (HR2.out.drewN nq).set 14 (.int .i32 0), ?_⟩, HM2.out.kept (Below.heap_setCell _ _ _ _ HQG.out)⟩⟩, (((Fr.of_below HB.out).setq 14 _).drewN nq).setq 14 _⟩
  exact ⟨by simp [x1], by simpa using x2, by simp [x1], by simpa using x4⟩
set_option maxHeartbeats 4000000 in
set_option maxRecDepth 100000 in
theorem get_miss (w : World) (q g nx : Nat) (t : ByteArray) (al : List (Bool × Nat)) (b : Bool) (hC : Cac w q g nx t al) (hl : look al b = none) (hnx : nx ≤ 5000) :
    Calls Try.prog 11 #[.pointer (some ⟨q, 12, none⟩), .agg (pth t), .int .u8 (kd b)] w (Got w q g nx t al b) := by
  have HCC := Lib.hid hC
  obtain ⟨⟨xs, hr, hxl, h13, h14, h16⟩, hm⟩ := hC
  have hq := hr.lt
  have hg : g < w.heap.size := by obtain ⟨es, c, h1, _⟩ := hm; exact (Array.getElem?_eq_some_iff.1 h1).1
  have hqg : g ≠ q := by
    rintro rfl
    obtain ⟨es, c, h1, _⟩ := hm
    unfold Row at hr
    rw [h1] at hr
    cases hr
  obtain ⟨W, hW⟩ : ∃ W, (w.alloc (.cells (pth t) 108)).alloc (.cells #[.string t, .string ⟨#[]⟩, .string ⟨#[]⟩, .string ⟨#[]⟩, .int .u8 0, .int .u8 (kd b)] 136) = W := ⟨_, rfl⟩
  have hB : Below w.heap.size w W := by rw [← hW]; exact ((Below.refl _ _).alloc (Nat.le_refl _) _).alloc (by simp) _
  have hK : Row W (w.heap.size + 1) 136 [.string t, .string ⟨#[]⟩, .string ⟨#[]⟩, .string ⟨#[]⟩, .int .u8 0, .int .u8 (kd b)] := by
    have := Row.newArr (w.alloc (.cells (pth t) 108)) 136 #[.string t, .string ⟨#[]⟩, .string ⟨#[]⟩, .string ⟨#[]⟩, .int .u8 0, .int .u8 (kd b)]
    rw [hW] at this
    simpa using this
  have hr1 := hr.below hB hq
  have hm1 : EM W g t al := hm.kept (hB.block g hg)
  have c14 := hr1.at_ h14
  have z14 := hr1.frozen 14
  have hr2 := hr1.set 14 (.int .i32 1)
  have d13 := hr2.at_ (i := 13) (v := .map (some g)) (by simpa using h13)
  have hK2 := hK.far (p := ⟨q, 14, none⟩) (show w.heap.size + 1 ≠ q by omega) (.int .i32 1)
  have k0 := hK2.at_ (i := 0) rfl
  have k1 := hK2.at_ (i := 1) rfl
  have k2 := hK2.at_ (i := 2) rfl
  have k3 := hK2.at_ (i := 3) rfl
  have k4 := hK2.at_ (i := 4) rfl
  have k5 := hK2.at_ (i := 5) rfl
  have hm2 : EM (W.setCell ⟨q, 14, none⟩ (.int .i32 1)) g t al := hm1.kept (Below.heap_setCell _ _ _ _ hqg)
  have hlk : ∀ n, (Instr.lookup 111 (.map (some g)) (.agg #[.string t, .string ⟨#[]⟩, .string ⟨#[]⟩, .string ⟨#[]⟩, .int .u8 0, .int .u8 (kd b)]) true).run Try.prog ((W.setCell ⟨q, 14, none⟩ (.int .i32 1)).drewN n) = .ok (.tuple #[.int .u32 0, .bool false]) ((W.setCell ⟨q, 14, none⟩ (.int .i32 1)).drewN n) := by
    intro n
    have := (show EM ((W.setCell ⟨q, 14, none⟩ (.int .i32 1)).drewN n) g t al from hm2).look_run b
    rw [hl] at this
    simpa [key] using this
  have d16 := hr2.at_ (i := 16) (v := .int .u32 (nx : Int)) (by simpa using h16)
  have y16 := hr2.frozen 16
  have hr3 := hr2.set 16 (.int .u32 ((nx : Int) + 1))
  have e13 := hr3.at_ (i := 13) (v := .map (some g)) (by simpa using h13)
  have hK3 := hK2.far (p := ⟨q, 16, none⟩) (show w.heap.size + 1 ≠ q by omega) (.int .u32 ((nx : Int) + 1))
  have l0 := hK3.at_ (i := 0) rfl
  have l1 := hK3.at_ (i := 1) rfl
  have l2 := hK3.at_ (i := 2) rfl
  have l3 := hK3.at_ (i := 3) rfl
  have l4 := hK3.at_ (i := 4) rfl
  have l5 := hK3.at_ (i := 5) rfl
  have hm3 : EM ((W.setCell ⟨q, 14, none⟩ (.int .i32 1)).setCell ⟨q, 16, none⟩ (.int .u32 ((nx : Int) + 1))) g t al := hm2.kept (Below.heap_setCell _ _ _ _ hqg)
  have hup0 : ∀ n, ∃ w', (Instr.mapUpdate 111 (.map (some g)) (.agg #[.string t, .string ⟨#[]⟩, .string ⟨#[]⟩, .string ⟨#[]⟩, .int .u8 0, .int .u8 (kd b)]) (.int .u32 (nx : Int))).run Try.prog ((((W.setCell ⟨q, 14, none⟩ (.int .i32 1)).drewN n).setCell ⟨q, 16, none⟩ (.int .u32 ((nx : Int) + 1)))).drew = .ok () w' ∧ EM w' g t (al ++ [(b, nx)]) ∧ ((((W.setCell ⟨q, 14, none⟩ (.int .i32 1)).drewN n).setCell ⟨q, 16, none⟩ (.int .u32 ((nx : Int) + 1)))).drew.grownBy w' (some g) ∧ w'.heap.size = ((((W.setCell ⟨q, 14, none⟩ (.int .i32 1)).drewN n).setCell ⟨q, 16, none⟩ (.int .u32 ((nx : Int) + 1)))).drew.heap.size := fun n =>
    (show EM ((((W.setCell ⟨q, 14, none⟩ (.int .i32 1)).drewN n).setCell ⟨q, 16, none⟩ (.int .u32 ((nx : Int) + 1)))).drew g t al from hm3).update_run b hl nx
  obtain ⟨W4, hW4⟩ := Classical.axiomOfChoice hup0
  have hup := fun n => (hW4 n).1
  have HUP := Lib.hid (fun n => (hW4 n).2)
  have HR3 := Lib.hid hr3
  have HR2 := Lib.hid hr2
  have HM2 := Lib.hid hm2
  have HX := Lib.hid (And.intro hxl (And.intro h13 (And.intro h14 h16)))
  have HQG := Lib.hid hqg
  have HW := Lib.hid hW
  have HB := Lib.hid hB
  have HL := Lib.hid hl
  generalize kd b = kb at *
  clear hr hxl h13 h14 h16 hm hqg hW hB hK hr1 hm1 hr2 hK2 hm2 hl HCC hr3 hK3 hm3 hup0 hW4
  unfold pth at *
  go_enter_defers Try.func11, Try.ntmps11
  go_wp2_with fail
  rw [HW.out]
  go_wp2_with (go_at_call 12; refine (lock_free muLib ⟨q, 14, none⟩ _ c14 z14).mono ?_; rintro e w' ⟨rfl, rfl⟩)
  go_quiet (fail)
  clear hlk
  go_wp2_with fail
  go_region
  clear hup
  obtain ⟨hE4, hG4, hS4⟩ := HUP.out nq
  have hr4 := (show Row ((((W.setCell ⟨q, 14, none⟩ (.int .i32 1)).drewN nq).setCell ⟨q, 16, none⟩ (.int .u32 ((nx : Int) + 1)))).drew q 133 _ from HR3.out).grown hG4 (fun e => HQG.out (by injection e with e; exact e.symm))
  have HE4 := Lib.hid hE4
  have HG4 := Lib.hid hG4
  have HR4 := Lib.hid hr4
  generalize W4 nq = V at *
  clear hE4 hG4 hS4 hr4 HUP
  go_wp2_with fail
  refine leaves_cons (f := 13) (args := #[.pointer (some ⟨q, 14, none⟩)]) (by simp) (by simp [go_sem]) ?_
  refine (unlock_deferred muLib ⟨q, 14, none⟩ .returning _ (HR4.out.at_ (i := 14) (by have := HX.out.1; simp [this])) (HR4.out.frozen 14)).mono ?_
  rintro e u' w'' ⟨rfl, rfl, rfl⟩
  obtain ⟨x1, x2, x3, x4⟩ := HX.out
  refine ⟨_, results_tmp rfl _ _ _, nx, rfl, .inr ⟨HL.out, rfl, ⟨⟨_, HR4.out.set 14 (.int .i32 0), ?_⟩, HE4.out.kept (Below.heap_setCell _ _ _ _ HQG.out)⟩⟩, ((((((Fr.of_below HB.out).setq 14 _).drewN nq).setq 16 _).drewN 1).grown HG4.out).setq 14 _⟩
  exact ⟨by simp [x1], by simpa using x2, by simp [x1], by simp [x1]⟩
theorem get11 (w : World) (q g nx : Nat) (t : ByteArray) (al : List (Bool × Nat)) (b : Bool) (hC : Cac w q g nx t al) (hnx : nx ≤ 5000) :
    Calls Try.prog 11 #[.pointer (some ⟨q, 12, none⟩), .agg (pth t), .int .u8 (kd b)] w (Got w q g nx t al b) := by
  cases h : look al b with
  | none => exact get_miss w q g nx t al b hC h hnx
  | some r => exact get_hit w q g nx r t al b hC h
end Go.Proofs.Ytpagdibnhdfbfac.AlA
