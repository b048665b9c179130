/- FnSortedCrossChunkImportsOrderFree: sort over any state, insertionSort. -/
import Derived.Shelf.GgSortMore.Lays
import Derived.Sort.WalkA
import Derived.Deep.DeepCutAuto
import Derived.WalkKit
import Derived.ProofKit
import Derived.OpenShut
import Derived.Below
import Derived.WalkLawsBesides
import Derived.Lib.Hide
import Derived.Outline
import Derived.RegionTactic
import Derived.Deep.QuietTactic
import Derived.BigQuiet
import Derived.WalkSpells
import Derived.Deep.OwnRows
import Derived.IntWalk
import Derived.Deep.DeepMust
namespace Go.Proofs.Ytfcpjckecjjmjaa.SoA
open Go.RowKit Go.Sort Go.Shelf Go.Lib
set_option linter.unusedVariables false

/-- Blocks from base on are as they were. -/
def Ab (base : Nat) (W W' : World) : Prop := W.heap.size ≤ W'.heap.size ∧ ∀ k, base ≤ k → k < W.heap.size → W'.heap[k]? = W.heap[k]?
/-- What sort asks of a state S of n elements: its Less and its Swap, reached by name; S lies below block number base. -/
structure Ifc {α : Type} [Inhabited α] (P : Program) (T : TypeId) (rv : Value) (gl gs : Nat) (lt : α → α → Bool) (n base : Nat) (S : World → Array α → Prop) : Prop where
  mL : ∀ w, Sem.run P (method (P.types.size + 100) T rv "Less") w = .ok (gl, rv) w
  mS : ∀ w, Sem.run P (method (P.types.size + 100) T rv "Swap") w = .ok (gs, rv) w
  eL : ∀ args w, (callFunc gl args).run P w = .ok (.enter gl args) w
  eS : ∀ args w, (callFunc gs args).run P w = .ok (.enter gs args) w
  size : ∀ W d, S W d → d.size = n
  has : ∀ W d, S W d → base ≤ W.heap.size
  lessA : ∀ W d (i j : Nat), S W d → i < n → j < n → Calls P gl #[rv, .int .i64 i, .int .i64 j] W fun e w' => e = .returned (.bool (lt d[i]! d[j]!)) ∧ S w' d ∧ Ab base W w'
  swapA : ∀ W d (i j : Nat), S W d → i < n → j < n → Calls P gs #[rv, .int .i64 i, .int .i64 j] W fun e w' => e = .returned (.tuple #[]) ∧ S w' (swp d i j) ∧ Ab base W w'
  later : ∀ W W' d, S W d → Below base W W' → S W' d
section
variable {P : Program} {ρ : Ren} {α : Type} [Inhabited α] {T : TypeId} {rv : Value} {gl gs : Nat} {lt : α → α → Bool} {n base : Nat} {S : World → Array α → Prop}
theorem Ifc.less (I : Ifc P T rv gl gs lt n base S) (W : World) (d : Array α) (i j : Nat) (hS : S W d) (hi : i < n) (hj : j < n) : Calls P gl #[rv, .int .i64 i, .int .i64 j] W fun e w' => e = .returned (.bool (lt d[i]! d[j]!)) ∧ S w' d :=
  (I.lessA W d i j hS hi hj).mono fun _ _ ⟨he, hs, _⟩ => ⟨he, hs⟩
theorem Ifc.swap (I : Ifc P T rv gl gs lt n base S) (W : World) (d : Array α) (i j : Nat) (hS : S W d) (hi : i < n) (hj : j < n) : Calls P gs #[rv, .int .i64 i, .int .i64 j] W fun e w' => e = .returned (.tuple #[]) ∧ S w' (swp d i j) :=
  (I.swapA W d i j hS hi hj).mono fun _ _ ⟨he, hs, _⟩ => ⟨he, hs⟩
theorem Ifc.lessZ (I : Ifc P T rv gl gs lt n base S) (x y : Int) (W : World) (d : Array α) (i j : Nat) (b : Bool) (hS : S W d) (hx : x = (i : Int)) (hy : y = (j : Int)) (hi : i < n) (hj : j < n) (hb : lt d[i]! d[j]! = b) : Calls P gl #[rv, .int .i64 x, .int .i64 y] W fun e w' => e = .returned (.bool b) ∧ S w' d := by
  subst hx; subst hy; subst hb
  exact I.less W d i j hS hi hj
theorem Ifc.swapZ (I : Ifc P T rv gl gs lt n base S) (x y : Int) (W : World) (d : Array α) (i j : Nat) (hS : S W d) (hx : x = (i : Int)) (hy : y = (j : Int)) (hi : i < n) (hj : j < n) : Calls P gs #[rv, .int .i64 x, .int .i64 y] W fun e w' => e = .returned (.tuple #[]) ∧ S w' (swp d i j) := by
  subst hx; subst hy
  exact I.swap W d i j hS hi hj
set_option maxRecDepth 100000 in
set_option maxHeartbeats 4000000 in
theorem ins33 (L : LaysGt.n33 P ρ) (I : Ifc P T rv gl gs lt n base S) (hn : n ≤ 1048576) (W : World) (d : Array α) (a b : Nat) (hS : S W d) (hab : a ≤ b) (hb : b ≤ n) :
    Calls P (ρ.f 33) #[.iface T rv, .int .i64 a, .int .i64 b] W fun e w' => e = .returned (.tuple #[]) ∧ S w' (insertionSort lt d a b) := by
  have HI := Lib.hid I
  have HS := Lib.hid hS
  have mL := I.mL
  have mS := I.mS
  have eL := I.eL
  have eS := I.eS
  clear I hS
  have mixed := L.mixed; have t0 := L.t0; have a0 := L.a0; have z0 := L.z0; have v0 := L.v0; have t3 := L.t3; have a3 := L.a3; have z3 := L.z3; have v3 := L.v3; have t4 := L.t4; have a4 := L.a4; have z4 := L.z4; have v4 := L.v4; have t26 := L.t26; have a26 := L.a26; have z26 := L.z26; have v26 := L.v26; have t38 := L.t38; have a38 := L.a38; have z38 := L.z38; have v38 := L.v38; have t43 := L.t43; have a43 := L.a43; have z43 := L.z43; have v43 := L.v43; have t45 := L.t45; have a45 := L.a45; have z45 := L.z45; have v45 := L.v45
  go_enter L.f33, BodyGt.n33_ntmps ρ
  go_wp2
  go_loopw [6] (fun vi wr => ∃ (i : Nat) (dk : Array α), vi = .int .i64 i ∧ a < i ∧ i ≤ b + 1 ∧ S wr dk ∧ insOuter lt a b i dk = insOuter lt a b (a + 1) d) (fun vi _ => b + 1 - (intOf vi).toNat)
  case atStart => exact ⟨a + 1, d, by go_num, by omega, by omega, HS.out, rfl⟩
  case round =>
    obtain ⟨i, dk, rfl, hai, hib, hs, hO⟩ := hrel
    have HO := Lib.hid hO
    have SK := Lib.hid hs
    clear hO hs
    by_cases hlt : i < b
    · go_wp2
      go_loopw [7] (fun vj wr2 => ∃ (j : Nat) (dj : Array α), vj = .int .i64 j ∧ a ≤ j ∧ j ≤ i ∧ S wr2 dj ∧ insInner lt a j dj = insInner lt a i dk) (fun vj _ => (intOf vj).toNat)
      case atStart => exact ⟨i, dk, rfl, by omega, Nat.le_refl _, SK.out, rfl⟩
      case round =>
        obtain ⟨j, dj, rfl, haj, hji, hs, hI⟩ := hrel
        have H1 := Lib.hid hI
        have SJ := Lib.hid hs
        clear hI hs
        have out : (j ≤ a ∨ lt dj[j]! dj[j - 1]! = false) → insOuter lt a b (i + 1) dj = insOuter lt a b (a + 1) d := fun hh => by
          rw [← HO.out, insOuter_go _ _ _ _ _ hlt, ← H1.out, insInner_stop _ _ _ _ hh]
        have OUT := Lib.hid out
        clear out
        by_cases hja : a < j
        · have hl := HI.out.less _ dj j (j - 1) SJ.out (by omega) (by omega)
          have ej : (((j - 1 : Nat) : Int)) = (j : Int) - 1 := by omega
          rw [ej] at hl
          have hsw := fun W' (hs : S W' dj) => HI.out.swap W' dj j (j - 1) hs (by omega) (by omega)
          rw [ej] at hsw
          have HL := Lib.hid hl
          have HW := Lib.hid hsw
          clear hl hsw ej
          cases hlv : lt dj[j]! dj[j - 1]! with
          | true =>
            rw [hlv] at HL
            go_wp2_with (first
              | (go_at_fn gl; refine HL.out.mono ?_; rintro e w' ⟨rfl, hs⟩; have S1 := Lib.hid hs; clear hs)
              | (go_at_fn gs; refine (HW.out _ S1.out).mono ?_; rintro e w' ⟨rfl, hs⟩; have S2 := Lib.hid hs; clear hs))
            go_roundw
            case rel => first | exact ⟨j - 1, swp dj j (j - 1), by go_num, by omega, by omega, S2.out, by rw [← H1.out, insInner_go lt a j dj hja hlv]⟩ | exact hrel
            case measure => simp [intOf]; omega
          | false =>
            rw [hlv] at HL
            go_wp2_with (go_at_fn gl; refine HL.out.mono ?_; rintro e w' ⟨rfl, hs⟩; have S1 := Lib.hid hs; clear hs)
            go_roundw
            case rel => first | exact ⟨i + 1, dj, by go_num, by omega, by omega, S1.out, OUT.out (.inr hlv)⟩ | exact hrel
            case measure => simp [intOf]; omega
        · go_wp2
          go_roundw
          case rel => first | exact ⟨i + 1, dj, by go_num, by omega, by omega, SJ.out, OUT.out (.inl (by omega))⟩ | exact hrel
          case measure => simp [intOf]; omega
    · have FIN := Lib.hid (show S wr (insertionSort lt d a b) from by
        unfold insertionSort
        rw [← HO.out, insOuter_stop _ _ _ _ _ hlt]
        exact SK.out)
      go_wp2
      go_end0
      exact ⟨rfl, FIN.out⟩
end
end Go.Proofs.Ytfcpjckecjjmjaa.SoA
