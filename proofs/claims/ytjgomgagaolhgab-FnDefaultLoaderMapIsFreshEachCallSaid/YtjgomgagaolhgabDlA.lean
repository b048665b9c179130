/- The default loaders: the table, the map, the two functions. -/
import Derived.Test.YtjgomgagaolhgabRows
import Derived.Test.YtjgomgagaolhgabMem
import Derived.Test.YtjgomgagaolhgabSl
import Derived.Test.YtjgomgagaolhgabMap
import Derived.WalkKit
import Derived.ProofKit
import Derived.OpenShut
import Derived.Below
import Derived.WalkLawsBesides
import Derived.Lib.Hide
import Derived.Outline
import Derived.RegionTactic
import Derived.Deep.QuietTactic
import Derived.BigQuiet
import Derived.WalkSpells
import Derived.Deep.OwnRows
import Derived.IntWalk
import Derived.Deep.DeepMust
namespace Go.Proofs.Ytjgomgagaolhgab.DlA
open Go.RowKit Mem Sl
set_option linter.unusedVariables false
open Go.Proofs.Ytjgomgagaolhgab.Map Go.MapKept

def tlook (s : ByteArray) : List (ByteArray × Int) → Option Int
  | [] => none
  | p :: l => if s = p.1 then some p.2 else tlook s l
def tabF (l : List (ByteArray × Int)) : Value → Option Value := fun v => match v with | .string s => (tlook s l).map (Value.int .u8) | _ => none
theorem put_tab (l : List (ByteArray × Int)) (k : ByteArray) (i : Int) (v : Value) : put (tabF l) (.string k) (.int .u8 i) v = tabF ((k, i) :: l) v := by
  by_cases e : v = .string k
  · subst e
    rw [put_self]
    simp [tabF, tlook]
  · rw [put_other _ _ e]
    cases v <;> simp only [tabF]
    rename_i s
    have hne : s ≠ k := fun h => e (by rw [h])
    simp [tlook, hne]
theorem wpList_insert_tab {P : Program} (w : World) {ops : Array Oper} {rest : List Oper} {o : Oper} {a : Act} {Q : Exit → Act → World → Prop}
    (hg : o.guard = none) (m x v : Operand) (t : TypeId) (hop : o.op = Op.insert t m x v) (kt et : TypeId) (ht : P.underlying t = some (.map kt et)) (hd : P.underlying kt = some .string)
    (b n : Nat) (l : List (ByteArray × Int)) (hm : a.eval m = .map (some b)) (h : MapF w b .string n (tabF l)) (k : ByteArray) (i : Int) (hx : a.eval x = .string k) (hv : a.eval v = .int .u8 i) (hl : tlook k l = none)
    (hK : ∀ w', MapF w' b .string (n + 1) (tabF ((k, i) :: l)) → w.grownBy w' (some b) → w'.heap.size = w.heap.size → wpList P ops Q rest (a.put o.dst undef) w') :
    wpList P ops Q (o :: rest) a w := by
  refine wpList_plain hg fun K' hK' => ?_
  obtain ⟨w', hrun, r1, r2, r3⟩ := h.update ht hd (k := .string k) trivial (.int .u8 i)
  unfold Oper.wp
  simp [execOp, hop, hm, hx, hv, hrun, Result.andThen]
  have hn : (tabF l (.string k)).isSome = false := by simp [tabF, hl]
  rw [hn, if_neg (by simp)] at r1
  exact hK' _ _ (hK w' (r1.congr (put_tab l k i)) r2 r3)
def tab : List (ByteArray × Int) := [(⟨#[46, 116, 120, 116]⟩, 15), (⟨#[46, 106, 115, 111, 110]⟩, 11), (⟨#[46, 109, 111, 100, 117, 108, 101, 46, 99, 115, 115]⟩, 14), (⟨#[46, 99, 115, 115]⟩, 4), (⟨#[46, 116, 115, 120]⟩, 18), (⟨#[46, 109, 116, 115]⟩, 17), (⟨#[46, 99, 116, 115]⟩, 17), (⟨#[46, 116, 115]⟩, 16), (⟨#[46, 106, 115, 120]⟩, 13), (⟨#[46, 99, 106, 115]⟩, 10), (⟨#[46, 109, 106, 115]⟩, 10), (⟨#[46, 106, 115]⟩, 10), (⟨#[]⟩, 10)]

/-- What the call that makes the map leaves. -/
def Made (w : World) (e : Ending) (w' : World) : Prop := e = .returned (.map (some w.heap.size)) ∧ MapF w' w.heap.size .string 13 (tabF tab) ∧ Below w.heap.size w w' ∧ w'.heap.size = w.heap.size + 1
set_option maxHeartbeats 1000000 in
theorem made38 (w : World) : Calls Try.prog 38 #[] w (Made w) := by
  have hmm := @run_makeMap Try.prog
  have HM := Lib.hid (show MapF (w.alloc (.map #[] 0)) w.heap.size .string 0 (tabF []) from (mapF_made w .string).congr (fun k => by cases k <;> rfl))
  have HB := Lib.hid (show Below w.heap.size w (w.alloc (.map #[] 0)) from (Below.refl _ _).alloc (Nat.le_refl _) _)
  have HS := Lib.hid (show (w.alloc (.map #[] 0)).heap.size = w.heap.size + 1 by simp)
  go_enter Try.func38, Try.ntmps38
  go_wp2_with (refine wpList_insert_tab _ rfl _ _ _ 71 rfl 9 73 Try.underlying71 Try.underlying9 w.heap.size _ _ rfl HM.out _ _ rfl rfl (by decide) ?_; intro w1 h1 hg1 hs1; replace HM := Lib.hid h1; replace HB := Lib.hid (HB.out.trans (grown_below hg1 (Nat.le_refl _) HB.out.size)); replace HS := Lib.hid (hs1.trans HS.out); clear h1 hg1 hs1)
  go_ret
  exact ⟨rfl, HM.out, HB.out, HS.out⟩
theorem ne_list {s : ByteArray} (l : List UInt8) (h : s ≠ ⟨l.toArray⟩) : (s.toList == l) = false := by
  cases hb : s.toList == l with
  | false => rfl
  | true =>
    exfalso
    apply h
    have := eq_of_beq hb
    rw [ByteArray.toList_eq] at this
    cases s
    subst this
    simp
set_option maxHeartbeats 1000000 in
theorem load40 (s : ByteArray) (w : World) : Calls Try.prog 40 #[.string s] w fun e w' => e = .returned (.tuple #[.int .u8 ((tlook s tab).getD 0), .bool (tlook s tab).isSome]) ∧ w = w' := by
  by_cases h0 : s = ⟨#[]⟩
  · subst h0
    go_enter Try.func40, Try.ntmps40
    go_wp2
    go_ret2
    exact ⟨by rfl, rfl⟩
  by_cases h1 : s = ⟨#[46, 106, 115]⟩
  · subst h1
    go_enter Try.func40, Try.ntmps40
    go_wp2
    go_ret2
    exact ⟨by rfl, rfl⟩
  by_cases h2 : s = ⟨#[46, 109, 106, 115]⟩
  · subst h2
    go_enter Try.func40, Try.ntmps40
    go_wp2
    go_ret2
    exact ⟨by rfl, rfl⟩
  by_cases h3 : s = ⟨#[46, 99, 106, 115]⟩
  · subst h3
    go_enter Try.func40, Try.ntmps40
    go_wp2
    go_ret2
    exact ⟨by rfl, rfl⟩
  by_cases h4 : s = ⟨#[46, 106, 115, 120]⟩
  · subst h4
    go_enter Try.func40, Try.ntmps40
    go_wp2
    go_ret2
    exact ⟨by rfl, rfl⟩
  by_cases h5 : s = ⟨#[46, 116, 115]⟩
  · subst h5
    go_enter Try.func40, Try.ntmps40
    go_wp2
    go_ret2
    exact ⟨by rfl, rfl⟩
  by_cases h6 : s = ⟨#[46, 99, 116, 115]⟩
  · subst h6
    go_enter Try.func40, Try.ntmps40
    go_wp2
    go_ret2
    exact ⟨by rfl, rfl⟩
  by_cases h7 : s = ⟨#[46, 109, 116, 115]⟩
  · subst h7
    go_enter Try.func40, Try.ntmps40
    go_wp2
    go_ret2
    exact ⟨by rfl, rfl⟩
  by_cases h8 : s = ⟨#[46, 116, 115, 120]⟩
  · subst h8
    go_enter Try.func40, Try.ntmps40
    go_wp2
    go_ret2
    exact ⟨by rfl, rfl⟩
  by_cases h9 : s = ⟨#[46, 99, 115, 115]⟩
  · subst h9
    go_enter Try.func40, Try.ntmps40
    go_wp2
    go_ret2
    exact ⟨by rfl, rfl⟩
  by_cases h10 : s = ⟨#[46, 109, 111, 100, 117, 108, 101, 46, 99, 115, 115]⟩
  · subst h10
    go_enter Try.func40, Try.ntmps40
    go_wp2
    go_ret2
    exact ⟨by rfl, rfl⟩
  by_cases h11 : s = ⟨#[46, 106, 115, 111, 110]⟩
  · subst h11
    go_enter Try.func40, Try.ntmps40
    go_wp2
    go_ret2
    exact ⟨by rfl, rfl⟩
  by_cases h12 : s = ⟨#[46, 116, 120, 116]⟩
  · subst h12
    go_enter Try.func40, Try.ntmps40
    go_wp2
    go_ret2
    exact ⟨by rfl, rfl⟩
  have hl : tlook s tab = none := by simp [tab, tlook, h0, h1, h2, h3, h4, h5, h6, h7, h8, h9, h10, h11, h12]
  rw [hl]
  have t0 : (s.toList == []) = false := ne_list [] h0
  have t1 : (s.toList == [46, 106, 115]) = false := ne_list [46, 106, 115] h1
  have t2 : (s.toList == [46, 109, 106, 115]) = false := ne_list [46, 109, 106, 115] h2
  have t3 : (s.toList == [46, 99, 106, 115]) = false := ne_list [46, 99, 106, 115] h3
  have t4 : (s.toList == [46, 106, 115, 120]) = false := ne_list [46, 106, 115, 120] h4
  have t5 : (s.toList == [46, 116, 115]) = false := ne_list [46, 116, 115] h5
  have t6 : (s.toList == [46, 99, 116, 115]) = false := ne_list [46, 99, 116, 115] h6
  have t7 : (s.toList == [46, 109, 116, 115]) = false := ne_list [46, 109, 116, 115] h7
  have t8 : (s.toList == [46, 116, 115, 120]) = false := ne_list [46, 116, 115, 120] h8
  have t9 : (s.toList == [46, 99, 115, 115]) = false := ne_list [46, 99, 115, 115] h9
  have t10 : (s.toList == [46, 109, 111, 100, 117, 108, 101, 46, 99, 115, 115]) = false := ne_list [46, 109, 111, 100, 117, 108, 101, 46, 99, 115, 115] h10
  have t11 : (s.toList == [46, 106, 115, 111, 110]) = false := ne_list [46, 106, 115, 111, 110] h11
  have t12 : (s.toList == [46, 116, 120, 116]) = false := ne_list [46, 116, 120, 116] h12
  clear hl h0 h1 h2 h3 h4 h5 h6 h7 h8 h9 h10 h11 h12
  go_enter Try.func40, Try.ntmps40
  go_wp2
  go_ret2
  exact ⟨rfl, rfl⟩
theorem key45 (k : Nat) (hk : k < 13) (w : World) : Calls Try.prog 45 #[.int .i64 k] w fun e w' => (∃ s i, tlook s tab = some i ∧ e = .returned (.string s)) ∧ w = w' := by
  have e : k = 0 ∨ k = 1 ∨ k = 2 ∨ k = 3 ∨ k = 4 ∨ k = 5 ∨ k = 6 ∨ k = 7 ∨ k = 8 ∨ k = 9 ∨ k = 10 ∨ k = 11 ∨ k = 12 := by omega
  rcases e with rfl | rfl | rfl | rfl | rfl | rfl | rfl | rfl | rfl | rfl | rfl | rfl | rfl
  · go_enter Try.func45, Try.ntmps45
    go_wp2
    go_ret
    exact ⟨⟨⟨#[]⟩, 10, by decide, rfl⟩, rfl⟩
  · go_enter Try.func45, Try.ntmps45
    go_wp2
    go_ret
    exact ⟨⟨⟨#[46, 106, 115]⟩, 10, by decide, rfl⟩, rfl⟩
  · go_enter Try.func45, Try.ntmps45
    go_wp2
    go_ret
    exact ⟨⟨⟨#[46, 109, 106, 115]⟩, 10, by decide, rfl⟩, rfl⟩
  · go_enter Try.func45, Try.ntmps45
    go_wp2
    go_ret
    exact ⟨⟨⟨#[46, 99, 106, 115]⟩, 10, by decide, rfl⟩, rfl⟩
  · go_enter Try.func45, Try.ntmps45
    go_wp2
    go_ret
    exact ⟨⟨⟨#[46, 106, 115, 120]⟩, 13, by decide, rfl⟩, rfl⟩
  · go_enter Try.func45, Try.ntmps45
    go_wp2
    go_ret
    exact ⟨⟨⟨#[46, 116, 115]⟩, 16, by decide, rfl⟩, rfl⟩
  · go_enter Try.func45, Try.ntmps45
    go_wp2
    go_ret
    exact ⟨⟨⟨#[46, 99, 116, 115]⟩, 17, by decide, rfl⟩, rfl⟩
  · go_enter Try.func45, Try.ntmps45
    go_wp2
    go_ret
    exact ⟨⟨⟨#[46, 109, 116, 115]⟩, 17, by decide, rfl⟩, rfl⟩
  · go_enter Try.func45, Try.ntmps45
    go_wp2
    go_ret
    exact ⟨⟨⟨#[46, 116, 115, 120]⟩, 18, by decide, rfl⟩, rfl⟩
  · go_enter Try.func45, Try.ntmps45
    go_wp2
    go_ret
    exact ⟨⟨⟨#[46, 99, 115, 115]⟩, 4, by decide, rfl⟩, rfl⟩
  · go_enter Try.func45, Try.ntmps45
    go_wp2
    go_ret
    exact ⟨⟨⟨#[46, 109, 111, 100, 117, 108, 101, 46, 99, 115, 115]⟩, 14, by decide, rfl⟩, rfl⟩
  · go_enter Try.func45, Try.ntmps45
    go_wp2
    go_ret
    exact ⟨⟨⟨#[46, 106, 115, 111, 110]⟩, 11, by decide, rfl⟩, rfl⟩
  · go_enter Try.func45, Try.ntmps45
    go_wp2
    go_ret
    exact ⟨⟨⟨#[46, 116, 120, 116]⟩, 15, by decide, rfl⟩, rfl⟩
end Go.Proofs.Ytjgomgagaolhgab.DlA
