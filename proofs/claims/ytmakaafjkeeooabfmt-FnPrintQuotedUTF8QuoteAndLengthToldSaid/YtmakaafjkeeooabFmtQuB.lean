/- FnPrintQuotedUTF8QuoteAndLength: StringToUTF16. -/
import Derived.Test.YtmakaafjkeeooabFmtRows
import Derived.Test.YtmakaafjkeeooabFmtMem
import Derived.Test.YtmakaafjkeeooabFmtSl
import Derived.Test.YtmakaafjkeeooabFmtQuA
import Derived.Laws.BitsAllLaws
import Derived.Laws.RangeAny
import Derived.WalkKit
import Derived.ProofKit
import Derived.OpenShut
import Derived.Below
import Derived.WalkLawsBesides
import Derived.Lib.Hide
import Derived.Outline
import Derived.RegionTactic
import Derived.Deep.QuietTactic
import Derived.BigQuiet
import Derived.WalkSpells
import Derived.Deep.OwnRows
import Derived.IntWalk
import Derived.Deep.DeepMust
namespace Go.Proofs.YtmakaafjkeeooabFmt.QuB
open Go.RowKit Mem Sl
set_option linter.unusedVariables false
open Prn Pru Own Owg Dec Enc QuA

/-- In the midst of the range over s: the iterator in block H + 1 at k, the units so far. -/
structure Mid (w : World) (H : Nat) (s : ByteArray) (k : Nat) (v : Value) (U : List Int) (wr : World) : Prop where
  it : wr.heap[H + 1]? = some (.stringIter s k)
  own : Own wr H 87 .u16 v U
  enc : Enc.Enc U k
  bel : Below H w wr
section
variable {w wr w' w'' : World} {H : Nat} {s : ByteArray} {k k' : Nat} {v v' : Value} {U U' : List Int}
theorem Mid.next (h : Mid w H s k v U wr) (hi : w'.heap[H + 1]? = some (.stringIter s k')) (hg : wr.grownBy w' (some (H + 1))) : Own w' H 87 .u16 v U ∧ Below H w w' :=
  ⟨own_other h.own hg (own_not_iter h.own h.it), h.bel.trans (grown_below' hg (fun g e => by injection e with e; omega) (by have := (Array.getElem?_eq_some_iff.1 h.it).1; omega))⟩
theorem mid_push (hi : w'.heap[H + 1]? = some (.stringIter s k')) (ho : Own w' H 87 .u16 v U) (hb : Below H w w') (o : Obj) (ho' : Own w'' H 87 .u16 v' U') (hg : (w'.alloc o).grownBy w'' v.ownBlock) (he : Enc.Enc U' k') : Mid w H s k' v' U' w'' := by
  have hlt : H + 1 < w'.heap.size := (Array.getElem?_eq_some_iff.1 hi).1
  refine ⟨?_, ho', he, ?_⟩
  · rw [hg.block (H + 1) (by simp; omega) (fun e => own_not_iter ho hi e.symm)]
    exact (Below.heap_alloc w' o (H + 1) hlt).trans hi
  · have h1 : Below H w' (w'.alloc o) := (Below.refl _ _).alloc (by omega) _
    exact (hb.trans h1).trans (grown_below' hg (fun g e => (own_cur ho g e).1) (by simp; omega))
end
theorem own_ne {w : World} {B : Nat} {E : TypeId} {k : IntKind} {v : Value} {zs : List Int} (h : Own w B E k v zs) (hz : zs ≠ []) : ∀ n c, v ≠ .slice none n c := by
  intro n c e
  rcases h.2 with ⟨_, h0⟩ | ⟨g, cap, cur, rfl, _⟩
  · exact hz (List.eq_nil_of_length_eq_zero h0)
  · injection e with e; cases e
theorem own_some {w : World} {B : Nat} {E : TypeId} {k : IntKind} {A : Option Addr} {n c : Nat} {zs : List Int} (h : Own w B E k (.slice A n c) zs) (hv : ∀ n' c', Value.slice A n c ≠ .slice none n' c') : ∃ d, A = some ⟨d, 0, none⟩ := by
  rcases h.2 with ⟨h0, _⟩ | ⟨g, cap, cur, h0, _⟩
  · injection h0 with e1 e2 e3
    exact absurd (by rw [e1]) (hv n c)
  · injection h0 with e1 e2 e3
    exact ⟨g, e1⟩
/-- What StringToUTF16 gives. -/
def Units (w : World) (s : ByteArray) (e : Ending) (w' : World) : Prop := ∃ d c U, e = .returned (.slice (some ⟨d, 0, none⟩) U.length c) ∧ Own w' w.heap.size 87 .u16 (.slice (some ⟨d, 0, none⟩) U.length c) U ∧ Enc.Enc U s.size ∧ Below w.heap.size w w'
theorem and1023 (x : Int) (h0 : 0 ≤ x) (h : x < 2147483648) : bits .and .i32 x 1023 = x % 1024 := by
  rw [show (1023 : Int) = 2 ^ 10 - 1 by decide, bits_mask .i32 31 (by decide) wraps_i32 10 (by omega) x h0 (by omega)]
  rfl
set_option maxRecDepth 100000 in
set_option maxHeartbeats 8000000 in
theorem utf13 (s : ByteArray) (w : World) (hs : s.size ≤ 1048576) : Calls Tryf.prog 13 #[.string s] w (Units w s) := by
  have hmk : ∀ W : World, (Instr.makeSlice 84 (.int .i64 0) (.int .i64 (s.size : Int))).run Tryf.prog W = .ok (.slice (some ⟨W.heap.size, 0, none⟩) 0 s.size) (W.alloc (.cells (madeCells #[.int .u16 0] s.size) 87)) := by
    intro W
    obtain ⟨i, hi, hzz⟩ := Option.map_eq_some_iff.1 info87
    simp only [Prod.mk.injEq] at hzz
    obtain ⟨hz, hsz, hby⟩ := hzz
    have hr := run_make (P := Tryf.prog) W 84 87 i _ Tryf.underlying84 hi hz .i64 .i64 0 s.size (by omega) (by omega) (by rw [hby]; omega) (by omega)
    rw [hr, hsz]
    simp
    rfl
  have HO := Lib.hid (own_made w w.heap.size 87 .u16 s.size (Nat.le_refl _) (by unfold maxLen; omega))
  have HM0 := Lib.hid (show Mid w w.heap.size s 0 (.slice (some ⟨w.heap.size, 0, none⟩) 0 s.size) [] ((w.alloc (.cells (madeCells #[.int .u16 0] s.size) 87)).iter s 0) from
    ⟨by have := World.iter_heap (w.alloc (.cells (madeCells #[.int .u16 0] s.size) 87)) s 0; simpa using this, HO.out.alloc _, .nil, ((Below.refl _ _).alloc (Nat.le_refl _) _).alloc (by simp) _⟩)
  go_enter Tryf.func13, Tryf.ntmps13
  go_wp2_with fail
  clear hmk
  go_loopw [3, 5] (fun x x5 wr => ∃ (k : Nat) (U : List Int), k ≤ s.size ∧ (∀ n c, x ≠ .slice none n c) ∧ Mid w w.heap.size s k x U wr) (fun _ _ wr => s.size - wr.iterPos (w.heap.size + 1))
  case atStart => exact ⟨0, [], Nat.zero_le _, (fun n c h => by injection h with h; cases h), HM0.out⟩
  case round =>
    obtain ⟨k, U, hk, hnn, hmid⟩ := hrel
    have HNN := Lib.hid hnn
    clear hnn
    have hit := hmid.it
    have HIT := Lib.hid hit
    have HMD := Lib.hid hmid
    obtain ⟨A0, c0, hform⟩ := hmid.own.form
    subst hform
    have HUL := Lib.hid (hmid.enc.len)
    clear hmid
    by_cases hlt : k < s.size
    · obtain ⟨W', hnx, hit', hg', hsz'⟩ := next_at (P := Tryf.prog) hit hlt
      have hsp := Dec.dec_span s k hlt
      have hsc := Step.dec_scalar s k
      obtain ⟨hown1, hbel1⟩ := HMD.out.next hit' hg'
      have HOW := Lib.hid hown1
      have HBE := Lib.hid hbel1
      have HI2 := Lib.hid hit'
      have H1 := Lib.hid (fun h => dec_one s k h)
      have H2 := Lib.hid (fun h => dec_two s k h)
      generalize hR : (Utf8.decode s k).1 = R at hnx hit' hsc H1 H2
      generalize hWD : (Utf8.decode s k).2 = WD at hit' hsp H1 H2 HI2
      clear hR hWD hit hit' hg' hsz' hown1 hbel1
      have hnl : U.length ≤ s.size := Nat.le_trans HUL.out hk
      by_cases hle : R ≤ 65535
      · have tle : decide ((R : Int) ≤ 65535) = true := by simp; omega
        have wr16 : IntKind.u16.wrap (R : Int) = (R : Int) := IntWalk.u16_in _ (by omega)
        go_wp2_with (at_builtin; refine wpList_own_g _ rfl (.tmp 16) (.tmp 19) 84 rfl w.heap.size 87 .u16 2 Tryf.underlying84 info87 (by decide) (.slice A0 U.length c0) U rfl (HOW.out.alloc _) W'.heap.size 0 1 1 [(R : Int)] rfl rfl (fun i hi => (by obtain rfl : i = 0 := (by omega); exact (Row.newArr W' 87 #[.int .u16 (R : Int)]).at_ rfl)) (by omega) (by have := HBE.out.size; simp; omega) ?_; intro A1 n1 c1 w1 h1 h2 h3; have HNE := Lib.hid (own_ne h1 (by simp)); have HM1 := Lib.hid (mid_push HI2.out HOW.out HBE.out _ h1 h2 (HMD.out.enc.snoc1 (H1.out hle))); clear h1 h2 h3)
        go_roundw
        case rel => exact ⟨k + WD, _, by omega, HNE.out, HM1.out⟩
        case measure =>
          have h1 := HIT.out
          have h2 := HM1.out.it
          simp only [World.iterPos, h2, h1]
          omega
      · have tle : decide ((R : Int) ≤ 65535) = false := by simp; omega
        obtain ⟨h4, h5⟩ := H2.out (by omega)
        have hx0 : (0 : Int) ≤ (R : Int) - 65536 := by omega
        have hx1 : (R : Int) - 65536 ≤ 1048575 := by omega
        generalize hX : (R : Int) - 65536 = X at hx0 hx1
        have a1 := and1023 X hx0 (by omega)
        have a2 := and1023 (X / 1024) (by omega) (by omega)
        go_wp2_with (at_builtin; refine wpList_own_g _ rfl (.tmp 23) (.tmp 33) 84 rfl w.heap.size 87 .u16 2 Tryf.underlying84 info87 (by decide) (.slice A0 U.length c0) U rfl (HOW.out.alloc _) W'.heap.size 0 2 2 [55296 + X / 1024 % 1024, 56320 + X % 1024] rfl rfl (fun i hi => (by rcases (show i = 0 ∨ i = 1 by omega) with rfl | rfl; exact (Row.newArr W' 87 #[.int .u16 (55296 + X / 1024 % 1024), .int .u16 (56320 + X % 1024)]).at_ rfl; exact (Row.newArr W' 87 #[.int .u16 (55296 + X / 1024 % 1024), .int .u16 (56320 + X % 1024)]).at_ rfl)) (by omega) (by have := HBE.out.size; simp; omega) ?_; intro A1 n1 c1 w1 h1 h2 h3; have HNE := Lib.hid (own_ne h1 (by simp)); have HM1 := Lib.hid (mid_push (by have h9 := HI2.out; rwa [h4] at h9) HOW.out HBE.out _ h1 h2 (HMD.out.enc.snoc2 (by omega) (by omega) (by omega) (by omega))); clear h1 h2 h3)
        go_roundw
        case rel => exact ⟨k + 4, _, by omega, HNE.out, HM1.out⟩
        case measure =>
          have h1 := HIT.out
          have h2 := HM1.out.it
          simp only [World.iterPos, h2, h1]
          omega
    · have hnx : ∀ ty, (Instr.next (.pointer (some ⟨w.heap.size + 1, 0, none⟩)) true ty).run Tryf.prog wr = .ok (.tuple #[.bool false]) wr := fun ty => next_end hit hlt ty
      obtain rfl : k = s.size := by omega
      clear hit
      go_wp2_with fail
      go_ret
      obtain ⟨d, hd⟩ := own_some HMD.out.own HNN.out
      subst hd
      exact ⟨d, c0, U, rfl, HMD.out.own, HMD.out.enc, HMD.out.bel⟩
end Go.Proofs.YtmakaafjkeeooabFmt.QuB
