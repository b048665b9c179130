/- FnAppendChunkFromZeroIsVerbatim: DecodeVLQ. -/
import Derived.Test.YtmgkjkfhhdkkmabDoorRows
import Derived.Test.YtmgkjkfhhdkkmabDoorMem
import Derived.Test.YtmgkjkfhhdkkmabDoorSl
import Derived.Test.YtmgkjkfhhdkkmabDoorApB
import Derived.Lib.BytesEntry
import Derived.Laws.Externs
import Derived.WalkKit
import Derived.ProofKit
import Derived.OpenShut
import Derived.Below
import Derived.WalkLawsBesides
import Derived.Lib.Hide
import Derived.Outline
import Derived.RegionTactic
import Derived.Deep.QuietTactic
import Derived.BigQuiet
import Derived.WalkSpells
import Derived.Deep.OwnRows
import Derived.IntWalk
import Derived.Deep.DeepMust
namespace Go.Proofs.YtmgkjkfhhdkkmabDoor.ApC
open Go.RowKit Mem Sl
set_option linter.unusedVariables false
open Own Vq ApA ApB Args
theorem idx_ch : ∀ d : Fin 64, Lib.indexByte (Lib.bytesOf b64) (ch d.val).toNat.toUInt8 = (d.val : Int) := by decide +kernel
theorem idx27 (d : Nat) (hd : d < 64) (b off c : Nat) (w : World) (hc : ∀ i, i < 64 → w.cell? ⟨b, off + i, none⟩ = some (.int .u8 (ch i))) :
    Calls Tryd.prog 27 #[.slice (some ⟨b, off, none⟩) 64 c, .int .u8 (ch d)] w fun e w' => e = .returned (.int .i64 d) ∧ w' = w := by
  have hrun := Lib.run_indexByteSlice (P := Tryd.prog) w b off 64 c b64 rfl hc (ch d)
  have hi := idx_ch ⟨d, hd⟩
  simp only at hi
  rw [hi] at hrun
  clear hi hc
  generalize ch d = x at hrun
  go_enter Tryd.func27, Tryd.ntmps27
  go_wp2
  rw [run_callFunc_extern Tryd.func31 (by kernel_rfl) (by kernel_rfl) (by kernel_rfl) (e := Extern.BytealgIndexByte.indexByte) (by kernel_rfl), hrun]
  simp only [Result.andThen]
  rw [Oper.upon_value]
  go_wp2
  go_ret
  exact ⟨rfl, rfl⟩
def valOf (n : Nat) : Int := if n % 2 = 0 then ((n / 2 : Nat) : Int) else -((n / 2 : Nat) : Int)
theorem valOf_vlq (v : Int) : valOf (vlqOf v) = v := by
  unfold valOf vlqOf
  split <;> split <;> omega
/-- The text from k on is the code of n and what follows it. -/
def At (us : List Int) (k n : Nat) : Prop := ∃ rest, us.drop k = code n ++ rest
theorem At.head_small {us : List Int} {k n : Nat} (h : At us k n) (hn : n < 32) : us.getD k 0 = ch n ∧ k < us.length := by
  obtain ⟨rest, h⟩ := h
  rw [code_small n hn] at h
  have hk : k < us.length := by
    rcases Nat.lt_or_ge k us.length with h' | h'
    · exact h'
    · rw [List.drop_eq_nil_of_le h'] at h; simp at h
  rw [List.drop_eq_getElem_cons hk] at h
  simp only [List.cons_append, List.nil_append, List.cons.injEq] at h
  exact ⟨by simp [List.getD, hk, h.1], hk⟩
theorem At.head_big {us : List Int} {k n : Nat} (h : At us k n) (hn : 32 ≤ n) : us.getD k 0 = ch (n % 32 + 32) ∧ k < us.length ∧ At us (k + 1) (n / 32) := by
  obtain ⟨rest, h⟩ := h
  rw [code_big n hn] at h
  have hk : k < us.length := by
    rcases Nat.lt_or_ge k us.length with h' | h'
    · exact h'
    · rw [List.drop_eq_nil_of_le h'] at h; simp at h
  rw [List.drop_eq_getElem_cons hk] at h
  simp only [List.cons_append, List.cons.injEq] at h
  exact ⟨by simp [List.getD, hk, h.1], hk, rest, h.2⟩

theorem and1n (x : Nat) (h1 : x < 2147483648) : bits .and .i64 (x : Int) 1 = ((x % 2 : Nat) : Int) := by
  rw [show (1 : Int) = 2 ^ 1 - 1 by decide, bits_mask .i64 62 (by decide) wraps_i64 1 (by omega) x (by omega) (by omega)]
  omega
theorem and32n : ∀ x : Fin 64, bits .and .i64 ((x.val : Nat) : Int) 32 = (((x.val / 32) * 32 : Nat) : Int) := by decide +kernel
theorem or_add (i a b : Nat) (ha : a < 2 ^ i) (hb : b % 2 ^ i = 0) (ha' : a < 2147483648) (hb' : b < 2147483648) : bits .or .i64 (a : Int) (b : Int) = ((a + b : Nat) : Int) := by
  have h := (bits_nat .i64 62 (by decide) wraps_i64 a b (by omega) (by omega)).2
  have h' := (bits_nat .i64 62 (by decide) wraps_i64 b a (by omega) (by omega)).2
  have hj := bits_join .i64 62 (by decide) wraps_i64 i (b : Int) (a : Int) (by omega) (by exact_mod_cast hb) (by omega) (by omega) (by exact_mod_cast ha) (by omega)
  rw [h, Nat.or_comm, ← h', hj]
  omega
/-- What DecodeVLQ answers. -/
def DecP (w : World) (N S : Nat) (e : Ending) (w' : World) : Prop := e = .returned (.tuple #[.int .i64 (valOf N), .int .i64 ((S + (code N).length : Nat) : Int)]) ∧ Below w.heap.size w w'
set_option maxHeartbeats 4000000 in
set_option maxRecDepth 100000 in
theorem dec16 (A : Option Addr) (n c N S : Nat) (us : List Int) (w : World) (hi : IsInts .u8 w A n c us) (hn : n ≤ 100000000) (B : Nat) (hL : B64 B w) (hat : At us S N) (hN : N < 32768) :
    Calls Tryd.prog 16 #[.slice A n c, .int .i64 (S : Int)] w (DecP w N S) := by
  have HLen := Lib.hid hi.2.2.1
  have HI := Lib.hid hi
  have HL := Lib.hid hL
  have HA := Lib.hid hat
  have hSn : S ≤ 100000000 := by
    have := hi.2.2.1
    rcases Nat.lt_or_ge N 32 with h | h
    · have := (hat.head_small h).2; omega
    · have := (hat.head_big h).2.1; omega
  clear hi hat hL
  go_enter Tryd.func16, Tryd.ntmps16
  go_wp2_with fail
  go_loopw [1, 6, 7] (fun st sh vl wr => ∃ k m acc : Nat, k ≤ 2 ∧ st = .int .i64 ((S + k : Nat) : Int) ∧ sh = .int .i64 ((5 * k : Nat) : Int) ∧ vl = .int .i64 acc ∧ N = acc + m * 2 ^ (5 * k) ∧ acc < 2 ^ (5 * k) ∧ At us (S + k) m ∧ (code N).length = k + (code m).length ∧ Below w.heap.size w wr) (fun st _ _ _ => S + 7 - (intOf st).toNat)
  case atStart => exact ⟨0, N, 0, by omega, rfl, rfl, rfl, by simp, by simp, HA.out, by simp, Below.refl _ _⟩
  case round =>
    obtain ⟨k, m, acc, hk, rfl, rfl, rfl, hNe, hacc, hat, hcl, hbel⟩ := hrel
    have HB := Lib.hid hbel
    have hi' := HI.out.later hbel
    obtain ⟨_, _, b, off, cc, _, g0, hcell⟩ := HL.out.below (hbel.mono HL.out.1)
    have HCELL := Lib.hid hcell
    clear hcell hbel
    generalize hK : S + k = K at hat ⊢
    by_cases hm : m < 32
    · obtain ⟨hx, hlt⟩ := hat.head_small hm
      rw [HLen.out] at hlt
      obtain ⟨b1, o1, ha, hb1, hc1⟩ := hi'.read K hlt
      subst ha
      rw [hx] at hc1
      have ex := and31n m (by omega)
      have em : m % 32 = m := by omega
      rw [em] at ex
      have ey := and32n ⟨m, by omega⟩
      have em2 : m / 32 = 0 := by omega
      simp only [em2, Nat.zero_mul] at ey
      have HI27 := Lib.hid (fun p => idx27 m (by omega) b off cc (wr.drewN p) HCELL.out)
      have HCL := Lib.hid hcl
      have HNE := Lib.hid hNe
      have HCS := Lib.hid (code_small m hm)
      have i0 : (0 : Int) ≤ K := by omega
      have i1 : (K : Int) < n := by omega
      have i2 : (K : Int) ≤ 100000010 := by omega
      have i3 : decide ((m : Int) < 0) = false := decide_eq_false (by omega)
      have HK := Lib.hid hK
      clear hx hb1 em em2 hat hcl hi'
      generalize ch m = x at hc1 HI27
      have e3 : k = 0 ∨ k = 1 ∨ k = 2 := by omega
      rcases e3 with rfl | rfl | rfl
      · have hNe' : N = acc + m * 1 := HNE.out
        have hacc' : acc < 1 := hacc
        clear hNe hacc
        obtain rfl : acc = 0 := by omega
        have ho : bits .or .i64 0 (m : Int) = (N : Int) := by
          have := or_add 0 0 (m * 1) (by omega) (Nat.mod_one _) (by omega) (by omega)
          rw [hNe', ← this]
          congr 1
          omega
        have hmb : m * 1 < 2147483648 := by omega
        have e1 := and1n N (by omega)
        have HC1 := Lib.hid (show ((S + (code N).length : Nat) : Int) = (K : Int) + 1 by have := HCL.out; rw [HCS.out] at this; simp at this; have := HK.out; omega)
        clear hK
        by_cases hp : N % 2 = 0
        · rw [hp] at e1
          have HV := Lib.hid (show valOf N = (N : Int) / 2 by unfold valOf; rw [if_pos hp]; omega)
          clear hNe' hp
          go_wp2_with fail
          go_quiet ((go_at_call 27; exact Calls.quiet_of_same (HI27.out _)))
          go_wp2_with fail
          go_ret2
          exact ⟨by rw [HV.out, HC1.out]; rfl, below_drewN HB.out _⟩
        · have hp1 : N % 2 = 1 := by omega
          rw [hp1] at e1
          have HV := Lib.hid (show valOf N = -((N : Int) / 2) by unfold valOf; rw [if_neg hp]; omega)
          clear hNe' hp hp1
          go_wp2_with fail
          go_quiet ((go_at_call 27; exact Calls.quiet_of_same (HI27.out _)))
          go_wp2_with fail
          go_ret2
          exact ⟨by rw [HV.out, HC1.out]; rfl, below_drewN HB.out _⟩
      · have hNe' : N = acc + m * 32 := HNE.out
        have hacc' : acc < 32 := hacc
        clear hNe hacc
        have ho : bits .or .i64 (acc : Int) ((m : Int) * 32) = (N : Int) := by
          have := or_add 5 acc (m * 32) hacc' (Nat.mul_mod_left _ _) (by omega) (by omega)
          rw [hNe', ← this]
          congr 1
        have hmb : m * 32 < 2147483648 := by omega
        have e1 := and1n N (by omega)
        have HC1 := Lib.hid (show ((S + (code N).length : Nat) : Int) = (K : Int) + 1 by have := HCL.out; rw [HCS.out] at this; simp at this; have := HK.out; omega)
        clear hK
        by_cases hp : N % 2 = 0
        · rw [hp] at e1
          have HV := Lib.hid (show valOf N = (N : Int) / 2 by unfold valOf; rw [if_pos hp]; omega)
          clear hNe' hp
          go_wp2_with fail
          go_quiet ((go_at_call 27; exact Calls.quiet_of_same (HI27.out _)))
          go_wp2_with fail
          go_ret2
          exact ⟨by rw [HV.out, HC1.out]; rfl, below_drewN HB.out _⟩
        · have hp1 : N % 2 = 1 := by omega
          rw [hp1] at e1
          have HV := Lib.hid (show valOf N = -((N : Int) / 2) by unfold valOf; rw [if_neg hp]; omega)
          clear hNe' hp hp1
          go_wp2_with fail
          go_quiet ((go_at_call 27; exact Calls.quiet_of_same (HI27.out _)))
          go_wp2_with fail
          go_ret2
          exact ⟨by rw [HV.out, HC1.out]; rfl, below_drewN HB.out _⟩
      · have hNe' : N = acc + m * 1024 := HNE.out
        have hacc' : acc < 1024 := hacc
        clear hNe hacc
        have ho : bits .or .i64 (acc : Int) ((m : Int) * 1024) = (N : Int) := by
          have := or_add 10 acc (m * 1024) hacc' (Nat.mul_mod_left _ _) (by omega) (by omega)
          rw [hNe', ← this]
          congr 1
        have hmb : m * 1024 < 2147483648 := by omega
        have e1 := and1n N (by omega)
        have HC1 := Lib.hid (show ((S + (code N).length : Nat) : Int) = (K : Int) + 1 by have := HCL.out; rw [HCS.out] at this; simp at this; have := HK.out; omega)
        clear hK
        by_cases hp : N % 2 = 0
        · rw [hp] at e1
          have HV := Lib.hid (show valOf N = (N : Int) / 2 by unfold valOf; rw [if_pos hp]; omega)
          clear hNe' hp
          go_wp2_with fail
          go_quiet ((go_at_call 27; exact Calls.quiet_of_same (HI27.out _)))
          go_wp2_with fail
          go_ret2
          exact ⟨by rw [HV.out, HC1.out]; rfl, below_drewN HB.out _⟩
        · have hp1 : N % 2 = 1 := by omega
          rw [hp1] at e1
          have HV := Lib.hid (show valOf N = -((N : Int) / 2) by unfold valOf; rw [if_neg hp]; omega)
          clear hNe' hp hp1
          go_wp2_with fail
          go_quiet ((go_at_call 27; exact Calls.quiet_of_same (HI27.out _)))
          go_wp2_with fail
          go_ret2
          exact ⟨by rw [HV.out, HC1.out]; rfl, below_drewN HB.out _⟩
    · obtain ⟨hx, hlt, hat'⟩ := hat.head_big (by omega)
      rw [HLen.out] at hlt
      obtain ⟨b1, o1, ha, hb1, hc1⟩ := hi'.read K hlt
      subst ha
      rw [hx] at hc1
      obtain ⟨d, hd⟩ : ∃ d, d = m % 32 := ⟨_, rfl⟩
      rw [← hd] at hc1
      have hdl : d < 32 := by omega
      obtain ⟨D, hD⟩ : ∃ D, D = d + 32 := ⟨_, rfl⟩
      rw [← hD] at hc1
      have ex := and31n D (by omega)
      have em : D % 32 = d := by omega
      rw [em] at ex
      have ey := and32n ⟨D, by omega⟩
      have em2 : D / 32 = 1 := by omega
      simp only [em2, Nat.one_mul] at ey
      have HI27 := Lib.hid (fun p => idx27 D (by omega) b off cc (wr.drewN p) HCELL.out)
      have HNE := Lib.hid hNe
      have HAT := Lib.hid hat'
      have HCL := Lib.hid (show (code N).length = (k + 1) + (code (m / 32)).length by rw [hcl, code_big m (by omega)]; simp; omega)
      have HD := Lib.hid hd
      have i0 : (0 : Int) ≤ K := by omega
      have i1 : (K : Int) < n := by omega
      have i2 : (K : Int) ≤ 100000010 := by omega
      have i3 : decide ((D : Int) < 0) = false := decide_eq_false (by omega)
      have HK := Lib.hid hK
      clear hx hb1 em em2 hat hat' hcl hd hD hi'
      generalize ch D = x at hc1 HI27
      have e3 : k = 0 ∨ k = 1 ∨ k = 2 := by omega
      rcases e3 with rfl | rfl | rfl
      · have hNe' : N = acc + m * 1 := HNE.out
        have hacc' : acc < 1 := hacc
        have hdm : m = d + 32 * (m / 32) := by have := HD.out; omega
        clear hNe hacc
        obtain rfl : acc = 0 := by omega
        have ho : bits .or .i64 0 (d : Int) = ((0 + d * 1 : Nat) : Int) := by
          have := or_add 0 0 (d * 1) (by omega) (Nat.mod_one _) (by omega) (by omega)
          rw [← this]
          congr 1
          omega
        have HR := Lib.hid (show N = (0 + d * 1) + (m / 32) * 2 ^ (5 * (0 + 1)) ∧ 0 + d * 1 < 2 ^ (5 * (0 + 1)) by
          refine ⟨?_, ?_⟩
          · show N = (0 + d * 1) + (m / 32) * 32
            omega
          · show 0 + d * 1 < 32
            omega)
        have hdb : d * 1 < 2147483648 := by omega
        clear hNe' hdm hK
        go_wp2_with fail
        go_quiet ((go_at_call 27; exact Calls.quiet_of_same (HI27.out _)))
        go_wp2_with fail
        go_roundw
        case rel => exact ⟨0 + 1, m / 32, 0 + d * 1, by omega, congrArg (Value.int .i64) (by have := HK.out; omega), rfl, by first | rfl | simp, HR.out.1, HR.out.2, by have h9 := HAT.out; rwa [← HK.out] at h9, HCL.out, below_drewN HB.out _⟩
        case measure => have := HK.out; simp [intOf]; omega
      · have hNe' : N = acc + m * 32 := HNE.out
        have hacc' : acc < 32 := hacc
        have hdm : m = d + 32 * (m / 32) := by have := HD.out; omega
        clear hNe hacc
        have ho : bits .or .i64 (acc : Int) ((d : Int) * 32) = ((acc + d * 32 : Nat) : Int) := by
          have := or_add 5 acc (d * 32) hacc' (Nat.mul_mod_left _ _) (by omega) (by omega)
          rw [← this]
          congr 1
        have HR := Lib.hid (show N = (acc + d * 32) + (m / 32) * 2 ^ (5 * (1 + 1)) ∧ acc + d * 32 < 2 ^ (5 * (1 + 1)) by
          refine ⟨?_, ?_⟩
          · show N = (acc + d * 32) + (m / 32) * 1024
            omega
          · show acc + d * 32 < 1024
            omega)
        have hdb : d * 32 < 2147483648 := by omega
        clear hNe' hdm hK
        go_wp2_with fail
        go_quiet ((go_at_call 27; exact Calls.quiet_of_same (HI27.out _)))
        go_wp2_with fail
        go_roundw
        case rel => exact ⟨1 + 1, m / 32, acc + d * 32, by omega, congrArg (Value.int .i64) (by have := HK.out; omega), rfl, by first | rfl | simp, HR.out.1, HR.out.2, by have h9 := HAT.out; rwa [← HK.out] at h9, HCL.out, below_drewN HB.out _⟩
        case measure => have := HK.out; simp [intOf]; omega
      · exfalso
        have h1 : N = acc + m * 1024 := HNE.out
        omega
end Go.Proofs.YtmgkjkfhhdkkmabDoor.ApC
