/- DecodeVLQUTF16. -/
import Derived.Test.YtjgomgagaolhgacRRDoorRows
import Derived.Test.YtjgomgagaolhgacRRDoorMem
import Derived.Test.YtjgomgagaolhgacRRDoorSl
import Derived.Test.YtjgomgagaolhgacRRDoorEnc
import Derived.Lib.BytesEntry
import Derived.Laws.Externs
import Derived.WalkKit
import Derived.ProofKit
import Derived.OpenShut
import Derived.Below
import Derived.WalkLawsBesides
import Derived.Lib.Hide
import Derived.Outline
import Derived.RegionTactic
import Derived.Deep.QuietTactic
import Derived.BigQuiet
import Derived.WalkSpells
import Derived.Deep.OwnRows
import Derived.IntWalk
import Derived.Deep.DeepMust
namespace Go.Proofs.YtjgomgagaolhgacRRDoor.DecA
open Go.RowKit Mem Sl
set_option linter.unusedVariables false
open Own Vq Args Enc

theorem idx_ch : ∀ d : Fin 64, Lib.indexByte (Lib.bytesOf b64) (ch d.val).toNat.toUInt8 = (d.val : Int) := by decide +kernel
theorem idx28 (d : Nat) (hd : d < 64) (b off c : Nat) (w : World) (hc : ∀ i, i < 64 → w.cell? ⟨b, off + i, none⟩ = some (.int .u8 (ch i))) :
    Calls Tryd.prog 28 #[.slice (some ⟨b, off, none⟩) 64 c, .int .u8 (ch d)] w fun e w' => e = .returned (.int .i64 d) ∧ w' = w := by
  have hrun := Lib.run_indexByteSlice (P := Tryd.prog) w b off 64 c b64 rfl hc (ch d)
  have hi := idx_ch ⟨d, hd⟩
  simp only at hi
  rw [hi] at hrun
  clear hi hc
  generalize ch d = x at hrun
  go_enter Tryd.func28, Tryd.ntmps28
  go_wp2
  rw [run_callFunc_extern Tryd.func30 (by kernel_rfl) (by kernel_rfl) (by kernel_rfl) (e := Extern.BytealgIndexByte.indexByte) (by kernel_rfl), hrun]
  simp only [Result.andThen]
  rw [Oper.upon_value]
  go_wp2
  go_ret
  exact ⟨rfl, rfl⟩
theorem wraps_i32' (n : Int) (h₀ : 0 ≤ n) (h₁ : n < 2 ^ 31) : IntKind.i32.wrap n = n := by rw [IntKind.wrap_i32]; omega
theorem and31i (x : Nat) (h1 : x < 64) : bits .and .i32 (x : Int) 31 = ((x % 32 : Nat) : Int) := by
  rw [show (31 : Int) = 2 ^ 5 - 1 by decide, bits_mask .i32 31 (by decide) wraps_i32' 5 (by omega) x (by omega) (by omega)]
  omega
theorem and1i (x : Nat) (h1 : x < 2147483648) : bits .and .i32 (x : Int) 1 = ((x % 2 : Nat) : Int) := by
  rw [show (1 : Int) = 2 ^ 1 - 1 by decide, bits_mask .i32 31 (by decide) wraps_i32' 1 (by omega) x (by omega) (by omega)]
  omega
theorem and32i : ∀ x : Fin 64, bits .and .i32 ((x.val : Nat) : Int) 32 = (((x.val / 32) * 32 : Nat) : Int) := by decide +kernel
theorem or_add (i a b : Nat) (ha : a < 2 ^ i) (hb : b % 2 ^ i = 0) (ha' : a < 2147483648) (hb' : b < 2147483648) : bits .or .i32 (a : Int) (b : Int) = ((a + b : Nat) : Int) := by
  have h := (bits_nat .i32 31 (by decide) wraps_i32' a b (by omega) (by omega)).2
  have h' := (bits_nat .i32 31 (by decide) wraps_i32' b a (by omega) (by omega)).2
  have hj := bits_join .i32 31 (by decide) wraps_i32' i (b : Int) (a : Int) (by omega) (by exact_mod_cast hb) (by omega) (by omega) (by exact_mod_cast ha) (by omega)
  rw [h, Nat.or_comm, ← h', hj]
  omega
def valOf (n : Nat) : Int := if n % 2 = 0 then ((n / 2 : Nat) : Int) else -((n / 2 : Nat) : Int)
theorem valOf_vlq (v : Int) : valOf (vlqOf v) = v := by
  unfold valOf vlqOf
  split <;> split <;> omega
/-- What DecodeVLQUTF16 answers. -/
def DecP (w : World) (N : Nat) (e : Ending) (w' : World) : Prop := e = .returned (.tuple #[.int .i32 (valOf N), .int .i64 (code N).length, .bool true]) ∧ Below w.heap.size w w'
/-- The text from k on is the code of n and what follows it. -/
def At (us : List Int) (k n : Nat) : Prop := ∃ rest, us.drop k = code n ++ rest
theorem At.head_small {us : List Int} {k n : Nat} (h : At us k n) (hn : n < 32) : us.getD k 0 = ch n ∧ k < us.length := by
  obtain ⟨rest, h⟩ := h
  rw [code_small n hn] at h
  have hk : k < us.length := by
    rcases Nat.lt_or_ge k us.length with h' | h'
    · exact h'
    · rw [List.drop_eq_nil_of_le h'] at h; simp at h
  rw [List.drop_eq_getElem_cons hk] at h
  simp only [List.cons_append, List.nil_append, List.cons.injEq] at h
  exact ⟨by simp [List.getD, hk, h.1], hk⟩
theorem At.head_big {us : List Int} {k n : Nat} (h : At us k n) (hn : 32 ≤ n) : us.getD k 0 = ch (n % 32 + 32) ∧ k < us.length ∧ At us (k + 1) (n / 32) := by
  obtain ⟨rest, h⟩ := h
  rw [code_big n hn] at h
  have hk : k < us.length := by
    rcases Nat.lt_or_ge k us.length with h' | h'
    · exact h'
    · rw [List.drop_eq_nil_of_le h'] at h; simp at h
  rw [List.drop_eq_getElem_cons hk] at h
  simp only [List.cons_append, List.cons.injEq] at h
  exact ⟨by simp [List.getD, hk, h.1], hk, rest, h.2⟩
set_option maxHeartbeats 4000000 in
set_option maxRecDepth 100000 in
theorem dec14 (A : Option Addr) (n c N : Nat) (us : List Int) (w : World) (hi : IsInts .u16 w A n c us) (hn : n ≤ 1000000) (hL : B64 w.heap.size w) (hat : At us 0 N) (hN : N < 2147483648) :
    Calls Tryd.prog 14 #[.slice A n c] w (DecP w N) := by
  have hlen := hi.2.2.1
  have hpos : 0 < n := by
    rcases Nat.lt_or_ge N 32 with h | h
    · have := (hat.head_small h).2; omega
    · have := (hat.head_big h).2.1; omega
  have HI := Lib.hid hi
  have HL := Lib.hid hL
  have HA := Lib.hid hat
  have HLen := Lib.hid hlen
  have g0 : ((n : Int) == 0) = false := by simp; omega
  clear hi hL hat hlen
  go_enter Tryd.func14, Tryd.ntmps14
  go_wp2_with fail
  clear g0
  go_loopw [6, 7, 8] (fun cu sh vl wr => ∃ k m acc : Nat, k ≤ 6 ∧ cu = .int .i64 k ∧ sh = .int .i64 ((5 * k : Nat) : Int) ∧ vl = .int .i32 acc ∧ N = acc + m * 2 ^ (5 * k) ∧ acc < 2 ^ (5 * k) ∧ At us k m ∧ (code N).length = k + (code m).length ∧ Below w.heap.size w wr) (fun cu _ _ _ => 7 - (intOf cu).toNat)
  case atStart => exact ⟨0, N, 0, by omega, rfl, rfl, rfl, by simp, by simp, HA.out, by simp, Below.refl _ _⟩
  case round =>
    obtain ⟨k, m, acc, hk, rfl, rfl, rfl, hNe, hacc, hat, hcl, hbel⟩ := hrel
    have HB := Lib.hid hbel
    have hi' := HI.out.later hbel
    obtain ⟨_, _, b, off, cc, _, g0, hcell⟩ := HL.out.below hbel
    have HCELL := Lib.hid hcell
    by_cases hm : m < 32
    · obtain ⟨hx, hlt⟩ := hat.head_small hm
      rw [HLen.out] at hlt
      obtain ⟨b1, o1, ha, hb1, hc1⟩ := hi'.read k hlt
      subst ha
      rw [hx] at hc1
      have hb := ch_bounds (show m < 64 by omega)
      have hb0 := hb.1
      have hb2 := hb.2
      have hwc : IntKind.u8.wrap (ch m) = ch m := by rw [IntKind.wrap_u8]; omega
      have ex := and31i m (by omega)
      have em : m % 32 = m := by omega
      rw [em] at ex
      have ey := and32i ⟨m, by omega⟩
      have em2 : m / 32 = 0 := by omega
      simp only [em2, Nat.zero_mul] at ey
      have HI28 := Lib.hid (fun q => idx28 m (by omega) b off cc (wr.drewN q) hcell)
      have HCL := Lib.hid hcl
      have HNE := Lib.hid hNe
      have hcs := code_small m hm
      have HCS := Lib.hid hcs
      have i0 : (0 : Int) ≤ k := by omega
      have i1 : (k : Int) < n := by omega
      have gk : decide ((n : Int) ≤ (k : Int)) = false := by simp; omega
      clear hx hbel hi' hcell hb em em2 hat hcl hcs
      generalize ch m = x at *
      have e7 : k = 0 ∨ k = 1 ∨ k = 2 ∨ k = 3 ∨ k = 4 ∨ k = 5 ∨ k = 6 := by omega
      rcases e7 with rfl | rfl | rfl | rfl | rfl | rfl | rfl
      · have hNe' : N = acc + m * 1 := HNE.out
        have hacc' : acc < 1 := hacc
        clear hNe hacc
        obtain rfl : acc = 0 := by omega
        simp only [Nat.add_zero] at hc1
        have ho : bits .or .i32 (0) (m : Int) = (N : Int) := by
          have := or_add 0 0 (m * 1) hacc' (Nat.mod_one _) (by omega) (by omega)
          rw [hNe', ← this]
          congr 1
          omega
        have hmb : m * 1 < 2147483648 := by omega
        have e1 := and1i N hN
        have HC1 := Lib.hid (show ((code N).length : Int) = 0 + 1 by have := HCL.out; rw [HCS.out] at this; simp at this; omega)
        by_cases hp : N % 2 = 0
        · rw [hp] at e1
          have HV := Lib.hid (show valOf N = (N : Int) / 2 by unfold valOf; rw [if_pos hp]; omega)
          clear hNe' hp
          go_wp2_with fail
          go_quiet ((go_at_call 28; exact Calls.quiet_of_same (HI28.out _)))
          go_wp2_with fail
          go_ret3
          exact ⟨by rw [HV.out, HC1.out]; rfl, below_drewN HB.out _⟩
        · have hp1 : N % 2 = 1 := by omega
          rw [hp1] at e1
          have HV := Lib.hid (show valOf N = -((N : Int) / 2) by unfold valOf; rw [if_neg hp]; omega)
          clear hNe' hp hp1
          go_wp2_with fail
          go_quiet ((go_at_call 28; exact Calls.quiet_of_same (HI28.out _)))
          go_wp2_with fail
          go_ret3
          exact ⟨by rw [HV.out, HC1.out]; rfl, below_drewN HB.out _⟩
      · have hNe' : N = acc + m * 32 := HNE.out
        have hacc' : acc < 32 := hacc
        clear hNe hacc
        have ho : bits .or .i32 ((acc : Int)) ((m : Int) * 32) = (N : Int) := by
          have := or_add 5 acc (m * 32) hacc' (Nat.mul_mod_left _ _) (by omega) (by omega)
          rw [hNe', ← this]
          congr 1
          skip
        have hmb : m * 32 < 2147483648 := by omega
        have e1 := and1i N hN
        have HC1 := Lib.hid (show ((code N).length : Int) = 1 + 1 by have := HCL.out; rw [HCS.out] at this; simp at this; omega)
        by_cases hp : N % 2 = 0
        · rw [hp] at e1
          have HV := Lib.hid (show valOf N = (N : Int) / 2 by unfold valOf; rw [if_pos hp]; omega)
          clear hNe' hp
          go_wp2_with fail
          go_quiet ((go_at_call 28; exact Calls.quiet_of_same (HI28.out _)))
          go_wp2_with fail
          go_ret3
          exact ⟨by rw [HV.out, HC1.out]; rfl, below_drewN HB.out _⟩
        · have hp1 : N % 2 = 1 := by omega
          rw [hp1] at e1
          have HV := Lib.hid (show valOf N = -((N : Int) / 2) by unfold valOf; rw [if_neg hp]; omega)
          clear hNe' hp hp1
          go_wp2_with fail
          go_quiet ((go_at_call 28; exact Calls.quiet_of_same (HI28.out _)))
          go_wp2_with fail
          go_ret3
          exact ⟨by rw [HV.out, HC1.out]; rfl, below_drewN HB.out _⟩
      · have hNe' : N = acc + m * 1024 := HNE.out
        have hacc' : acc < 1024 := hacc
        clear hNe hacc
        have ho : bits .or .i32 ((acc : Int)) ((m : Int) * 1024) = (N : Int) := by
          have := or_add 10 acc (m * 1024) hacc' (Nat.mul_mod_left _ _) (by omega) (by omega)
          rw [hNe', ← this]
          congr 1
          skip
        have hmb : m * 1024 < 2147483648 := by omega
        have e1 := and1i N hN
        have HC1 := Lib.hid (show ((code N).length : Int) = 2 + 1 by have := HCL.out; rw [HCS.out] at this; simp at this; omega)
        by_cases hp : N % 2 = 0
        · rw [hp] at e1
          have HV := Lib.hid (show valOf N = (N : Int) / 2 by unfold valOf; rw [if_pos hp]; omega)
          clear hNe' hp
          go_wp2_with fail
          go_quiet ((go_at_call 28; exact Calls.quiet_of_same (HI28.out _)))
          go_wp2_with fail
          go_ret3
          exact ⟨by rw [HV.out, HC1.out]; rfl, below_drewN HB.out _⟩
        · have hp1 : N % 2 = 1 := by omega
          rw [hp1] at e1
          have HV := Lib.hid (show valOf N = -((N : Int) / 2) by unfold valOf; rw [if_neg hp]; omega)
          clear hNe' hp hp1
          go_wp2_with fail
          go_quiet ((go_at_call 28; exact Calls.quiet_of_same (HI28.out _)))
          go_wp2_with fail
          go_ret3
          exact ⟨by rw [HV.out, HC1.out]; rfl, below_drewN HB.out _⟩
      · have hNe' : N = acc + m * 32768 := HNE.out
        have hacc' : acc < 32768 := hacc
        clear hNe hacc
        have ho : bits .or .i32 ((acc : Int)) ((m : Int) * 32768) = (N : Int) := by
          have := or_add 15 acc (m * 32768) hacc' (Nat.mul_mod_left _ _) (by omega) (by omega)
          rw [hNe', ← this]
          congr 1
          skip
        have hmb : m * 32768 < 2147483648 := by omega
        have e1 := and1i N hN
        have HC1 := Lib.hid (show ((code N).length : Int) = 3 + 1 by have := HCL.out; rw [HCS.out] at this; simp at this; omega)
        by_cases hp : N % 2 = 0
        · rw [hp] at e1
          have HV := Lib.hid (show valOf N = (N : Int) / 2 by unfold valOf; rw [if_pos hp]; omega)
          clear hNe' hp
          go_wp2_with fail
          go_quiet ((go_at_call 28; exact Calls.quiet_of_same (HI28.out _)))
          go_wp2_with fail
          go_ret3
          exact ⟨by rw [HV.out, HC1.out]; rfl, below_drewN HB.out _⟩
        · have hp1 : N % 2 = 1 := by omega
          rw [hp1] at e1
          have HV := Lib.hid (show valOf N = -((N : Int) / 2) by unfold valOf; rw [if_neg hp]; omega)
          clear hNe' hp hp1
          go_wp2_with fail
          go_quiet ((go_at_call 28; exact Calls.quiet_of_same (HI28.out _)))
          go_wp2_with fail
          go_ret3
          exact ⟨by rw [HV.out, HC1.out]; rfl, below_drewN HB.out _⟩
      · have hNe' : N = acc + m * 1048576 := HNE.out
        have hacc' : acc < 1048576 := hacc
        clear hNe hacc
        have ho : bits .or .i32 ((acc : Int)) ((m : Int) * 1048576) = (N : Int) := by
          have := or_add 20 acc (m * 1048576) hacc' (Nat.mul_mod_left _ _) (by omega) (by omega)
          rw [hNe', ← this]
          congr 1
          skip
        have hmb : m * 1048576 < 2147483648 := by omega
        have e1 := and1i N hN
        have HC1 := Lib.hid (show ((code N).length : Int) = 4 + 1 by have := HCL.out; rw [HCS.out] at this; simp at this; omega)
        by_cases hp : N % 2 = 0
        · rw [hp] at e1
          have HV := Lib.hid (show valOf N = (N : Int) / 2 by unfold valOf; rw [if_pos hp]; omega)
          clear hNe' hp
          go_wp2_with fail
          go_quiet ((go_at_call 28; exact Calls.quiet_of_same (HI28.out _)))
          go_wp2_with fail
          go_ret3
          exact ⟨by rw [HV.out, HC1.out]; rfl, below_drewN HB.out _⟩
        · have hp1 : N % 2 = 1 := by omega
          rw [hp1] at e1
          have HV := Lib.hid (show valOf N = -((N : Int) / 2) by unfold valOf; rw [if_neg hp]; omega)
          clear hNe' hp hp1
          go_wp2_with fail
          go_quiet ((go_at_call 28; exact Calls.quiet_of_same (HI28.out _)))
          go_wp2_with fail
          go_ret3
          exact ⟨by rw [HV.out, HC1.out]; rfl, below_drewN HB.out _⟩
      · have hNe' : N = acc + m * 33554432 := HNE.out
        have hacc' : acc < 33554432 := hacc
        clear hNe hacc
        have ho : bits .or .i32 ((acc : Int)) ((m : Int) * 33554432) = (N : Int) := by
          have := or_add 25 acc (m * 33554432) hacc' (Nat.mul_mod_left _ _) (by omega) (by omega)
          rw [hNe', ← this]
          congr 1
          skip
        have hmb : m * 33554432 < 2147483648 := by omega
        have e1 := and1i N hN
        have HC1 := Lib.hid (show ((code N).length : Int) = 5 + 1 by have := HCL.out; rw [HCS.out] at this; simp at this; omega)
        by_cases hp : N % 2 = 0
        · rw [hp] at e1
          have HV := Lib.hid (show valOf N = (N : Int) / 2 by unfold valOf; rw [if_pos hp]; omega)
          clear hNe' hp
          go_wp2_with fail
          go_quiet ((go_at_call 28; exact Calls.quiet_of_same (HI28.out _)))
          go_wp2_with fail
          go_ret3
          exact ⟨by rw [HV.out, HC1.out]; rfl, below_drewN HB.out _⟩
        · have hp1 : N % 2 = 1 := by omega
          rw [hp1] at e1
          have HV := Lib.hid (show valOf N = -((N : Int) / 2) by unfold valOf; rw [if_neg hp]; omega)
          clear hNe' hp hp1
          go_wp2_with fail
          go_quiet ((go_at_call 28; exact Calls.quiet_of_same (HI28.out _)))
          go_wp2_with fail
          go_ret3
          exact ⟨by rw [HV.out, HC1.out]; rfl, below_drewN HB.out _⟩
      · have hNe' : N = acc + m * 1073741824 := HNE.out
        have hacc' : acc < 1073741824 := hacc
        clear hNe hacc
        have ho : bits .or .i32 ((acc : Int)) ((m : Int) * 1073741824) = (N : Int) := by
          have := or_add 30 acc (m * 1073741824) hacc' (Nat.mul_mod_left _ _) (by omega) (by omega)
          rw [hNe', ← this]
          congr 1
          skip
        have hmb : m * 1073741824 < 2147483648 := by omega
        have e1 := and1i N hN
        have HC1 := Lib.hid (show ((code N).length : Int) = 6 + 1 by have := HCL.out; rw [HCS.out] at this; simp at this; omega)
        by_cases hp : N % 2 = 0
        · rw [hp] at e1
          have HV := Lib.hid (show valOf N = (N : Int) / 2 by unfold valOf; rw [if_pos hp]; omega)
          clear hNe' hp
          go_wp2_with fail
          go_quiet ((go_at_call 28; exact Calls.quiet_of_same (HI28.out _)))
          go_wp2_with fail
          go_ret3
          exact ⟨by rw [HV.out, HC1.out]; rfl, below_drewN HB.out _⟩
        · have hp1 : N % 2 = 1 := by omega
          rw [hp1] at e1
          have HV := Lib.hid (show valOf N = -((N : Int) / 2) by unfold valOf; rw [if_neg hp]; omega)
          clear hNe' hp hp1
          go_wp2_with fail
          go_quiet ((go_at_call 28; exact Calls.quiet_of_same (HI28.out _)))
          go_wp2_with fail
          go_ret3
          exact ⟨by rw [HV.out, HC1.out]; rfl, below_drewN HB.out _⟩
    · obtain ⟨hx, hlt, hat'⟩ := hat.head_big (by omega)
      rw [HLen.out] at hlt
      obtain ⟨b1, o1, ha, hb1, hc1⟩ := hi'.read k hlt
      subst ha
      rw [hx] at hc1
      have hb := ch_bounds (show m % 32 + 32 < 64 by omega)
      have hb0 := hb.1
      have hb2 := hb.2
      have hwc : IntKind.u8.wrap (ch (m % 32 + 32)) = ch (m % 32 + 32) := by rw [IntKind.wrap_u8]; omega
      obtain ⟨d, hd⟩ : ∃ d, d = m % 32 := ⟨_, rfl⟩
      rw [← hd] at hb hb0 hb2 hwc hc1 hx
      have hdl : d < 32 := by omega
      obtain ⟨D, hD⟩ : ∃ D, D = d + 32 := ⟨_, rfl⟩
      rw [← hD] at hb hb0 hb2 hwc hc1 hx
      have ex := and31i D (by omega)
      have em : D % 32 = d := by omega
      rw [em] at ex
      have ey := and32i ⟨D, by omega⟩
      have em2 : D / 32 = 1 := by omega
      simp only [em2, Nat.one_mul] at ey
      have hDl : D < 64 := by omega
      have HI28 := Lib.hid (fun q => idx28 D (by omega) b off cc (wr.drewN q) hcell)
      have HNE := Lib.hid hNe
      have HAT := Lib.hid hat'
      have HCL := Lib.hid (show (code N).length = (k + 1) + (code (m / 32)).length by rw [hcl, code_big m (by omega)]; simp; omega)
      have HD := Lib.hid hd
      have i0 : (0 : Int) ≤ k := by omega
      have i1 : (k : Int) < n := by omega
      have gk : decide ((n : Int) ≤ (k : Int)) = false := by simp; omega
      clear hx hbel hi' hcell hb em em2 hat hat' hcl hd hD
      generalize ch D = x at *
      have e7 : k = 0 ∨ k = 1 ∨ k = 2 ∨ k = 3 ∨ k = 4 ∨ k = 5 ∨ k = 6 := by omega
      rcases e7 with rfl | rfl | rfl | rfl | rfl | rfl | rfl
      · have hNe' : N = acc + m * 1 := HNE.out
        have hacc' : acc < 1 := hacc
        have hdm : m = d + 32 * (m / 32) := by have := HD.out; omega
        clear hNe hacc
        obtain rfl : acc = 0 := by omega
        simp only [Nat.add_zero] at hc1
        have ho : bits .or .i32 (0) (d : Int) = ((0 + d * 1 : Nat) : Int) := by
          have := or_add 0 0 (d * 1) hacc' (Nat.mod_one _) (by omega) (by omega)
          rw [← this]
          congr 1
          omega
        have HR := Lib.hid (show N = (0 + d * 1) + (m / 32) * 2 ^ (5 * (0 + 1)) ∧ 0 + d * 1 < 2 ^ (5 * (0 + 1)) by
          refine ⟨?_, ?_⟩
          · show N = (0 + d * 1) + (m / 32) * 32
            omega
          · show 0 + d * 1 < 32
            omega)
        clear hNe' hdm
        go_wp2_with fail
        go_quiet ((go_at_call 28; exact Calls.quiet_of_same (HI28.out _)))
        go_wp2_with fail
        go_roundw
        case rel => exact ⟨0 + 1, m / 32, 0 + d * 1, by omega, rfl, rfl, by simp, HR.out.1, HR.out.2, HAT.out, HCL.out, below_drewN HB.out _⟩
        case measure => simp [intOf]
      · have hNe' : N = acc + m * 32 := HNE.out
        have hacc' : acc < 32 := hacc
        have hdm : m = d + 32 * (m / 32) := by have := HD.out; omega
        clear hNe hacc
        have ho : bits .or .i32 ((acc : Int)) ((d : Int) * 32) = ((acc + d * 32 : Nat) : Int) := by
          have := or_add 5 acc (d * 32) hacc' (Nat.mul_mod_left _ _) (by omega) (by omega)
          rw [← this]
          congr 1
          skip
        have HR := Lib.hid (show N = (acc + d * 32) + (m / 32) * 2 ^ (5 * (1 + 1)) ∧ acc + d * 32 < 2 ^ (5 * (1 + 1)) by
          refine ⟨?_, ?_⟩
          · show N = (acc + d * 32) + (m / 32) * 1024
            omega
          · show acc + d * 32 < 1024
            omega)
        clear hNe' hdm
        go_wp2_with fail
        go_quiet ((go_at_call 28; exact Calls.quiet_of_same (HI28.out _)))
        go_wp2_with fail
        go_roundw
        case rel => exact ⟨1 + 1, m / 32, acc + d * 32, by omega, rfl, rfl, rfl, HR.out.1, HR.out.2, HAT.out, HCL.out, below_drewN HB.out _⟩
        case measure => simp [intOf]
      · have hNe' : N = acc + m * 1024 := HNE.out
        have hacc' : acc < 1024 := hacc
        have hdm : m = d + 32 * (m / 32) := by have := HD.out; omega
        clear hNe hacc
        have ho : bits .or .i32 ((acc : Int)) ((d : Int) * 1024) = ((acc + d * 1024 : Nat) : Int) := by
          have := or_add 10 acc (d * 1024) hacc' (Nat.mul_mod_left _ _) (by omega) (by omega)
          rw [← this]
          congr 1
          skip
        have HR := Lib.hid (show N = (acc + d * 1024) + (m / 32) * 2 ^ (5 * (2 + 1)) ∧ acc + d * 1024 < 2 ^ (5 * (2 + 1)) by
          refine ⟨?_, ?_⟩
          · show N = (acc + d * 1024) + (m / 32) * 32768
            omega
          · show acc + d * 1024 < 32768
            omega)
        clear hNe' hdm
        go_wp2_with fail
        go_quiet ((go_at_call 28; exact Calls.quiet_of_same (HI28.out _)))
        go_wp2_with fail
        go_roundw
        case rel => exact ⟨2 + 1, m / 32, acc + d * 1024, by omega, rfl, rfl, rfl, HR.out.1, HR.out.2, HAT.out, HCL.out, below_drewN HB.out _⟩
        case measure => simp [intOf]
      · have hNe' : N = acc + m * 32768 := HNE.out
        have hacc' : acc < 32768 := hacc
        have hdm : m = d + 32 * (m / 32) := by have := HD.out; omega
        clear hNe hacc
        have ho : bits .or .i32 ((acc : Int)) ((d : Int) * 32768) = ((acc + d * 32768 : Nat) : Int) := by
          have := or_add 15 acc (d * 32768) hacc' (Nat.mul_mod_left _ _) (by omega) (by omega)
          rw [← this]
          congr 1
          skip
        have HR := Lib.hid (show N = (acc + d * 32768) + (m / 32) * 2 ^ (5 * (3 + 1)) ∧ acc + d * 32768 < 2 ^ (5 * (3 + 1)) by
          refine ⟨?_, ?_⟩
          · show N = (acc + d * 32768) + (m / 32) * 1048576
            omega
          · show acc + d * 32768 < 1048576
            omega)
        clear hNe' hdm
        go_wp2_with fail
        go_quiet ((go_at_call 28; exact Calls.quiet_of_same (HI28.out _)))
        go_wp2_with fail
        go_roundw
        case rel => exact ⟨3 + 1, m / 32, acc + d * 32768, by omega, rfl, rfl, rfl, HR.out.1, HR.out.2, HAT.out, HCL.out, below_drewN HB.out _⟩
        case measure => simp [intOf]
      · have hNe' : N = acc + m * 1048576 := HNE.out
        have hacc' : acc < 1048576 := hacc
        have hdm : m = d + 32 * (m / 32) := by have := HD.out; omega
        clear hNe hacc
        have ho : bits .or .i32 ((acc : Int)) ((d : Int) * 1048576) = ((acc + d * 1048576 : Nat) : Int) := by
          have := or_add 20 acc (d * 1048576) hacc' (Nat.mul_mod_left _ _) (by omega) (by omega)
          rw [← this]
          congr 1
          skip
        have HR := Lib.hid (show N = (acc + d * 1048576) + (m / 32) * 2 ^ (5 * (4 + 1)) ∧ acc + d * 1048576 < 2 ^ (5 * (4 + 1)) by
          refine ⟨?_, ?_⟩
          · show N = (acc + d * 1048576) + (m / 32) * 33554432
            omega
          · show acc + d * 1048576 < 33554432
            omega)
        clear hNe' hdm
        go_wp2_with fail
        go_quiet ((go_at_call 28; exact Calls.quiet_of_same (HI28.out _)))
        go_wp2_with fail
        go_roundw
        case rel => exact ⟨4 + 1, m / 32, acc + d * 1048576, by omega, rfl, rfl, rfl, HR.out.1, HR.out.2, HAT.out, HCL.out, below_drewN HB.out _⟩
        case measure => simp [intOf]
      · have hNe' : N = acc + m * 33554432 := HNE.out
        have hacc' : acc < 33554432 := hacc
        have hdm : m = d + 32 * (m / 32) := by have := HD.out; omega
        clear hNe hacc
        have ho : bits .or .i32 ((acc : Int)) ((d : Int) * 33554432) = ((acc + d * 33554432 : Nat) : Int) := by
          have := or_add 25 acc (d * 33554432) hacc' (Nat.mul_mod_left _ _) (by omega) (by omega)
          rw [← this]
          congr 1
          skip
        have HR := Lib.hid (show N = (acc + d * 33554432) + (m / 32) * 2 ^ (5 * (5 + 1)) ∧ acc + d * 33554432 < 2 ^ (5 * (5 + 1)) by
          refine ⟨?_, ?_⟩
          · show N = (acc + d * 33554432) + (m / 32) * 1073741824
            omega
          · show acc + d * 33554432 < 1073741824
            omega)
        clear hNe' hdm
        go_wp2_with fail
        go_quiet ((go_at_call 28; exact Calls.quiet_of_same (HI28.out _)))
        go_wp2_with fail
        go_roundw
        case rel => exact ⟨5 + 1, m / 32, acc + d * 33554432, by omega, rfl, rfl, rfl, HR.out.1, HR.out.2, HAT.out, HCL.out, below_drewN HB.out _⟩
        case measure => simp [intOf]
      · exfalso
        have := HNE.out
        simp only [Nat.reduceMul, Nat.reducePow] at this
        omega
end Go.Proofs.YtjgomgagaolhgacRRDoor.DecA
