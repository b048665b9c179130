/- zzItoa, zzOccBefore. -/
import Derived.Test.YtpagdibnhdfbfabDoorRows
import Derived.Test.YtpagdibnhdfbfabDoorMem
import Derived.Test.YtpagdibnhdfbfabDoorSl
import Derived.Test.YtpagdibnhdfbfabDoorNrB
import Derived.WalkKit
import Derived.ProofKit
import Derived.OpenShut
import Derived.Below
import Derived.WalkLawsBesides
import Derived.Lib.Hide
import Derived.Outline
import Derived.RegionTactic
import Derived.Deep.QuietTactic
import Derived.BigQuiet
import Derived.WalkSpells
import Derived.Deep.OwnRows
import Derived.IntWalk
import Derived.Deep.DeepMust
namespace Go.Proofs.YtpagdibnhdfbfabDoor.NrC
open Go.RowKit Mem Sl
set_option linter.unusedVariables false
open Map Occ Go.MapKept NrA NrB Str

theorem dec_le : ∀ (k n : Nat), n < 10 ^ (k + 1) → (Lib.decDigits n).length ≤ k + 1 := by
  intro k
  induction k with
  | zero => intro n h; simp at h; simp [dec_lt h]
  | succ k ih =>
    intro n h
    by_cases h0 : n < 10
    · simp [dec_lt h0]
    · rw [dec_ge h0]
      have := ih (n / 10) (by rw [Nat.pow_succ] at h; exact Nat.div_lt_of_lt_mul (by rw [Nat.mul_comm]; exact h))
      simp; omega
/-- The digits that are left, then those that stand. -/
def Dg (n m : Nat) (acc : List UInt8) : Prop := Lib.decDigits n = (if m = 0 then [] else Lib.decDigits m) ++ acc
theorem dg_step {n m : Nat} {acc : List UInt8} (h : Dg n m acc) (hm : m ≠ 0) : Dg n (m / 10) (UInt8.ofNat (48 + m % 10) :: acc) := by
  unfold Dg at h ⊢
  rw [h, if_neg hm]
  by_cases h10 : m < 10
  · rw [dec_lt h10, if_pos (by omega), Nat.mod_eq_of_lt h10]; rfl
  · rw [dec_ge h10, if_neg (by omega)]; simp
theorem dg_len {n m : Nat} {acc : List UInt8} (h : Dg n m acc) (hn : n ≤ 9999) : acc.length ≤ 4 ∧ (m ≠ 0 → acc.length ≤ 3) := by
  have h1 := dec_le 3 n (by omega)
  unfold Dg at h
  rw [h] at h1
  simp only [List.length_append] at h1
  refine ⟨by omega, fun hm => ?_⟩
  rw [if_neg hm] at h1
  have := List.length_pos_iff.2 (dec_ne m)
  omega
/-- From cell st on the buffer holds acc. -/
def Buf (xs : List Value) (st : Nat) (acc : List UInt8) : Prop := xs.length = 24 ∧ ∀ (i : Nat) (c : UInt8), acc[i]? = some c → xs[st + i]? = some (.int .u8 (c.toNat : Int))
theorem Buf.push {xs : List Value} {st : Nat} {c : UInt8} {acc : List UInt8} (h : Buf xs (st + 1) acc) (hs : st < 24) : Buf (xs.set st (.int .u8 (c.toNat : Int))) st (c :: acc) := by
  refine ⟨by simp [h.1], fun i e he => ?_⟩
  cases i with
  | zero =>
    simp at he
    subst he
    have := h.1
    rw [Nat.add_zero, List.getElem?_set_self (by omega)]
  | succ i =>
    have h2 := h.2 i e (by simpa using he)
    rw [List.getElem?_set_ne (by omega), ← h2]
    congr 1
    omega
def Rl (w : World) (n : Nat) (s0 s4 : Value) (wr : World) : Prop :=
  ∃ (m st : Nat) (acc : List UInt8) (xs : List Value) (wv : World), wv = wr ∧ s0 = .int .i64 (m : Int) ∧ s4 = .int .i64 (st : Int) ∧ st + acc.length = 24 ∧ Dg n m acc ∧ m ≤ 9999 ∧ Row wr w.heap.size 37 xs ∧ Buf xs st acc ∧ Below w.heap.size w wr
theorem buf_ints {w : World} {g st : Nat} {acc : List UInt8} {xs : List Value} (hr : Row w g 37 xs) (hb : Buf xs st acc) (hl : st + acc.length = 24) : Args.IsInts .u8 w (some ⟨g, st, none⟩) acc.length acc.length (acc.map fun c => (c.toNat : Int)) := by
  refine ⟨Nat.le_refl _, by unfold maxLen; omega, by simp, ?_, (fun h => by cases h), fun _ => ⟨g, st, rfl, hr.lt, fun i hi => ?_⟩⟩
  · intro z hz
    obtain ⟨d, hd, rfl⟩ := List.mem_map.1 hz
    have := d.toNat_lt
    exact WalkArith.wf_u8 (by omega)
  · have e : (acc.map fun c => (c.toNat : Int)).getD i 0 = (acc[i].toNat : Int) := by simp [List.getD, hi]
    rw [e]
    exact hr.at_ (hb.2 i acc[i] (by simp [hi]))
theorem bytes_acc (acc : List UInt8) : bytesOf (acc.map fun c => (c.toNat : Int)) = ⟨acc.toArray⟩ := by
  unfold bytesOf
  simp only [List.map_map]
  congr 2
  conv => rhs; rw [← List.map_id acc]
  apply List.map_congr_left
  intro b _
  simp
theorem slice37 (g st : Nat) (h : st < 24) (W : World) : (Instr.sliceAt 37 (.pointer (some ⟨g, 0, none⟩)) (some (.int .i64 (st : Int))) none none).run Tryd.prog W = .ok (.slice (some ⟨g, st, none⟩) (24 - st) (24 - st)) W := by
  have ht : Tryd.prog.underlying 37 = some (.array (Tryd.prog.arrayLen 37) (Tryd.prog.elem 37)) := by kernel_rfl
  have hl : Tryd.prog.arrayLen 37 = 24 := by kernel_rfl
  have he : Tryd.prog.elem 37 = 5 := by kernel_rfl
  have hz : (sizeOf 5).run Tryd.prog W = .ok 1 W := Tryd.sizeOf5 W
  rw [run_sliceAt_array_l W 37 ⟨g, 0, none⟩ ht .i64 st (by omega) (by rw [hl]; omega), hl, he, hz]
  have hadd : (⟨g, 0, none⟩ : Addr).add (st * 1) = ⟨g, st, none⟩ := by unfold Addr.add; split <;> simp_all
  simp only [Result.andThen_ok, slicedAt, Int.toNat_natCast]
  rw [if_neg (by omega), hadd]
set_option maxHeartbeats 4000000 in
set_option maxRecDepth 100000 in
theorem itoa13 (n : Nat) (w : World) (hn : n ≤ 9999) (hn0 : 1 ≤ n) : Calls Tryd.prog 13 #[.int .i64 (n : Int)] w fun e w' => e = .returned (.string (num n)) ∧ Below w.heap.size w w' := by
  have tz : ((n : Int) == 0) = false := by rw [beq_eq_false_iff_ne]; omega
  go_enter Tryd.func13, Tryd.ntmps13
  go_wp2_with fail
  go_loopw [0, 4] (fun s0 s4 wr => Rl w n s0 s4 wr) (fun s0 _ _ => (intOf s0).toNat)
  case atStart =>
    refine ⟨n, 24, [], _, _, rfl, rfl, rfl, rfl, ?_, hn, Row.newArr w 37 _, ⟨rfl, fun i c h => by simp at h⟩, (Below.refl _ _).alloc (Nat.le_refl _) _⟩
    unfold Dg
    rw [if_neg (by omega)]; simp
  case round =>
    obtain ⟨m, st, acc, xs, wx, rfl, rfl, rfl, hst, hdg, hm, hrow, hbuf, hbel⟩ := hrel
    obtain ⟨hl1, hl2⟩ := dg_len hdg hn
    by_cases hm0 : m = 0
    · subst hm0
      have hints := buf_ints hrow hbuf hst
      have hcv := run_string (P := Tryd.prog) Tryd.underlying38 Tryd.underlying5 Tryd.underlying9 hints
      rw [bytes_acc] at hcv
      have HE := Lib.hid (show (⟨acc.toArray⟩ : ByteArray) = num n by unfold num; unfold Dg at hdg; rw [if_pos rfl, List.nil_append] at hdg; rw [hdg])
      obtain ⟨la, hla⟩ : ∃ la, acc.length = la := ⟨_, rfl⟩
      obtain ⟨bs, hbs⟩ : ∃ bs : ByteArray, (⟨acc.toArray⟩ : ByteArray) = bs := ⟨_, rfl⟩
      rw [hla] at hcv hst hl1
      rw [hbs] at hcv HE
      obtain rfl : la = 24 - st := by omega
      have hst24 : st < 24 := by
        have hpos : 0 < acc.length := by
          unfold Dg at hdg
          rw [if_pos rfl, List.nil_append] at hdg
          rw [← hdg]
          exact List.length_pos_iff.2 (dec_ne n)
        omega
      have hsl := slice37 w.heap.size st hst24
      have HB := Lib.hid hbel
      clear hints hdg hrow hbuf hbel hla hbs hl2
      go_wp2_with fail
      go_ret
      exact ⟨by rw [← HE.out]; rfl, HB.out⟩
    · have hl3 := hl2 hm0
      obtain ⟨t, rfl⟩ : ∃ t, st = t + 1 := ⟨st - 1, by omega⟩
      obtain ⟨u, hu⟩ : ∃ u, xs[t]? = some u := ⟨xs[t]'(by have := hbuf.1; omega), by simp⟩
      have hcell := hrow.at_ hu
      have hfz := hrow.frozen t
      have HD := Lib.hid (dg_step hdg hm0)
      have hp := hbuf.push (c := UInt8.ofNat (48 + m % 10)) (by omega)
      rw [of_nat (m % 10) (by omega)] at hp
      have hv : ((48 + m % 10 : Nat) : Int) = 48 + (m : Int) % 10 := by omega
      rw [hv] at hp
      have HP := Lib.hid hp
      have HROW := Lib.hid hrow
      have HB := Lib.hid hbel
      have hm1 : 1 ≤ m := by omega
      clear hdg hrow hbuf hbel hu hp hv hm0 hl2
      go_wp2_with fail
      go_roundw
      case rel => exact ⟨m / 10, t, _ :: acc, _, _, rfl, by simp, by go_num, by simp; omega, HD.out, by omega, HROW.out.set t _, HP.out, HB.out.setCell (Nat.le_refl _) _⟩
      case measure => simp [intOf]; omega
theorem str_ne {a b : ByteArray} (h : a ≠ b) : (a.toList == b.toList) = false := by
  rw [beq_eq_false_iff_ne]
  intro e
  rw [ByteArray.toList_eq, ByteArray.toList_eq] at e
  apply h
  cases a with
  | mk x => cases b with
    | mk y => congr 1; exact Array.ext' e
theorem data_inj {a b : ByteArray} (h : a.data.toList = b.data.toList) : a = b := by
  cases a with
  | mk x => cases b with
    | mk y => congr 1; exact Array.ext' h
/-- The names as lists of bytes. -/
def lists (zs : List ByteArray) : List (List UInt8) := zs.map fun z => z.data.toList
theorem lists_at (zs : List ByteArray) (k : Nat) (h : k < zs.length) : (lists zs)[k]? = some (zs.getD k ByteArray.empty).data.toList := by
  simp [lists, List.getD, h]
def Occd (w : World) (k : Nat) (e : Ending) (w' : World) : Prop := e = .returned (.int .i64 (k : Int)) ∧ ∃ m, w' = w.drewN m
set_option maxHeartbeats 4000000 in
theorem occ11 (A : Option Addr) (n c i : Nat) (zs : List ByteArray) (w : World) (h : Args.IsStrs w A n c zs) (hn : n ≤ 1024) (hi : i < n) :
    Calls Tryd.prog 11 #[.slice A n c, .int .i64 (i : Int)] w (Occd w (occ (lists zs) (zs.getD i ByteArray.empty).data.toList i)) := by
  have hlen := h.2.2.1
  have HR := Lib.hid (fun k => strs_read h k)
  have HA := Lib.hid (fun k (hk : k < n) => lists_at zs k (by omega))
  obtain ⟨b, off, ha, hb, hcell⟩ := strs_read h i hi
  obtain ⟨x, hx⟩ : ∃ x, zs.getD i ByteArray.empty = x := ⟨_, rfl⟩
  rw [hx] at hcell ⊢
  subst ha
  obtain ⟨L, hL⟩ : ∃ L, lists zs = L := ⟨_, rfl⟩
  rw [hL] at HA ⊢
  clear h hlen hx hL
  go_enter Tryd.func11, Tryd.ntmps11
  go_wp2_with fail
  go_loopw [5, 6] (fun s5 s6 wr => ∃ j m q : Nat, j ≤ i ∧ s6 = .int .i64 (j : Int) ∧ s5 = .int .i64 (q : Int) ∧ Hid (q = occ L x.data.toList j) ∧ q ≤ 1024 ∧ wr = w.drewN m) (fun _ s6 _ => i - (intOf s6).toNat)
  case atStart => exact ⟨0, 0, 0, Nat.zero_le _, rfl, rfl, Lib.hid rfl, by omega, rfl⟩
  case round =>
    obtain ⟨j, m, q, hj, rfl, rfl, HQ, hq, rfl⟩ := hrel
    by_cases hlt : j < i
    · obtain ⟨b', off', ha, hb', hc'⟩ := HR.out j (by omega)
      injection ha with ha
      injection ha with e1 e2
      subst e1 e2
      have hat := HA.out j (by omega)
      obtain ⟨y, hy⟩ : ∃ y, zs.getD j ByteArray.empty = y := ⟨_, rfl⟩
      rw [hy] at hc' hat
      have HAT := Lib.hid hat
      clear hy hat
      have jn : j < n := by omega
      have hjq : q ≤ j := by rw [HQ.out]; exact occ_le _ _ _
      by_cases hxy : y = x
      · subst hxy
        have tq : (y.toList == y.toList) = true := by simp
        have HQ2 := Lib.hid (show q + 1 = occ L y.data.toList (j + 1) by rw [occ, HAT.out, if_pos rfl, ← HQ.out])
        go_wp2_with fail
        go_quiet (fail)
        go_wp2_with fail
        go_roundw
        case rel => exact ⟨j + 1, m + nq, q + 1, by omega, by go_num, by go_num, HQ2, by omega, by simp⟩
        case measure => simp [intOf]; omega
      · have tq := str_ne hxy
        have HQ2 := Lib.hid (show q = occ L x.data.toList (j + 1) by rw [occ, HAT.out, if_neg (fun e => hxy (data_inj (by injection e))), ← HQ.out]; rfl)
        clear hxy
        go_wp2_with fail
        go_quiet (fail)
        go_wp2_with fail
        go_roundw
        case rel => exact ⟨j + 1, m + nq, q, by omega, by go_num, rfl, HQ2, hq, by simp⟩
        case measure => simp [intOf]; omega
    · obtain rfl : j = i := by omega
      go_wp2_with fail
      go_ret
      exact ⟨by rw [← HQ.out]; rfl, m, rfl⟩
end Go.Proofs.YtpagdibnhdfbfabDoor.NrC
