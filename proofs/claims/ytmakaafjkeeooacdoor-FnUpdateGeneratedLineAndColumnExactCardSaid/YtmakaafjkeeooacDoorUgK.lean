/- FnUpdateGeneratedLineAndColumnExact: zzDecodeSeg. -/
import Derived.Test.YtmakaafjkeeooacDoorRows
import Derived.Test.YtmakaafjkeeooacDoorMem
import Derived.Test.YtmakaafjkeeooacDoorSl
import Derived.Test.YtmakaafjkeeooacDoorUgJ
import Derived.Deep.DeepCutAuto
import Derived.WalkKit
import Derived.ProofKit
import Derived.OpenShut
import Derived.Below
import Derived.WalkLawsBesides
import Derived.Lib.Hide
import Derived.Outline
import Derived.RegionTactic
import Derived.Deep.QuietTactic
import Derived.BigQuiet
import Derived.WalkSpells
import Derived.Deep.OwnRows
import Derived.IntWalk
import Derived.Deep.DeepMust
namespace Go.Proofs.YtmakaafjkeeooacDoor.UgK
open Go.RowKit Mem Sl
set_option linter.unusedVariables false
open Own Vq Dec Lin Str Prn Owg UgA UgB UgC UgD UgJ Args

def valOf (n : Nat) : Int := if n % 2 = 0 then ((n / 2 : Nat) : Int) else -((n / 2 : Nat) : Int)
theorem valOf_vlq (v : Int) : valOf (vlqOf v) = v := by
  unfold valOf vlqOf
  split <;> split <;> omega
/-- The text from k on is the code of n and what follows it. -/
def At (us : List Int) (k n : Nat) : Prop := ∃ rest, us.drop k = code n ++ rest
theorem At.head_small {us : List Int} {k n : Nat} (h : At us k n) (hn : n < 32) : us.getD k 0 = ch n ∧ k < us.length := by
  obtain ⟨rest, h⟩ := h
  rw [code_small n hn] at h
  have hk : k < us.length := by
    rcases Nat.lt_or_ge k us.length with h' | h'
    · exact h'
    · rw [List.drop_eq_nil_of_le h'] at h; simp at h
  rw [List.drop_eq_getElem_cons hk] at h
  simp only [List.cons_append, List.nil_append, List.cons.injEq] at h
  exact ⟨by simp [List.getD, hk, h.1], hk⟩
theorem At.head_big {us : List Int} {k n : Nat} (h : At us k n) (hn : 32 ≤ n) : us.getD k 0 = ch (n % 32 + 32) ∧ k < us.length ∧ At us (k + 1) (n / 32) := by
  obtain ⟨rest, h⟩ := h
  rw [code_big n hn] at h
  have hk : k < us.length := by
    rcases Nat.lt_or_ge k us.length with h' | h'
    · exact h'
    · rw [List.drop_eq_nil_of_le h'] at h; simp at h
  rw [List.drop_eq_getElem_cons hk] at h
  simp only [List.cons_append, List.cons.injEq] at h
  exact ⟨by simp [List.getD, hk, h.1], hk, rest, h.2⟩
theorem and1n (x : Nat) (h1 : x < 17179869184) : bits .and .i64 (x : Int) 1 = ((x % 2 : Nat) : Int) := by
  rw [show (1 : Int) = 2 ^ 1 - 1 by decide, bits_mask .i64 62 (by decide) wraps_i64 1 (by omega) x (by omega) (by omega)]
  omega
theorem and32n : ∀ x : Fin 64, bits .and .i64 ((x.val : Nat) : Int) 32 = (((x.val / 32) * 32 : Nat) : Int) := by decide +kernel
theorem and31d : ∀ x : Fin 64, bits .and .i64 ((x.val : Nat) : Int) 31 = ((x.val % 32 : Nat) : Int) := by decide +kernel
/-- One step of a number: k digits done (acc), the digit d, the rest. -/
structure Stp (us : List Int) (N Q k m acc : Nat) : Prop where
  hN : N = acc + m * 2 ^ (5 * k)
  ha : acc < 2 ^ (5 * k)
  at_ : At us (Q + k) m
  len : (code N).length = k + (code m).length
theorem Stp.zero {us : List Int} {N Q : Nat} (h : At us Q N) : Stp us N Q 0 N 0 := ⟨by simp, by simp, h, by simp⟩
theorem Stp.next {us : List Int} {N Q k m acc : Nat} (h : Stp us N Q k m acc) (hm : 32 ≤ m) : Stp us N Q (k + 1) (m / 32) (acc + m % 32 * 2 ^ (5 * k)) := by
  obtain ⟨h1, h2, h3, h4⟩ := h
  have e : 2 ^ (5 * (k + 1)) = 32 * 2 ^ (5 * k) := by rw [show 5 * (k + 1) = 5 * k + 5 by omega, Nat.pow_add]; omega
  have hd : m = m % 32 + 32 * (m / 32) := by omega
  refine ⟨?_, ?_, h3.head_big hm |>.2.2, ?_⟩
  · rw [h1, e]
    conv => lhs; rw [hd]
    rw [Nat.add_mul, Nat.add_assoc, Nat.mul_comm 32 (m / 32), Nat.mul_assoc]
  · rw [e]
    have hl : m % 32 < 32 := Nat.mod_lt _ (by omega)
    have : m % 32 * 2 ^ (5 * k) ≤ 31 * 2 ^ (5 * k) := Nat.mul_le_mul_right _ (by omega)
    omega
  · rw [h4, code_big m hm, List.length_cons]; omega
theorem Stp.or {us : List Int} {N Q k m acc : Nat} (h : Stp us N Q k m acc) (hk : k ≤ 6) (d : Nat) (hd : d < 32) : bits .or .i64 (acc : Int) ((d : Int) * ((2 ^ (5 * k) : Nat) : Int)) = ((acc + d * 2 ^ (5 * k) : Nat) : Int) := by
  have h2 := h.ha
  have hp : 2 ^ (5 * k) ≤ 2 ^ 30 := Nat.pow_le_pow_right (by omega) (by omega)
  have hdp : d * 2 ^ (5 * k) ≤ 31 * 2 ^ 30 := Nat.mul_le_mul (by omega) hp
  have e : (d : Int) * ((2 ^ (5 * k) : Nat) : Int) = ((d * 2 ^ (5 * k) : Nat) : Int) := by push_cast; rfl
  rw [e]
  have hj := bits_join .i64 62 (by decide) wraps_i64 (5 * k) ((d * 2 ^ (5 * k) : Nat) : Int) (acc : Int) (by omega) (by exact_mod_cast Nat.mul_mod_left d (2 ^ (5 * k))) (by omega) (by omega) (by exact_mod_cast h2) (by omega)
  have h' := (bits_nat .i64 62 (by decide) wraps_i64 acc (d * 2 ^ (5 * k)) (by omega) (by omega)).2
  have h'' := (bits_nat .i64 62 (by decide) wraps_i64 (d * 2 ^ (5 * k)) acc (by omega) (by omega)).2
  rw [h', Nat.or_comm, ← h'', hj]
  omega
theorem Stp.or' {us : List Int} {N Q k m acc : Nat} (h : Stp us N Q k m acc) (hk : k ≤ 6) (d : Nat) (hd : d < 32) : bits .or .i64 (acc : Int) (wrap64 ((d : Int) * 2 ^ (5 * k))) = ((acc + d * 2 ^ (5 * k) : Nat) : Int) := by
  have hp : 2 ^ (5 * k) ≤ 2 ^ 30 := Nat.pow_le_pow_right (by omega) (by omega)
  have hdp : d * 2 ^ (5 * k) ≤ 31 * 2 ^ 30 := Nat.mul_le_mul (by omega) hp
  rw [← h.or hk d hd]
  have e : (d : Int) * 2 ^ (5 * k) = (d : Int) * ((2 ^ (5 * k) : Nat) : Int) := by push_cast; rfl
  have e2 : (d : Int) * ((2 ^ (5 * k) : Nat) : Int) = ((d * 2 ^ (5 * k) : Nat) : Int) := by push_cast; rfl
  rw [e, e2]
  generalize d * 2 ^ (5 * k) = x at hdp
  congr 1
  unfold wrap64
  omega
theorem Stp.acc {us : List Int} {N Q k m acc : Nat} (h : Stp us N Q k m acc) (hm : m < 32) : acc + m * 2 ^ (5 * k) = N ∧ (code N).length = k + 1 := ⟨h.hN.symm, by rw [h.len, code_small m hm]; rfl⟩
theorem Stp.small {us : List Int} {N Q k m acc : Nat} (h : Stp us N Q k m acc) (hN : N < 17179869184) (hk : k ≤ 6) (hm : 32 ≤ m) : k + 1 ≤ 6 := by
  rcases Nat.lt_or_ge k 6 with h6 | h6
  · omega
  · obtain rfl : k = 6 := by omega
    have h1 := h.hN
    have : 32 * 2 ^ (5 * 6) ≤ m * 2 ^ (5 * 6) := Nat.mul_le_mul_right _ hm
    omega
/-- The numbers of the segment, and where each begins. -/
structure Sg (D : List Int) (P V : Nat → Nat) : Prop where
  at_ : ∀ t, t < 4 → At D (P t) (V t)
  next : ∀ t, t < 4 → P (t + 1) = P t + (code (V t)).length
  lt : ∀ t, V t < 17179869184
def vrow (V : Nat → Nat) (t : Nat) : List Value := (List.range 6).map fun i => .int .i64 (if i < t then valOf (V i) else 0)
theorem vrow_len (V : Nat → Nat) (t : Nat) : (vrow V t).length = 6 := by simp [vrow]
theorem vrow_at (V : Nat → Nat) (t i : Nat) (h : i < 6) : (vrow V t)[i]? = some (.int .i64 (if i < t then valOf (V i) else 0)) := by
  simp [vrow, h]
theorem vrow_set (V : Nat → Nat) (t : Nat) (h : t < 6) : (vrow V t).set t (.int .i64 (valOf (V t))) = vrow V (t + 1) := by
  apply List.ext_getElem?
  intro i
  by_cases hi : i < 6
  · rw [vrow_at V (t + 1) i hi]
    by_cases e : t = i
    · subst e
      rw [List.getElem?_set_self (by rw [vrow_len]; exact h), if_pos (by omega)]
    · rw [List.getElem?_set_ne e, vrow_at V t i hi]
      by_cases hl : i < t
      · rw [if_pos hl, if_pos (by omega)]
      · rw [if_neg hl, if_neg (by omega)]
  · rw [List.getElem?_eq_none (by rw [List.length_set, vrow_len]; omega), List.getElem?_eq_none (by rw [vrow_len]; omega)]
def z6 : List Value := [.int .i64 0, .int .i64 0, .int .i64 0, .int .i64 0, .int .i64 0, .int .i64 0]
theorem Sg.up {D : List Int} {P V : Nat → Nat} (h : Sg D P V) (t : Nat) (ht : t ≤ 4) : P t ≤ P 4 := by
  have h0 : P 1 = P 0 + _ := h.next 0 (by omega)
  have h1 : P 2 = P 1 + _ := h.next 1 (by omega)
  have h2 : P 3 = P 2 + _ := h.next 2 (by omega)
  have h3 : P 4 = P 3 + _ := h.next 3 (by omega)
  have e : t = 0 ∨ t = 1 ∨ t = 2 ∨ t = 3 ∨ t = 4 := by omega
  rcases e with rfl | rfl | rfl | rfl | rfl <;> omega
theorem code_pos (n : Nat) : 1 ≤ (code n).length := by rw [code_len]; exact vq_len n
/-- The four blocks of the decoder, t numbers done. -/
def Six (H : Nat) (V : Nat → Nat) (t : Nat) (w : World) : Prop := Row w H 36 z6 ∧ Row w (H + 1) 36 z6 ∧ Row w (H + 1 + 1) 36 (vrow V t) ∧ ∃ st : List Int, st.length = 6 ∧ Row w (H + 1 + 1 + 1) 36 (iv .i64 st)
theorem Six.start (w : World) (V : Nat → Nat) : Six w.heap.size V 0 ((((w.alloc (.cells #[.int .i64 0, .int .i64 0, .int .i64 0, .int .i64 0, .int .i64 0, .int .i64 0] 36)).alloc (.cells #[.int .i64 0, .int .i64 0, .int .i64 0, .int .i64 0, .int .i64 0, .int .i64 0] 36)).alloc (.cells #[.int .i64 0, .int .i64 0, .int .i64 0, .int .i64 0, .int .i64 0, .int .i64 0] 36)).alloc (.cells #[.int .i64 0, .int .i64 0, .int .i64 0, .int .i64 0, .int .i64 0, .int .i64 0] 36)) := by
  have e1 : (w.alloc (.cells #[.int .i64 0, .int .i64 0, .int .i64 0, .int .i64 0, .int .i64 0, .int .i64 0] 36)).heap.size = w.heap.size + 1 := by simp
  have e2 : ((w.alloc (.cells #[.int .i64 0, .int .i64 0, .int .i64 0, .int .i64 0, .int .i64 0, .int .i64 0] 36)).alloc (.cells #[.int .i64 0, .int .i64 0, .int .i64 0, .int .i64 0, .int .i64 0, .int .i64 0] 36)).heap.size = w.heap.size + 1 + 1 := by simp
  have e3 : (((w.alloc (.cells #[.int .i64 0, .int .i64 0, .int .i64 0, .int .i64 0, .int .i64 0, .int .i64 0] 36)).alloc (.cells #[.int .i64 0, .int .i64 0, .int .i64 0, .int .i64 0, .int .i64 0, .int .i64 0] 36)).alloc (.cells #[.int .i64 0, .int .i64 0, .int .i64 0, .int .i64 0, .int .i64 0, .int .i64 0] 36)).heap.size = w.heap.size + 1 + 1 + 1 := by simp
  refine ⟨(((Row.newArr w 36 _).alloc _).alloc _).alloc _, ?_, ?_, [0, 0, 0, 0, 0, 0], rfl, ?_⟩
  · have h := ((Row.newArr (w.alloc (.cells #[.int .i64 0, .int .i64 0, .int .i64 0, .int .i64 0, .int .i64 0, .int .i64 0] 36)) 36 #[.int .i64 0, .int .i64 0, .int .i64 0, .int .i64 0, .int .i64 0, .int .i64 0]).alloc (.cells #[.int .i64 0, .int .i64 0, .int .i64 0, .int .i64 0, .int .i64 0, .int .i64 0] 36)).alloc (.cells #[.int .i64 0, .int .i64 0, .int .i64 0, .int .i64 0, .int .i64 0, .int .i64 0] 36)
    rw [e1] at h
    exact h
  · have h := (Row.newArr ((w.alloc (.cells #[.int .i64 0, .int .i64 0, .int .i64 0, .int .i64 0, .int .i64 0, .int .i64 0] 36)).alloc (.cells #[.int .i64 0, .int .i64 0, .int .i64 0, .int .i64 0, .int .i64 0, .int .i64 0] 36)) 36 #[.int .i64 0, .int .i64 0, .int .i64 0, .int .i64 0, .int .i64 0, .int .i64 0]).alloc (.cells #[.int .i64 0, .int .i64 0, .int .i64 0, .int .i64 0, .int .i64 0, .int .i64 0] 36)
    rw [e2] at h
    exact h
  · have h := Row.newArr (((w.alloc (.cells #[.int .i64 0, .int .i64 0, .int .i64 0, .int .i64 0, .int .i64 0, .int .i64 0] 36)).alloc (.cells #[.int .i64 0, .int .i64 0, .int .i64 0, .int .i64 0, .int .i64 0, .int .i64 0] 36)).alloc (.cells #[.int .i64 0, .int .i64 0, .int .i64 0, .int .i64 0, .int .i64 0, .int .i64 0] 36)) 36 #[.int .i64 0, .int .i64 0, .int .i64 0, .int .i64 0, .int .i64 0, .int .i64 0]
    rw [e3] at h
    exact h
section
variable {w : World} {H t : Nat} {V : Nat → Nat}
theorem Six.start_ (h : Six H V t w) (u : Int) : Six H V t (w.setCell ⟨H + 1 + 1 + 1, t, none⟩ (.int .i64 u)) := by
  obtain ⟨h0, h1, h2, st, hs, h3⟩ := h
  exact ⟨h0.far (by simp <;> omega) _, h1.far (by simp <;> omega) _, h2.far (by simp <;> omega) _, st.set t u, by simp [hs], by have h9 := h3.set t (.int .i64 u); simpa [iv, List.map_set] using h9⟩
theorem Six.put (h : Six H V t w) (ht : t < 6) : Six H V (t + 1) (w.setCell ⟨H + 1 + 1, t, none⟩ (.int .i64 (valOf (V t)))) := by
  obtain ⟨h0, h1, h2, st, hs, h3⟩ := h
  have h9 := h2.set t (.int .i64 (valOf (V t)))
  rw [vrow_set V t ht] at h9
  exact ⟨h0.far (by simp <;> omega) _, h1.far (by simp <;> omega) _, h9, st, hs, h3.far (by simp <;> omega) _⟩
end
def Seg (w : World) (V : Nat → Nat) (e : Ending) (w' : World) : Prop := ∃ s0 s1 s2 s3 s4 s5 : Int, e = .returned (.tuple #[.agg (vrow V 4).toArray, .agg #[.int .i64 s0, .int .i64 s1, .int .i64 s2, .int .i64 s3, .int .i64 s4, .int .i64 s5], .int .i64 4, .bool true]) ∧ Below w.heap.size w w'
set_option maxHeartbeats 16000000 in
set_option maxRecDepth 100000 in
theorem seg13 (A : Option Addr) (n c : Nat) (D : List Int) (P V : Nat → Nat) (w : World) (hi : IsInts .u8 w A n c D) (hn : n ≤ 100000000) (hE : P 4 ≤ n) (h : Sg D P V) :
    Calls Tryd.prog 13 #[.slice A n c, .int .i64 (P 0 : Int), .int .i64 (P 4 : Int)] w (Seg w V) := by
  have HI := Lib.hid hi
  have HSG := Lib.hid h
  have HLen := Lib.hid hi.2.2.1
  clear hi h
  go_enter Tryd.func13, Tryd.ntmps13
  go_wp2_with fail
  have HB0 := Lib.hid (show Below w.heap.size w ((((w.alloc (.cells #[.int .i64 0, .int .i64 0, .int .i64 0, .int .i64 0, .int .i64 0, .int .i64 0] 36)).alloc (.cells #[.int .i64 0, .int .i64 0, .int .i64 0, .int .i64 0, .int .i64 0, .int .i64 0] 36)).alloc (.cells #[.int .i64 0, .int .i64 0, .int .i64 0, .int .i64 0, .int .i64 0, .int .i64 0] 36)).alloc (.cells #[.int .i64 0, .int .i64 0, .int .i64 0, .int .i64 0, .int .i64 0, .int .i64 0] 36)) from ((((Below.refl _ _).alloc (Nat.le_refl _) _).alloc (by simp) _).alloc (by simp; omega) _).alloc (by simp; omega) _)
  have HS0 := Lib.hid (Six.start w V)
  go_loopw [12, 13] (fun x12 x13 wr => ∃ t : Nat, t ≤ 4 ∧ x12 = .int .i64 (t : Int) ∧ x13 = .int .i64 (P t : Int) ∧ Six w.heap.size V t wr ∧ Below w.heap.size w wr) (fun x12 _ _ => 4 - (intOf x12).toNat)
  case atStart => exact ⟨0, by omega, rfl, rfl, HS0.out, HB0.out⟩
  case round =>
    obtain ⟨t, ht, rfl, rfl, hsix, hbel⟩ := hrel
    have HSX := Lib.hid hsix
    have HBEL := Lib.hid hbel
    clear HB0 HS0
    by_cases hlt : t < 4
    · have HAT := Lib.hid (HSG.out.at_ t hlt)
      have hnx := HSG.out.next t hlt
      have hP4 := HSG.out.up (t + 1) (by omega)
      have hlp := code_pos (V t)
      have tlt : decide (P t < P 4) = true := by simp; omega
      have t6 : ((t : Int) == 6) = false := by simp; omega
      obtain ⟨hr0, hr1, hr2, st, hst, hr3⟩ := hsix
      have hs0 := iv_at .i64 st t (by omega)
      have c3 := hr3.at_ hs0
      have f3 := hr3.frozen t
      have p0 : (0 : Int) ≤ (t : Int) := by omega
      have p1 : (t : Int) < 6 := by omega
      have p1' : t < 6 := by omega
      have HNX := Lib.hid hnx
      have HS3 := Lib.hid (HSX.out.start_ (P t : Int))
      have HB3 := Lib.hid (hbel.setCell (p := ⟨w.heap.size + 1 + 1 + 1, t, none⟩) (show w.heap.size ≤ w.heap.size + 1 + 1 + 1 by omega) (.int .i64 (P t : Int)))
      clear hr0 hr1 hr2 hr3 hst hs0 hbel
      go_upto_region 9 with fail
      have HN := Lib.hid (HSG.out.lt t)
      have HSP := Lib.hid (Stp.zero HAT.out)
      obtain ⟨N, hN⟩ : ∃ N, V t = N := ⟨_, rfl⟩
      obtain ⟨Q, hQ⟩ : ∃ Q, P t = Q := ⟨_, rfl⟩
      obtain ⟨E, hE'⟩ : ∃ E, P 4 = E := ⟨_, rfl⟩
      rw [hN] at hlp hnx HN HSP
      rw [hQ] at hnx HSP HS3 HB3 tlt ⊢
      rw [hE'] at hP4 hE tlt ⊢
      have hQE : Q + (code N).length ≤ E := by omega
      have HVN := Lib.hid hN
      have HPQ := Lib.hid hQ
      have HPE := Lib.hid hE'
      generalize hX : wr.setCell ⟨w.heap.size + 1 + 1 + 1, t, none⟩ (.int .i64 (Q : Int)) = X at HS3 HB3 ⊢
      clear hX c3 f3 hN hQ hE' hnx hP4 HSX HBEL HAT
      have HIX := Lib.hid (HI.out.later HB3.out)
      go_upto_region 11 with fail
      go_loopw [13, 14, 15] (fun x13 x14 x15 wx => ∃ k m acc : Nat, k ≤ 6 ∧ x13 = .int .i64 ((Q + k : Nat) : Int) ∧ x14 = .int .i64 (acc : Int) ∧ x15 = .int .i64 ((5 * k : Nat) : Int) ∧ Stp D N Q k m acc ∧ wx = X) (fun x13 _ _ _ => Q + 7 - (intOf x13).toNat)
      case atStart => exact ⟨0, N, 0, by omega, rfl, rfl, rfl, HSP.out, rfl⟩
      case round =>
        obtain ⟨k, m, acc, hk, rfl, rfl, rfl, hstp, rfl⟩ := hrel
        have HST := Lib.hid hstp
        have hcl := hstp.len
        have hcm := code_pos m
        obtain ⟨K, hK⟩ : ∃ K, Q + k = K := ⟨_, rfl⟩
        obtain ⟨H5, hH5⟩ : ∃ x, 5 * k = x := ⟨_, rfl⟩
        rw [hK, hH5]
        have HKE := Lib.hid hK
        have H5E := Lib.hid hH5
        have u1 : decide (E ≤ K) = false := by simp; omega
        have u2 : decide ((50 : Int) < (H5 : Int)) = false := by simp; omega
        have i0 : (0 : Int) ≤ (K : Int) := by omega
        have i1 : (K : Int) < (n : Int) := by omega
        have i2 : (K : Int) ≤ 100000000 := by omega
        have j0 : (0 : Int) ≤ (H5 : Int) := by omega
        have j1 : (H5 : Int) ≤ 30 := by omega
        have hat := hstp.at_
        rw [hK] at hat
        by_cases hm : m < 32
        · obtain ⟨hx, hkl⟩ := hat.head_small hm
          obtain ⟨b1, o1, ha, hb1, hc1⟩ := HIX.out.read K (by omega)
          subst ha
          rw [hx] at hc1
          have H23 := Lib.hid (dig23 m wr (by omega))
          generalize ch m = x at hc1 H23
          have ex := and31d ⟨m, by omega⟩
          have ey := and32n ⟨m, by omega⟩
          simp only at ex ey
          rw [show m % 32 = m by omega] at ex
          rw [show m / 32 * 32 = 0 by omega] at ey
          have z0 : decide ((m : Int) < 0) = false := decide_eq_false (by omega)
          clear hx hat hb1 hkl hcl hcm hstp hK hH5
          go_upto_region 16 with (go_at_call 23; (with_reducible refine H23.out.mono ?_); rintro e w1 ⟨rfl, rfl⟩)
          have hor := HST.out.or' hk m hm
          rw [(HST.out.acc hm).1, H5E.out] at hor
          have hlen := (HST.out.acc hm).2
          have hnx2 : K + 1 = P (t + 1) := by rw [HNX.out, HVN.out, HPQ.out, hlen, ← HKE.out]; omega
          have HN2 := Lib.hid hnx2
          have HSIX := Lib.hid HS3.out
          have hs6 := HS3.out.2.2.1
          have c2 := hs6.at_ (vrow_at V t t p1')
          have f2 := hs6.frozen t
          have hNl := HN.out
          clear hlen hnx2 hs6
          have e1 := and1n N hNl
          rcases Nat.mod_two_eq_zero_or_one N with h2 | h2
          · rw [h2] at e1
            have hv : (N : Int) / 2 = valOf N := by unfold valOf; rw [if_pos h2]; omega
            clear h2
            have HRES := Lib.hid (show Value.int .i64 ((K : Int) + 1) = .int .i64 (P (t + 1) : Int) ∧ Six w.heap.size V (t + 1) (wr.setCell ⟨w.heap.size + 1 + 1, t, none⟩ (.int .i64 (valOf N))) ∧ Below w.heap.size w (wr.setCell ⟨w.heap.size + 1 + 1, t, none⟩ (.int .i64 (valOf N))) from ⟨by rw [← HN2.out]; rfl, by have h9 := HSIX.out.put p1'; rw [HVN.out] at h9; exact h9, HB3.out.setCell (by simp only; omega) _⟩)
            go_wp2_with fail
            go_roundw
            case rel =>
              have hpe := HPE.out
              subst hpe
              exact ⟨_, _, _, _, _, _, _, _, _, _, _, _, _, _, _, _, _, _, _, _, _, _, _, _, _, _, _, _, _, _, _, _, _, _, _, _, _, _, _, _, _, _, _, _, _, _, _, _, _, _, _, _, _, _, _, _, _, _, _, _, _, _, _, _, ⟨t + 1, by omega, rfl, HRES.out.1, HRES.out.2.1, HRES.out.2.2⟩, rfl⟩
            case measure => show 4 - (intOf (.int .i64 ((t : Int) + 1))).toNat < 4 - (intOf (.int .i64 (t : Int))).toNat; simp [intOf]; omega
          · rw [h2] at e1
            have hv : -((N : Int) / 2) = valOf N := by unfold valOf; rw [if_neg (by omega)]; omega
            have hv0 : (0 : Int) ≤ (N : Int) / 2 := by omega
            have hv1 : (N : Int) / 2 ≤ 17179869184 := by omega
            clear h2
            have HRES := Lib.hid (show Value.int .i64 ((K : Int) + 1) = .int .i64 (P (t + 1) : Int) ∧ Six w.heap.size V (t + 1) (wr.setCell ⟨w.heap.size + 1 + 1, t, none⟩ (.int .i64 (valOf N))) ∧ Below w.heap.size w (wr.setCell ⟨w.heap.size + 1 + 1, t, none⟩ (.int .i64 (valOf N))) from ⟨by rw [← HN2.out]; rfl, by have h9 := HSIX.out.put p1'; rw [HVN.out] at h9; exact h9, HB3.out.setCell (by simp only; omega) _⟩)
            go_wp2_with fail
            go_roundw
            case rel =>
              have hpe := HPE.out
              subst hpe
              exact ⟨_, _, _, _, _, _, _, _, _, _, _, _, _, _, _, _, _, _, _, _, _, _, _, _, _, _, _, _, _, _, _, _, _, _, _, _, _, _, _, _, _, _, _, _, _, _, _, _, _, _, _, _, _, _, _, _, _, _, _, _, _, _, _, _, ⟨t + 1, by omega, rfl, HRES.out.1, HRES.out.2.1, HRES.out.2.2⟩, rfl⟩
            case measure => show 4 - (intOf (.int .i64 ((t : Int) + 1))).toNat < 4 - (intOf (.int .i64 (t : Int))).toNat; simp [intOf]; omega
        · have hm2 : m % 32 < 32 := Nat.mod_lt _ (by omega)
          obtain ⟨hx, hkl, hat2⟩ := hat.head_big (by omega)
          obtain ⟨b1, o1, ha, hb1, hc1⟩ := HIX.out.read K (by omega)
          subst ha
          rw [hx] at hc1
          have hk6 := HST.out.small HN.out hk (by omega)
          have hnx3 := HST.out.next (by omega)
          have hor := HST.out.or' hk (m % 32) hm2
          obtain ⟨d, hd⟩ : ∃ d, m % 32 = d := ⟨_, rfl⟩
          rw [hd] at hc1 hnx3 hor hm2
          obtain ⟨acc2, ha2⟩ : ∃ x, acc + d * 2 ^ (5 * k) = x := ⟨_, rfl⟩
          rw [ha2] at hor hnx3
          rw [H5E.out] at hor
          have HNX3 := Lib.hid hnx3
          have H23 := Lib.hid (show Calls Tryd.prog 23 #[.int .u8 (ch (d + 32))] wr fun e w' => e = .returned (.int .i64 ((d : Int) + 32)) ∧ wr = w' from dig23 (d + 32) wr (by omega))
          generalize ch (d + 32) = x at hc1 H23
          have ex : bits .and .i64 ((d + 32 : Nat) : Int) 31 = (((d + 32) % 32 : Nat) : Int) := and31d ⟨d + 32, by omega⟩
          have ey : bits .and .i64 ((d + 32 : Nat) : Int) 32 = (((d + 32) / 32 * 32 : Nat) : Int) := and32n ⟨d + 32, by omega⟩
          rw [show (d + 32) % 32 = d by omega] at ex
          rw [show (d + 32) / 32 * 32 = 32 by omega] at ey
          rw [show ((d + 32 : Nat) : Int) = (d : Int) + 32 by omega] at ex ey
          have z0 : decide ((d : Int) + 32 < 0) = false := decide_eq_false (by omega)
          clear hx hat hat2 hb1 hkl hcl hcm hstp hK hH5 hd ha2 hnx3
          go_wp2_with (go_at_call 23; (with_reducible refine H23.out.mono ?_); rintro e w1 ⟨rfl, rfl⟩)
          go_roundw
          case rel => exact ⟨k + 1, m / 32, acc2, hk6, by rw [← HKE.out]; go_num, rfl, by rw [← H5E.out]; go_num, HNX3.out, by trivial⟩
          case measure => have := HKE.out; simp [intOf]; omega
    · obtain rfl : t = 4 := by omega
      obtain ⟨hr0, hr1, hr2, st, hst, hr3⟩ := hsix
      obtain ⟨s0, s1, s2, s3, s4, s5, rfl⟩ : ∃ s0 s1 s2 s3 s4 s5, st = [s0, s1, s2, s3, s4, s5] := by
        match st, hst with
        | [a, b, c, d, e, f], _ => exact ⟨a, b, c, d, e, f, rfl⟩
      have tlt : decide (P 4 < P 4) = false := by simp
      have tl : ((P 4 : Int) < (P 4 : Int)) = False := by simp
      have hvr : vrow V 4 = [.int .i64 (valOf (V 0)), .int .i64 (valOf (V 1)), .int .i64 (valOf (V 2)), .int .i64 (valOf (V 3)), .int .i64 0, .int .i64 0] := by simp [vrow, List.range_succ]
      rw [hvr] at hr2
      unfold z6 at hr0 hr1
      have hr3' : Row wr (w.heap.size + 1 + 1 + 1) 36 [.int .i64 s0, .int .i64 s1, .int .i64 s2, .int .i64 s3, .int .i64 s4, .int .i64 s5] := hr3
      have q00 := hr0.at_ (i := 0) rfl
      have q01 := hr0.at_ (i := 1) rfl
      have q02 := hr0.at_ (i := 2) rfl
      have q03 := hr0.at_ (i := 3) rfl
      have q04 := hr0.at_ (i := 4) rfl
      have q05 := hr0.at_ (i := 5) rfl
      have q10 := hr1.at_ (i := 0) rfl
      have q11 := hr1.at_ (i := 1) rfl
      have q12 := hr1.at_ (i := 2) rfl
      have q13 := hr1.at_ (i := 3) rfl
      have q14 := hr1.at_ (i := 4) rfl
      have q15 := hr1.at_ (i := 5) rfl
      have q20 := hr2.at_ (i := 0) rfl
      have q21 := hr2.at_ (i := 1) rfl
      have q22 := hr2.at_ (i := 2) rfl
      have q23 := hr2.at_ (i := 3) rfl
      have q24 := hr2.at_ (i := 4) rfl
      have q25 := hr2.at_ (i := 5) rfl
      have q30 := hr3'.at_ (i := 0) rfl
      have q31 := hr3'.at_ (i := 1) rfl
      have q32 := hr3'.at_ (i := 2) rfl
      have q33 := hr3'.at_ (i := 3) rfl
      have q34 := hr3'.at_ (i := 4) rfl
      have q35 := hr3'.at_ (i := 5) rfl
      have z0 := hr0.frozen
      have z1 := hr1.frozen
      have HR0 := Lib.hid hr0
      have HR1 := Lib.hid hr1
      have HVR := Lib.hid hvr
      have HB := Lib.hid hbel
      clear hr0 hr1 hr2 hr3 hr3' hst hbel hvr HSX HBEL
      go_upto_region 25 with fail
      go_region
      obtain ⟨F, hF, R0, R1, BL⟩ : ∃ F, F = ((((((((((((wr.setCell ⟨w.heap.size, 0, none⟩ (.int .i64 (valOf (V 0)))).setCell ⟨w.heap.size, 1, none⟩ (.int .i64 (valOf (V 1)))).setCell ⟨w.heap.size, 2, none⟩ (.int .i64 (valOf (V 2)))).setCell ⟨w.heap.size, 3, none⟩ (.int .i64 (valOf (V 3)))).setCell ⟨w.heap.size, 4, none⟩ (.int .i64 0)).setCell ⟨w.heap.size, 5, none⟩ (.int .i64 0)).setCell ⟨w.heap.size + 1, 0, none⟩ (.int .i64 s0)).setCell ⟨w.heap.size + 1, 1, none⟩ (.int .i64 s1)).setCell ⟨w.heap.size + 1, 2, none⟩ (.int .i64 s2)).setCell ⟨w.heap.size + 1, 3, none⟩ (.int .i64 s3)).setCell ⟨w.heap.size + 1, 4, none⟩ (.int .i64 s4)).setCell ⟨w.heap.size + 1, 5, none⟩ (.int .i64 s5)) ∧ Row F w.heap.size 36 [.int .i64 (valOf (V 0)), .int .i64 (valOf (V 1)), .int .i64 (valOf (V 2)), .int .i64 (valOf (V 3)), .int .i64 0, .int .i64 0] ∧ Row F (w.heap.size + 1) 36 [.int .i64 s0, .int .i64 s1, .int .i64 s2, .int .i64 s3, .int .i64 s4, .int .i64 s5] ∧ Below w.heap.size w F :=
        ⟨_, rfl, (Row.far (Row.far (Row.far (Row.far (Row.far (Row.far ((((((HR0.out.set 0 _).set 1 _).set 2 _).set 3 _).set 4 _).set 5 _) (by simp) _) (by simp) _) (by simp) _) (by simp) _) (by simp) _) (by simp) _), (((((((Row.far (Row.far (Row.far (Row.far (Row.far (Row.far HR1.out (by simp) _) (by simp) _) (by simp) _) (by simp) _) (by simp) _) (by simp) _).set 0 _).set 1 _).set 2 _).set 3 _).set 4 _).set 5 _), (Below.setCell (Below.setCell (Below.setCell (Below.setCell (Below.setCell (Below.setCell (Below.setCell (Below.setCell (Below.setCell (Below.setCell (Below.setCell (Below.setCell HB.out (Nat.le_refl _) _) (Nat.le_refl _) _) (Nat.le_refl _) _) (Nat.le_refl _) _) (Nat.le_refl _) _) (Nat.le_refl _) _) (Nat.le_succ _) _) (Nat.le_succ _) _) (Nat.le_succ _) _) (Nat.le_succ _) _) (Nat.le_succ _) _) (Nat.le_succ _) _)⟩
      rw [← hF]
      clear hF
      have a0 := R0.at_ (i := 0) rfl
      have b0 := R1.at_ (i := 0) rfl
      have a1 := R0.at_ (i := 1) rfl
      have b1 := R1.at_ (i := 1) rfl
      have a2 := R0.at_ (i := 2) rfl
      have b2 := R1.at_ (i := 2) rfl
      have a3 := R0.at_ (i := 3) rfl
      have b3 := R1.at_ (i := 3) rfl
      have a4 := R0.at_ (i := 4) rfl
      have b4 := R1.at_ (i := 4) rfl
      have a5 := R0.at_ (i := 5) rfl
      have b5 := R1.at_ (i := 5) rfl
      go_wp2_with fail
      have HVR2 := Lib.hid (congrArg List.toArray HVR.out)
      exact bodyPost_ret (v := .tuple #[.agg #[.int .i64 (valOf (V 0)), .int .i64 (valOf (V 1)), .int .i64 (valOf (V 2)), .int .i64 (valOf (V 3)), .int .i64 0, .int .i64 0], .agg #[.int .i64 s0, .int .i64 s1, .int .i64 s2, .int .i64 s3, .int .i64 s4, .int .i64 s5], .int .i64 4, .bool true]) (by simp [results, Tryd.results13, go_sem, a0, a1, a2, a3, a4, a5, b0, b1, b2, b3, b4, b5]) rfl ⟨_, _, _, _, _, _, by rw [HVR2.out], BL.drew⟩
end Go.Proofs.YtmakaafjkeeooacDoor.UgK
