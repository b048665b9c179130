/- The digits of a base 64 variable length quantity: plain mathematics. -/
import Derived.WalkKit
import Derived.Laws.BitsLemmas
namespace Go.Proofs.YtmakaafjkeeooacDoor.Vq

def vq (n : Nat) : List Nat := if _h : n < 32 then [n] else (n % 32 + 32) :: vq (n / 32)
termination_by n
decreasing_by omega
theorem vq_small (n : Nat) (h : n < 32) : vq n = [n] := by rw [vq, dif_pos h]
theorem vq_big (n : Nat) (h : 32 ≤ n) : vq n = (n % 32 + 32) :: vq (n / 32) := by rw [vq, dif_neg (by omega)]
theorem vq_prefix (a : Nat) : ∀ b, vq a <+: vq b → a = b := by
  induction a using Nat.strongRecOn with
  | _ a ih =>
    intro b h
    rcases Nat.lt_or_ge a 32 with ha | ha <;> rcases Nat.lt_or_ge b 32 with hb | hb
    · rw [vq_small a ha, vq_small b hb, List.cons_prefix_cons] at h; exact h.1
    · rw [vq_small a ha, vq_big b hb, List.cons_prefix_cons] at h; omega
    · rw [vq_big a ha, vq_small b hb, List.cons_prefix_cons] at h; omega
    · rw [vq_big a ha, vq_big b hb, List.cons_prefix_cons] at h
      have := ih (a / 32) (by omega) (b / 32) h.2
      omega
theorem vq_len (n : Nat) : 1 ≤ (vq n).length := by
  rw [vq]; split <;> simp
theorem vq_lt (n : Nat) : ∀ d ∈ vq n, d < 64 := by
  induction n using Nat.strongRecOn with
  | _ n ih =>
    rcases Nat.lt_or_ge n 32 with h | h
    · rw [vq_small n h]; intro d hd; simp at hd; omega
    · rw [vq_big n h]; intro d hd
      rcases List.mem_cons.1 hd with rfl | hd
      · omega
      · exact ih (n / 32) (by omega) d hd
theorem vq_len_le (k n : Nat) (h : n < 32 ^ (k + 1)) : (vq n).length ≤ k + 1 := by
  induction k generalizing n with
  | zero => rw [vq_small n (by simpa using h)]; simp
  | succ k ih =>
    rcases Nat.lt_or_ge n 32 with h' | h'
    · rw [vq_small n h']; simp
    · rw [vq_big n h']
      have : n / 32 < 32 ^ (k + 1) := by rw [Nat.div_lt_iff_lt_mul (by omega)]; rw [Nat.pow_succ] at h; exact h
      have := ih _ this
      simp; omega
/-- The 64 letters. -/
def b64 : List Int := [65, 66, 67, 68, 69, 70, 71, 72, 73, 74, 75, 76, 77, 78, 79, 80, 81, 82, 83, 84, 85, 86, 87, 88, 89, 90, 97, 98, 99, 100, 101, 102, 103, 104, 105, 106, 107, 108, 109, 110, 111, 112, 113, 114, 115, 116, 117, 118, 119, 120, 121, 122, 48, 49, 50, 51, 52, 53, 54, 55, 56, 57, 43, 47]
theorem b64_len : b64.length = 64 := rfl
theorem b64_nodup : b64.Nodup := by decide
def ch (d : Nat) : Int := b64.getD d 0
theorem ch_inj {a b : Nat} (ha : a < 64) (hb : b < 64) (h : ch a = ch b) : a = b := by
  unfold ch at h
  rw [List.getD_eq_getElem?_getD, List.getD_eq_getElem?_getD, List.getElem?_eq_getElem (by rw [b64_len]; exact ha), List.getElem?_eq_getElem (by rw [b64_len]; exact hb)] at h
  simp only [Option.getD_some] at h
  exact (List.getElem_inj b64_nodup).1 h
theorem ch_mem {d : Nat} (h : d < 64) : ch d ∈ b64 := by
  unfold ch
  rw [List.getD_eq_getElem?_getD, List.getElem?_eq_getElem (by rw [b64_len]; exact h)]
  exact List.getElem_mem _
theorem b64_wf : ∀ z ∈ b64, (Lit.int .u8 z).wf = true := by decide
theorem ch_bounds {d : Nat} (h : d < 64) : 0 ≤ ch d ∧ ch d ≤ 255 := by
  have := List.all_eq_true.1 (show (b64.all fun z => decide (0 ≤ z ∧ z ≤ 255)) = true by decide) (ch d) (ch_mem h)
  simpa using this
def vlqOf (v : Int) : Nat := if v < 0 then 2 * (-v).toNat + 1 else 2 * v.toNat
theorem vlqOf_inj {a b : Int} (h : vlqOf a = vlqOf b) : a = b := by
  unfold vlqOf at h; split at h <;> split at h <;> omega
theorem vlqOf_lt {v : Int} (h0 : -1073741823 ≤ v) (h1 : v ≤ 1073741823) : vlqOf v < 2147483648 := by
  unfold vlqOf; split <;> omega
/-- The letters of a number. -/
def code (n : Nat) : List Int := (vq n).map ch
theorem code_small (n : Nat) (h : n < 32) : code n = [ch n] := by rw [code, vq_small n h]; rfl
theorem code_big (n : Nat) (h : 32 ≤ n) : code n = ch (n % 32 + 32) :: code (n / 32) := by rw [code, vq_big n h]; rfl
theorem code_len (n : Nat) : (code n).length = (vq n).length := by simp [code]
theorem code_len_le (n : Nat) (h : n < 2147483648) : (code n).length ≤ 7 := by rw [code_len]; exact vq_len_le 6 n (by omega)
theorem map_prefix {l m : List Nat} (hl : ∀ d ∈ l, d < 64) (hm : ∀ d ∈ m, d < 64) (h : l.map ch <+: m.map ch) : l <+: m := by
  induction l generalizing m with
  | nil => simp
  | cons x l ih =>
    cases m with
    | nil => simp at h
    | cons y m =>
      simp only [List.map_cons, List.cons_prefix_cons] at h ⊢
      exact ⟨ch_inj (hl x (by simp)) (hm y (by simp)) h.1, ih (fun d hd => hl d (by simp [hd])) (fun d hd => hm d (by simp [hd])) h.2⟩
theorem code_prefix {a b : Nat} (h : code a <+: code b) : a = b := vq_prefix a b (map_prefix (vq_lt a) (vq_lt b) h)
theorem code_wf (n : Nat) : ∀ z ∈ code n, (Lit.int .u8 z).wf = true := by
  intro z hz
  simp only [code, List.mem_map] at hz
  obtain ⟨d, hd, rfl⟩ := hz
  exact b64_wf _ (ch_mem (vq_lt n d hd))
/-- bits -/
theorem wraps_i64 (n : Int) (h₀ : 0 ≤ n) (h₁ : n < 2 ^ 62) : IntKind.i64.wrap n = n := by rw [IntKind.wrap_i64]; omega
theorem and31 (x : Int) (h0 : 0 ≤ x) (h1 : x < 4294967296) : bits .and .i64 x 31 = x % 32 := bits_mask .i64 62 (by decide) wraps_i64 5 (by omega) x h0 (by omega)
theorem or1 (x : Int) (h0 : 0 ≤ x) (h1 : x < 4294967296) (h2 : x % 2 = 0) : bits .or .i64 x 1 = x + 1 := bits_join .i64 62 (by decide) wraps_i64 1 x 1 h0 (by omega) (by omega) (by omega) (by omega) (by omega)
theorem or32 (y : Int) (h0 : 0 ≤ y) (h1 : y < 32) : bits .or .i64 y 32 = y + 32 := by
  obtain ⟨a, rfl⟩ := Int.eq_ofNat_of_zero_le h0
  have h := (bits_nat .i64 62 (by decide) wraps_i64 a 32 (by omega) (by omega)).2
  have h' := (bits_nat .i64 62 (by decide) wraps_i64 32 a (by omega) (by omega)).2
  have hj := bits_join .i64 62 (by decide) wraps_i64 5 32 (a : Int) (by omega) (by omega) (by omega) (by omega) (by omega) (by omega)
  have e : ((32 : Nat) : Int) = 32 := rfl
  rw [e] at h h'
  rw [h, Nat.or_comm, ← h', hj]
  omega
end Go.Proofs.YtmakaafjkeeooacDoor.Vq
