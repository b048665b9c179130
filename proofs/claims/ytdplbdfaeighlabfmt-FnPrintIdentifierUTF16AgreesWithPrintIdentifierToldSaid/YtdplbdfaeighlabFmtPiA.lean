/- UTF-16 units, their code points, the bytes of a code point; what the decoding gives back. Plain. -/
import Derived.Test.YtdplbdfaeighlabFmtStep
import Derived.Test.YtdplbdfaeighlabFmtStr
import Derived.Laws.BitsLemmas
namespace Go.Proofs.YtdplbdfaeighlabFmt.PiA
open Go.RowKit Mem Dec Step Prn
set_option linter.unusedVariables false
def hi (c : Int) : Bool := decide (55296 ≤ c) && decide (c ≤ 56319)
def lo (c : Int) : Bool := decide (56320 ≤ c) && decide (c ≤ 57343)
theorem hi_true {c : Int} : hi c = true ↔ 55296 ≤ c ∧ c ≤ 56319 := by simp [hi]
theorem lo_true {c : Int} : lo c = true ↔ 56320 ≤ c ∧ c ≤ 57343 := by simp [lo]
theorem hi_false {c : Int} : hi c = false ↔ ¬ (55296 ≤ c ∧ c ≤ 56319) := by rw [← hi_true]; simp
theorem lo_false {c : Int} : lo c = false ↔ ¬ (56320 ≤ c ∧ c ≤ 57343) := by rw [← lo_true]; simp
def join2 (c d : Int) : Int := 65536 + (c - 55296) * 1024 + (d - 56320)
/-- The code points of the units. -/
def cps : List Int → List Int
  | [] => []
  | [c] => [c]
  | c :: d :: t => if hi c && lo d then join2 c d :: cps t else c :: cps (d :: t)
def Scalar (c : Int) : Prop := 0 ≤ c ∧ c ≤ 1114111 ∧ (c < 55296 ∨ 57343 < c)
def U16 (U : List Int) : Prop := ∀ z ∈ U, 0 ≤ z ∧ z ≤ 65535
def Wf (U : List Int) : Prop := ∀ z ∈ cps U, Scalar z
theorem getD_drop (U : List Int) (i : Nat) (h : i < U.length) : U.drop i = U.getD i 0 :: U.drop (i + 1) := by
  rw [List.drop_eq_getElem_cons h]
  simp [List.getD, h]
theorem U16.at_ {U : List Int} (h : U16 U) (i : Nat) (hi : i < U.length) : 0 ≤ U.getD i 0 ∧ U.getD i 0 ≤ 65535 := by
  apply h
  simp [List.getD, hi]
theorem cps_pair {U : List Int} {i : Nat} (h : i + 1 < U.length) (h1 : hi (U.getD i 0) = true) (h2 : lo (U.getD (i + 1) 0) = true) : cps (U.drop i) = join2 (U.getD i 0) (U.getD (i + 1) 0) :: cps (U.drop (i + 2)) := by
  rw [getD_drop U i (by omega), getD_drop U (i + 1) h, cps, h1, h2]
  rfl
theorem cps_one {U : List Int} {i : Nat} (h : i < U.length) (h1 : ¬ (i + 1 < U.length ∧ hi (U.getD i 0) = true ∧ lo (U.getD (i + 1) 0) = true)) : cps (U.drop i) = U.getD i 0 :: cps (U.drop (i + 1)) := by
  rw [getD_drop U i h]
  by_cases h2 : i + 1 < U.length
  · rw [getD_drop U (i + 1) h2, cps, if_neg]
    simp only [Bool.and_eq_true]
    exact fun hc => h1 ⟨h2, hc⟩
  · rw [List.drop_of_length_le (by omega : U.length ≤ i + 1), cps, cps]
theorem cps_end (U : List Int) : cps (U.drop U.length) = [] := by rw [List.drop_length, cps]
theorem join_scalar {c d : Int} (h1 : hi c = true) (h2 : lo d = true) : Scalar (join2 c d) ∧ 65536 ≤ join2 c d := by
  rw [hi_true] at h1
  rw [lo_true] at h2
  unfold Scalar join2
  omega
/-- No pair: the code points are the units. -/
theorem cps_same : ∀ (n : Nat) (U : List Int), U.length ≤ n → (∀ i, i + 1 < U.length → ¬ (hi (U.getD i 0) = true ∧ lo (U.getD (i + 1) 0) = true)) → cps U = U
  | 0, U, h, _ => by
    obtain rfl : U = [] := List.eq_nil_of_length_eq_zero (by omega)
    rfl
  | n + 1, [], _, _ => rfl
  | n + 1, c :: t, h, hno => by
    have h1 := cps_one (U := c :: t) (i := 0) (by simp) (fun hc => hno 0 hc.1 hc.2)
    rw [List.drop_zero] at h1
    rw [h1, List.drop_succ_cons, List.drop_zero, cps_same n t (by simpa using h) (fun i hi => hno (i + 1) (by simpa using hi))]
    rfl
/-- The bytes of a code point. -/
def enc8 (c : Int) : List Int :=
  if c < 128 then [c] else if c < 2048 then [192 + c / 64, 128 + c % 64] else if c < 65536 then [224 + c / 4096, 128 + c / 64 % 64, 128 + c % 64] else [240 + c / 262144, 128 + c / 4096 % 64, 128 + c / 64 % 64, 128 + c % 64]
theorem enc8_len (c : Int) : 1 ≤ (enc8 c).length ∧ (enc8 c).length ≤ 4 := by
  unfold enc8
  split
  · simp
  · split
    · simp
    · split <;> simp
theorem enc8_wf {c : Int} (h : Scalar c) : ∀ z ∈ enc8 c, (Lit.int .u8 z).wf = true := by
  intro z hz
  obtain ⟨h0, h1, h2⟩ := h
  unfold enc8 at hz
  have hb : 0 ≤ z ∧ z ≤ 255 := by
    split at hz
    · simp at hz; omega
    · split at hz
      · simp at hz; omega
      · split at hz
        · simp at hz; omega
        · simp at hz; omega
  exact WalkArith.wf_u8 (by omega)
def bytes8 (C : List Int) : List Int := C.flatMap enc8
theorem bytes8_append (a b : List Int) : bytes8 (a ++ b) = bytes8 a ++ bytes8 b := by simp [bytes8]
theorem bytes8_snoc (a : List Int) (c : Int) : bytes8 (a ++ [c]) = bytes8 a ++ enc8 c := by simp [bytes8]
theorem bytes8_len (C : List Int) : (bytes8 C).length ≤ 4 * C.length := by
  induction C with
  | nil => simp [bytes8]
  | cons c t ih =>
    have := (enc8_len c).2
    simp only [bytes8, List.flatMap_cons, List.length_append, List.length_cons] at ih ⊢
    omega
theorem bytes8_wf {C : List Int} (h : ∀ z ∈ C, Scalar z) : ∀ z ∈ bytes8 C, (Lit.int .u8 z).wf = true := by
  intro z hz
  simp only [bytes8, List.mem_flatMap] at hz
  obtain ⟨c, hc, hz⟩ := hz
  exact enc8_wf (h c hc) z hz
theorem cps_len : ∀ (n : Nat) (U : List Int), U.length ≤ n → (cps U).length ≤ U.length
  | 0, U, h => by
    obtain rfl : U = [] := List.eq_nil_of_length_eq_zero (by omega)
    simp [cps]
  | n + 1, [], _ => by simp [cps]
  | n + 1, [c], _ => by simp [cps]
  | n + 1, c :: d :: t, h => by
    rw [cps]
    simp only [List.length_cons] at h
    split
    · have := cps_len n t (by omega)
      simp only [List.length_cons]
      omega
    · have := cps_len n (d :: t) (by simp; omega)
      simp only [List.length_cons] at this ⊢
      omega
/-- What is printed for a unit where only ASCII may stand. -/
def hx (d : Int) : Int := if d < 10 then 48 + d else 55 + d
def hex6 (c : Int) : List Int := [92, 117, hx (c / 4096), hx (c / 256 % 16), hx (c / 16 % 16), hx (c % 16)]
def one (a : Bool) (c : Int) : List Int := if a = true ∧ 126 < c then hex6 c else enc8 c
def outA (a : Bool) (C : List Int) : List Int := C.flatMap (one a)
theorem outA_snoc (a : Bool) (C : List Int) (c : Int) : outA a (C ++ [c]) = outA a C ++ one a c := by simp [outA]
theorem outA_false (C : List Int) : outA false C = bytes8 C := by
  have : one false = enc8 := by funext c; simp [one]
  simp [outA, bytes8, this]
theorem one_len (a : Bool) (c : Int) : (one a c).length ≤ 6 := by
  unfold one
  split
  · simp [hex6]
  · have := (enc8_len c).2; omega
theorem outA_len (a : Bool) (C : List Int) : (outA a C).length ≤ 6 * C.length := by
  induction C with
  | nil => simp [outA]
  | cons c t ih =>
    have := one_len a c
    simp only [outA, List.flatMap_cons, List.length_append, List.length_cons] at ih ⊢
    omega
theorem hx_wf {d : Int} (h0 : 0 ≤ d) (h1 : d < 16) : 0 ≤ hx d ∧ hx d ≤ 255 := by unfold hx; split <;> omega
theorem one_wf {a : Bool} {c : Int} (h : Scalar c) (ha : a = true → c ≤ 65535) : ∀ z ∈ one a c, (Lit.int .u8 z).wf = true := by
  unfold one
  split
  · rename_i hc
    have h2 := ha hc.1
    obtain ⟨h0, h1, _⟩ := h
    intro z hz
    have a1 := hx_wf (d := c / 4096) (by omega) (by omega)
    have a2 := hx_wf (d := c / 256 % 16) (by omega) (by omega)
    have a3 := hx_wf (d := c / 16 % 16) (by omega) (by omega)
    have a4 := hx_wf (d := c % 16) (by omega) (by omega)
    simp only [hex6, List.mem_cons, List.not_mem_nil, or_false] at hz
    have hb : 0 ≤ z ∧ z ≤ 255 := by rcases hz with rfl | rfl | rfl | rfl | rfl | rfl <;> omega
    exact WalkArith.wf_u8 (by omega)
  · exact enc8_wf h
theorem outA_wf {a : Bool} {C : List Int} (h : ∀ z ∈ C, Scalar z) (ha : a = true → ∀ z ∈ C, z ≤ 65535) : ∀ z ∈ outA a C, (Lit.int .u8 z).wf = true := by
  intro z hz
  simp only [outA, List.mem_flatMap] at hz
  obtain ⟨c, hc, hz⟩ := hz
  exact one_wf (h c hc) (fun e => ha e c hc) z hz
/-- The bytes of a text that is given by numbers. -/
theorem by_bytes (zs : List Int) (h : ∀ z ∈ zs, (Lit.int .u8 z).wf = true) (i : Nat) (hi : i < zs.length) : ((by_ (Str.bytesOf zs) i : Nat) : Int) = zs.getD i 0 := by
  have hs : i < (Str.bytesOf zs).size := by rw [Str.bytesOf_size]; exact hi
  rw [by_at _ i hs]
  have hz := h zs[i] (List.getElem_mem hi)
  obtain ⟨h0, h1⟩ := bounds_u8 hz
  have e : (Str.bytesOf zs)[i]'hs = UInt8.ofNat (zs[i].toNat) := by
    simp [Str.bytesOf, ByteArray.getElem_eq_getElem_data]
  rw [e]
  simp [List.getD, hi]
  omega
/-- Decoding gives the code point back. -/
theorem dec_enc (P Q : List Int) (c : Int) (hs : Scalar c) (hc : c ≤ 65535) (hw : ∀ z ∈ P ++ enc8 c ++ Q, (Lit.int .u8 z).wf = true) :
    Utf8.decode (Str.bytesOf (P ++ enc8 c ++ Q)) P.length = (c.toNat, (enc8 c).length) := by
  obtain ⟨z, hz⟩ : ∃ z, z = P ++ enc8 c ++ Q := ⟨_, rfl⟩
  have hb : ∀ j, j < (enc8 c).length → ((by_ (Str.bytesOf z) (P.length + j) : Nat) : Int) = (enc8 c).getD j 0 := by
    intro j hj
    have hl : P.length + j < z.length := by rw [hz]; simp; omega
    rw [by_bytes z (by rw [hz]; exact hw) _ hl, hz]
    simp only [List.getD]
    rw [List.append_assoc, List.getElem?_append_right (by omega), Nat.add_sub_cancel_left, List.getElem?_append_left hj]
  have hsz : (Str.bytesOf z).size = P.length + (enc8 c).length + Q.length := by rw [Str.bytesOf_size, hz]; simp; omega
  rw [← hz]
  clear hz hw
  generalize Str.bytesOf z = s at *
  obtain ⟨h0, h1, h2⟩ := hs
  unfold enc8 at hb hsz ⊢
  by_cases c1 : c < 128
  · rw [if_pos c1] at hb hsz ⊢
    have b0 := hb 0 (by simp)
    simp at b0
    rw [dec1 s _ (by omega)]
    simp
    omega
  rw [if_neg c1] at hb hsz ⊢
  by_cases c2 : c < 2048
  · rw [if_pos c2] at hb hsz ⊢
    have b0 := hb 0 (by simp)
    have b1 := hb 1 (by simp)
    simp at b0 b1 hsz
    rw [dec2 s _ (by unfold ok2; omega)]
    simp
    omega
  rw [if_neg c2, if_pos (by omega)] at hb hsz ⊢
  have b0 := hb 0 (by simp)
  have b1 := hb 1 (by simp)
  have b2 := hb 2 (by simp)
  simp at b0 b1 b2 hsz
  rw [dec3 s _ (by unfold ok3; omega)]
  simp
  omega
end Go.Proofs.YtdplbdfaeighlabFmt.PiA
