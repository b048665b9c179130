/- The helpers of the law. -/
import Derived.Test.YtpagdibnhdfbfabDoorRows
import Derived.Test.YtpagdibnhdfbfabDoorMem
import Derived.Test.YtpagdibnhdfbfabDoorSl
import Derived.Test.YtpagdibnhdfbfabDoorNrA
import Derived.Test.YtpagdibnhdfbfabDoorStr
import Derived.WalkKit
import Derived.ProofKit
import Derived.OpenShut
import Derived.Below
import Derived.WalkLawsBesides
import Derived.Lib.Hide
import Derived.Outline
import Derived.RegionTactic
import Derived.Deep.QuietTactic
import Derived.BigQuiet
import Derived.WalkSpells
import Derived.Deep.OwnRows
import Derived.IntWalk
import Derived.Deep.DeepMust
namespace Go.Proofs.YtpagdibnhdfbfabDoor.NrB
open Go.RowKit Mem Sl
set_option linter.unusedVariables false
open Map Occ Go.MapKept NrA Str

theorem strs_read {w : World} {A : Option Addr} {n c : Nat} {zs : List ByteArray} (h : Args.IsStrs w A n c zs) (i : Nat) (hi : i < n) : ∃ b off, A = some ⟨b, off, none⟩ ∧ b < w.heap.size ∧ w.cell? ⟨b, off + i, none⟩ = some (.string (zs.getD i ByteArray.empty)) := by
  obtain ⟨h1, h2, h3, h4, h5, h6⟩ := h
  obtain ⟨b, off, e, hb, hc⟩ := h6 (by omega)
  exact ⟨b, off, e, hb, hc i hi⟩
theorem strs_later {w w' : World} {A : Option Addr} {n c : Nat} {zs : List ByteArray} (h : Args.IsStrs w A n c zs) (hb : Below w.heap.size w w') : Args.IsStrs w' A n c zs := by
  obtain ⟨h1, h2, h3, h4, h5, h6⟩ := h
  refine ⟨h1, h2, h3, h4, h5, fun hc => ?_⟩
  obtain ⟨b, off, e, hlt, hcl⟩ := h6 hc
  exact ⟨b, off, e, Nat.lt_of_lt_of_le hlt hb.size, fun i hi => by rw [hb.cell (p := ⟨b, off + i, none⟩) hlt]; exact hcl i hi⟩
/-- A Bool answer with what its truth says. -/
def Says (X : Prop) (w : World) (e : Ending) (w' : World) : Prop := ∃ b : Bool, e = .returned (.bool b) ∧ (b = true → X) ∧ w = w'
def Letters (s : ByteArray) : Prop := ∀ c ∈ s.data.toList, isLet c = true
theorem let_snoc (s : ByteArray) (k : Nat) (hk : k < s.size) (h : ∀ c ∈ s.data.toList.take k, isLet c = true) (hc : isLet s[k] = true) : ∀ c ∈ s.data.toList.take (k + 1), isLet c = true := by
  intro c hm
  rw [List.take_succ_eq_append_getElem (by simpa using hk)] at hm
  rcases List.mem_append.1 hm with hm | hm
  · exact h c hm
  · simp only [List.mem_singleton] at hm
    subst hm
    exact hc
set_option maxHeartbeats 1000000 in
theorem letters9 (s : ByteArray) (w : World) (hs : s.size ≤ 1048576) : Calls Tryd.prog 9 #[.string s] w (Says (Letters s) w) := by
  by_cases h0 : s.size = 0
  · have t0 : ((s.size : Int) == 0) = true := by rw [beq_iff_eq]; omega
    go_enter Tryd.func9, Tryd.ntmps9
    go_wp2_with fail
    go_ret
    exact ⟨false, rfl, (fun h => by cases h), rfl⟩
  · have t0 : ((s.size : Int) == 0) = false := by rw [beq_eq_false_iff_ne]; omega
    go_enter Tryd.func9, Tryd.ntmps9
    go_wp2_with fail
    go_loop [3] (fun i => ∃ k : Nat, k ≤ s.size ∧ i = .int .i64 k ∧ Hid (∀ c ∈ s.data.toList.take k, isLet c = true)) (fun i => s.size - (intOf i).toNat)
    case atStart => exact ⟨0, Nat.zero_le _, rfl, Lib.hid (by simp)⟩
    case round =>
      obtain ⟨k, hk, rfl, HL⟩ := hrel
      by_cases hlt : k < s.size
      · have HS := Lib.hid (let_snoc s k hlt HL.out)
        obtain ⟨b, hb⟩ : ∃ b, s[k] = b := ⟨_, rfl⟩
        rw [hb] at HS
        have hbl := b.toNat_lt
        by_cases h1 : (97 : Int) ≤ (b.toNat : Int)
        · by_cases h2 : (b.toNat : Int) ≤ 122
          · have HI := Lib.hid (show isLet b = true by simp [isLet]; omega)
            go_wp2_with fail
            go_round
            case rel => exact ⟨k + 1, by omega, by go_num, Lib.hid (HS.out HI.out)⟩
            case measure => simp [intOf]; omega
          · have h3 : (65 : Int) ≤ (b.toNat : Int) := by omega
            have h4 : ¬ (b.toNat : Int) ≤ 90 := by omega
            go_wp2_with fail
            go_ret
            exact ⟨false, rfl, (fun h => by cases h), rfl⟩
        · by_cases h3 : (65 : Int) ≤ (b.toNat : Int)
          · by_cases h4 : (b.toNat : Int) ≤ 90
            · have HI := Lib.hid (show isLet b = true by simp [isLet]; omega)
              go_wp2_with fail
              go_round
              case rel => exact ⟨k + 1, by omega, by go_num, Lib.hid (HS.out HI.out)⟩
              case measure => simp [intOf]; omega
            · go_wp2_with fail
              go_ret
              exact ⟨false, rfl, (fun h => by cases h), rfl⟩
          · go_wp2_with fail
            go_ret
            exact ⟨false, rfl, (fun h => by cases h), rfl⟩
      · obtain rfl : k = s.size := by omega
        go_wp2_with fail
        go_ret
        refine ⟨true, rfl, fun _ => ?_, rfl⟩
        intro c hc
        exact HL.out c (by rw [List.take_of_length_le (by rw [Array.length_toList]; exact Nat.le_refl _)]; exact hc)
def Small (zs : List ByteArray) (n : Nat) : Prop := ∀ k, k < n → (zs.getD k ByteArray.empty).size ≤ 1048576
set_option maxHeartbeats 1000000 in
theorem all6 (A : Option Addr) (n c : Nat) (zs : List ByteArray) (w : World) (h : Args.IsStrs w A n c zs) (hn : n ≤ 1024) (hs : Small zs n) :
    Calls Tryd.prog 6 #[.slice A n c] w (Says (∀ k, k < n → Letters (zs.getD k ByteArray.empty)) w) := by
  have HR := Lib.hid (fun k => strs_read h k)
  have HSM := Lib.hid hs
  clear h hs
  go_enter Tryd.func6, Tryd.ntmps6
  go_wp2_with fail
  go_loop [3] (fun i => ∃ k : Nat, k ≤ n ∧ i = .int .i64 k ∧ Hid (∀ j, j < k → Letters (zs.getD j ByteArray.empty))) (fun i => n - (intOf i).toNat)
  case atStart => exact ⟨0, Nat.zero_le _, rfl, Lib.hid (fun j hj => by omega)⟩
  case round =>
    obtain ⟨k, hk, rfl, HL⟩ := hrel
    by_cases hlt : k < n
    · obtain ⟨b, off, ha, hb, hcell⟩ := HR.out k hlt
      subst ha
      have hsz := HSM.out k hlt
      have HG := Lib.hid (fun (hh : Letters (zs.getD k ByteArray.empty)) => (show ∀ j, j < k + 1 → Letters (zs.getD j ByteArray.empty) from fun j hj => by
        rcases Nat.lt_or_ge j k with h | h
        · exact HL.out j h
        · obtain rfl : j = k := by omega
          exact hh))
      generalize zs.getD k ByteArray.empty = s at *
      go_wp2_with fail
      refine (letters9 s w hsz).mono ?_
      rintro e w' ⟨b', rfl, hx, rfl⟩
      cases b' with
      | true =>
        have HX := Lib.hid (HG.out (hx rfl))
        clear hx
        go_wp2_with fail
        go_round
        case rel => exact ⟨k + 1, by omega, by go_num, HX⟩
        case measure => simp [intOf]; omega
      | false =>
        clear hx
        go_wp2_with fail
        go_ret
        exact ⟨false, rfl, (fun h => by cases h), rfl⟩
    · obtain rfl : k = n := by omega
      go_wp2_with fail
      go_ret
      exact ⟨true, rfl, fun _ => HL.out, rfl⟩
def Okk (zs : List ByteArray) (n : Nat) : Prop := n ≤ 1048576 ∧ Small zs n
def SomeNum (w : World) (e : Ending) (w' : World) : Prop := ∃ t : Nat, e = .returned (.int .i64 (t : Int)) ∧ t ≤ 5000000 ∧ w = w'
set_option maxHeartbeats 1000000 in
theorem list5 (A : Option Addr) (n c : Nat) (zs : List ByteArray) (w : World) (h : Args.IsStrs w A n c zs) (hn : n ≤ 1024) (hs : Small zs n) : Calls Tryd.prog 5 #[.slice A n c] w (SomeNum w) := by
  have HR := Lib.hid (fun k => strs_read h k)
  have HSM := Lib.hid hs
  clear h hs
  go_enter Tryd.func5, Tryd.ntmps5
  go_wp2_with fail
  go_loop [3, 4] (fun t i => ∃ k m : Nat, k ≤ n ∧ i = .int .i64 k ∧ t = .int .i64 (m : Int) ∧ m ≤ 2097152) (fun _ i => n - (intOf i).toNat)
  case atStart => exact ⟨0, 24, Nat.zero_le _, rfl, rfl, by omega⟩
  case round =>
    obtain ⟨k, m, hk, rfl, rfl, hm⟩ := hrel
    by_cases hlt : k < n
    · obtain ⟨b, off, ha, hb, hcell⟩ := HR.out k hlt
      subst ha
      have hsz := HSM.out k hlt
      generalize zs.getD k ByteArray.empty = s at *
      by_cases hbig : m + (16 + s.size) ≤ 2097152
      · have tb : decide ((2097152 : Int) < (m : Int) + (16 + (s.size : Int))) = false := by simp; omega
        go_wp2_with fail
        go_round
        case rel => exact ⟨k + 1, m + (16 + s.size), by omega, by go_num, by go_num, hbig⟩
        case measure => simp [intOf]; omega
      · have tb : decide ((2097152 : Int) < (m : Int) + (16 + (s.size : Int))) = true := by simp; omega
        go_wp2_with fail
        go_ret
        exact ⟨m + (16 + s.size), by first | rfl | exact ret_int (by omega), by omega, rfl⟩
    · go_wp2_with fail
      go_ret
      exact ⟨m, rfl, by omega, rfl⟩
set_option maxHeartbeats 1000000 in
theorem bytes4 (A : Option Addr) (n c : Nat) (zs : List ByteArray) (w : World) (h : Args.IsStrs w A n c zs) (hn : n ≤ maxLen) : Calls Tryd.prog 4 #[.slice A n c] w (Says (Okk zs n) w) := by
  unfold maxLen at hn
  have HR := Lib.hid (fun k => strs_read h k)
  have HW := Lib.hid (show ∀ k, k < n → (zs.getD k ByteArray.empty).size ≤ 9223372036854775807 from fun k hk => by
    have h3 := h.2.2.1
    have h4 := h.2.2.2.1
    have : zs.getD k ByteArray.empty ∈ zs := by
      rw [List.getD, List.getElem?_eq_getElem (by omega)]
      exact List.getElem_mem _
    exact h4 _ this)
  clear h
  by_cases hn1 : n ≤ 1048576
  · go_enter Tryd.func4, Tryd.ntmps4
    go_wp2_with fail
    go_loop [3, 4] (fun t i => ∃ k m : Nat, k ≤ n ∧ i = .int .i64 k ∧ t = .int .i64 (m : Int) ∧ m ≤ 1048576 ∧ Hid (Small zs k)) (fun _ i => n - (intOf i).toNat)
    case atStart => exact ⟨0, n, Nat.zero_le _, rfl, rfl, hn1, Lib.hid (fun j hj => by omega)⟩
    case round =>
      obtain ⟨k, m, hk, rfl, rfl, hm, HL⟩ := hrel
      by_cases hlt : k < n
      · obtain ⟨b, off, ha, hb, hcell⟩ := HR.out k hlt
        subst ha
        have hsz := HW.out k hlt
        have HG := Lib.hid (fun (hh : (zs.getD k ByteArray.empty).size ≤ 1048576) => (show Small zs (k + 1) from fun j hj => by
          rcases Nat.lt_or_ge j k with h | h
          · exact HL.out j h
          · obtain rfl : j = k := by omega
            exact hh))
        generalize zs.getD k ByteArray.empty = s at *
        by_cases h1 : s.size ≤ 1048576
        · have HX := Lib.hid (HG.out h1)
          by_cases h2 : m + s.size ≤ 1048576
          · have tb : decide ((1048576 : Int) < (m : Int) + (s.size : Int)) = false := by simp; omega
            go_wp2_with fail
            go_round
            case rel => exact ⟨k + 1, m + s.size, by omega, by go_num, by go_num, h2, HX⟩
            case measure => simp [intOf]; omega
          · have tb : decide ((1048576 : Int) < (m : Int) + (s.size : Int)) = true := by simp; omega
            go_wp2_with fail
            go_ret
            exact ⟨false, rfl, (fun h => by cases h), rfl⟩
        · go_wp2_with fail
          go_ret
          exact ⟨false, rfl, (fun h => by cases h), rfl⟩
      · obtain rfl : k = n := by omega
        go_wp2_with fail
        go_ret
        exact ⟨true, rfl, fun _ => ⟨hn1, HL.out⟩, rfl⟩
  · go_enter Tryd.func4, Tryd.ntmps4
    go_wp2_with fail
    go_ret
    exact ⟨false, rfl, (fun h => by cases h), rfl⟩
theorem in12 (s : ByteArray) (w : World) : Calls Tryd.prog 12 #[.slice none 0 0, .string s] w fun e w' => e = .returned (.bool false) ∧ w = w' := by
  go_enter Tryd.func12, Tryd.ntmps12
  go_wp2_with fail
  go_loop [5] (fun i => i = .int .i64 0) (fun _ => 0)
  case atStart => rfl
  case round =>
    subst hrel
    go_wp2_with fail
    go_ret
    exact ⟨rfl, rfl⟩
end Go.Proofs.YtpagdibnhdfbfabDoor.NrB
