/- FnSemverStringParsesBack: the law. -/
import Derived.Test.YtpagdibnhdfbfadDoorRows
import Derived.Test.YtpagdibnhdfbfadDoorMem
import Derived.Test.YtpagdibnhdfbfadDoorSl
import Derived.Test.YtpagdibnhdfbfadDoorSeB
import Derived.Lib.LaidU8
import Derived.LaidMore
import Derived.Great.BuildSlice
import Derived.WalkKit
import Derived.ProofKit
import Derived.OpenShut
import Derived.Below
import Derived.WalkLawsBesides
import Derived.Lib.Hide
import Derived.Outline
import Derived.RegionTactic
import Derived.Deep.QuietTactic
import Derived.BigQuiet
import Derived.WalkSpells
import Derived.Deep.OwnRows
import Derived.IntWalk
import Derived.Deep.DeepMust
namespace Go.Proofs.YtpagdibnhdfbfadDoor.SeC
open Go.RowKit Mem Sl
set_option linter.unusedVariables false
open Occ Smv SeA SeB

set_option maxHeartbeats 1000000 in
theorem bytes4 (A0 : Option Addr) (n0 c0 : Nat) (y1 : ByteArray) (w : World) (m0 : n0 ≤ maxLen) (m1 : y1.size ≤ maxLen) : Calls Tryd.prog 4 #[.slice A0 n0 c0, .string y1] w fun e w' => e = .returned (.bool (decide (n0 + y1.size ≤ 1048576))) ∧ w = w' := by
  unfold maxLen at *
  by_cases h0 : n0 ≤ 1048576
  case neg =>
    go_enter Tryd.func4, Tryd.ntmps4
    go_wp2_with fail
    go_ret
    exact ⟨congrArg (fun b => Ending.returned (Value.bool b)) (show false = decide (n0 + y1.size ≤ 1048576) by symm; simp; omega), rfl⟩
  by_cases h1 : y1.size ≤ 1048576
  case neg =>
    go_enter Tryd.func4, Tryd.ntmps4
    go_wp2_with fail
    go_ret
    exact ⟨congrArg (fun b => Ending.returned (Value.bool b)) (show false = decide (n0 + y1.size ≤ 1048576) by symm; simp; omega), rfl⟩
  by_cases g1 : n0 + y1.size ≤ 1048576
  case neg =>
    go_enter Tryd.func4, Tryd.ntmps4
    go_wp2_with fail
    go_ret
    exact ⟨congrArg (fun b => Ending.returned (Value.bool b)) (show false = decide (n0 + y1.size ≤ 1048576) by symm; simp; omega), rfl⟩
  go_enter Tryd.func4, Tryd.ntmps4
  go_wp2_with fail
  go_ret
  exact ⟨congrArg (fun b => Ending.returned (Value.bool b)) (show true = decide (n0 + y1.size ≤ 1048576) by symm; simp; omega), rfl⟩

theorem clone5_info : (Tryd.prog.info? 3).map (fun i => (i.zero, i.size, i.bytes)) = some (some (.int .i64 0), 1, 8) := by kernel_rfl
set_option maxHeartbeats 400000 in
theorem clone5 (A : Option Addr) (n c : Nat) (zs : List Int) (w : World) (h : Args.IsInts .i64 w A n c zs) (hn : n ≤ 131072) :
    Calls Tryd.prog 5 #[.slice A n c] w fun e w' => Cloned .i64 3 w A n zs e w' := by
  have heq := fun (W : World) (X : Option Addr) (l cc : Nat) => Lib.run_eql_slice_nil (P := Tryd.prog) W 22 3 X l cc 0 0 Tryd.underlying22
  rcases A with _ | a
  · obtain ⟨h1, h2, h3, h4, h5, h6⟩ := h
    have hc := h5 rfl
    obtain rfl : n = 0 := by omega
    obtain rfl : zs = [] := List.eq_nil_of_length_eq_zero h3
    go_enter Tryd.func5, Tryd.ntmps5
    go_wp2
    go_ret
    exact ⟨_, rfl, .inl ⟨rfl, rfl, rfl⟩⟩
  · have hmk := fun W => run_make_row' (P := Tryd.prog) 22 3 (.int .i64 0) 8 Tryd.underlying22 clone5_info rfl .i64 .i64 n (by omega) (by omega) W
    have hlen := h.2.2.1
    have hrd := fun k => h.read k
    have HR := Lib.hid hrd
    clear hrd
    go_enter Tryd.func5, Tryd.ntmps5
    go_wp2
    go_loopw [4] (fun i wr => ∃ k : Nat, k ≤ n ∧ i = .int .i64 k ∧ Row wr w.heap.size 3 (filled (iv .i64 zs) (.int .i64 0) k) ∧ Below w.heap.size w wr ∧ wr.heap.size = w.heap.size + 1) (fun i _ => n - (intOf i).toNat)
    case atStart =>
      refine ⟨0, Nat.zero_le _, rfl, ?_, (Below.refl _ _).alloc (Nat.le_refl _) _, by simp⟩
      rw [filled_zero, iv_length, hlen]
      exact made_row w 3 (.int .i64 0) n
    case round =>
      obtain ⟨k, hk, rfl, hrow, hbel, hsz⟩ := hrel
      have HS := Lib.hid hsz
      clear hsz
      by_cases hlt : k < n
      · obtain ⟨b, off, ha, hb, hcell⟩ := HR.out k hlt
        injection ha with ha
        subst ha
        obtain ⟨x, hx⟩ : ∃ x, x = zs.getD k 0 := ⟨_, rfl⟩
        rw [← hx] at hcell
        have c1 := cell_later hbel hcell
        have hl : k < (iv .i64 zs).length := by rw [iv_length]; omega
        have c2 := hrow.at_ (filled_at (iv .i64 zs) (.int .i64 0) k hl)
        have c3 := hrow.frozen k
        have hset := hrow.set k (.int .i64 x)
        rw [filled_set _ _ k hl _ (by rw [hx]; exact iv_at .i64 zs k (by omega))] at hset
        have HSET := Lib.hid hset
        have HB := Lib.hid hbel
        clear hset hbel hrow hcell hx
        go_wp2
        go_roundw
        case rel => exact ⟨k + 1, by omega, by go_num, HSET.out, HB.out.setCell (Nat.le_refl _) _, by simpa using HS.out⟩
        case measure => simp [intOf]; omega
      · have hkn : k = n := by omega
        subst hkn
        have HROW := Lib.hid hrow
        have HB := Lib.hid hbel
        clear hrow hbel
        go_wp2
        go_ret
        refine ⟨_, rfl, .inr ⟨by simp, rfl, ?_, HB.out, HS.out⟩⟩
        have h1 := HROW.out
        rwa [← hlen, ← iv_length .i64 zs, filled_all] at h1

/-- A Bool answer true, nothing below turned. -/
theorem nats_of (zs : List Int) (n : Nat) (hl : zs.length = n) (h : ∀ j, j < n → 0 ≤ zs.getD j 0) : ∃ ps : List Nat, zs = ps.map fun (p : Nat) => (p : Int) := by
  refine ⟨zs.map Int.toNat, ?_⟩
  rw [List.map_map]
  conv => lhs; rw [← List.map_id zs]
  apply List.map_congr_left
  intro z hz
  obtain ⟨i, hi, rfl⟩ := List.getElem_of_mem hz
  have := h i (by omega)
  simp [List.getD, hi] at this
  simp
  omega
theorem is_empty (x : ByteArray) : x.toList.isEmpty = decide (x.size = 0) := by
  rw [Lib.toList_data]
  cases x with
  | mk d => cases d with
    | mk l => cases l <;> simp [ByteArray.size]
theorem pre_nil (x : ByteArray) (h : x.size = 0) : Pre x.data.toList := by
  intro c r e
  have := congrArg List.length e
  simp at this
  have h2 : x.data.size = x.size := rfl
  omega
theorem pre_cons (x : ByteArray) (h : 0 < x.size) (hb : (x[0]).toNat = 45) : Pre x.data.toList := by
  intro c r e
  have h1 : x.data.toList[0]? = some x[0] := by
    rw [List.getElem?_eq_getElem (by simpa using h)]
    rfl
  rw [e] at h1
  simp at h1
  rw [h1]
  exact hb
theorem cloned_ints {k : IntKind} {E : TypeId} {w w' : World} {A : Option Addr} {n c : Nat} {zs : List Int} {v : Value} (h : Args.IsInts k w A n c zs)
    (hc : (A = none ∧ v = .slice none 0 0 ∧ w = w') ∨ (A ≠ none ∧ v = .slice (some ⟨w.heap.size, 0, none⟩) n n ∧ Row w' w.heap.size E (iv k zs) ∧ Below w.heap.size w w' ∧ w'.heap.size = w.heap.size + 1)) :
    ∃ A' c', v = .slice A' n c' ∧ Args.IsInts k w' A' n c' zs ∧ Below w.heap.size w w' := by
  rcases hc with ⟨rfl, rfl, rfl⟩ | ⟨_, rfl, hr, hb, _⟩
  · obtain ⟨h1, h2, h3, h4, h5, h6⟩ := h
    have hc := h5 rfl
    subst hc
    obtain rfl : n = 0 := by omega
    exact ⟨none, 0, rfl, ⟨h1, h2, h3, h4, h5, h6⟩, Below.refl _ _⟩
  · obtain ⟨h1, h2, h3, h4, h5, h6⟩ := h
    subst h3
    exact ⟨_, _, rfl, ints_of_row hr (Nat.le_trans h1 h2) h4, hb⟩
/-- The digit at t = i + j of part p. -/
theorem digit {s : ByteArray} {pre : List UInt8} {ps : List Nat} {i k p : Nat} (h : St s pre ps i k) (hp : ps[k]? = some p) (t j v : Nat) (ht : t = i + j) (hv : v = dval ((Lib.decDigits p).take j)) (hj : j < (Lib.decDigits p).length) :
    ∃ (hi : t < s.size) (b : UInt8), s[t] = b ∧ 48 ≤ b.toNat ∧ b.toNat ≤ 57 ∧ v * 10 + (b.toNat - 48) = dval ((Lib.decDigits p).take (j + 1)) ∧ v * 10 + (b.toNat - 48) ≤ p := by
  subst ht hv
  obtain ⟨hi, h1, h2, h3⟩ := st_dig h hp j hj
  refine ⟨hi, _, h1, h2, h3, (dval_take _ j hj).symm, ?_⟩
  rw [← dval_take _ j hj]
  exact dval_part p (j + 1) hj
/-- The head of the text. -/
theorem head_digit {s : ByteArray} {pre : List UInt8} {ps : List Nat} {i k p : Nat} (h : St s pre ps i k) (hp : ps[k]? = some p) : ∃ (hi : i < s.size) (b : UInt8), s[i] = b ∧ 48 ≤ b.toNat ∧ b.toNat ≤ 57 := by
  obtain ⟨hi, h1, h2, h3⟩ := st_dig h hp 0 (List.length_pos_iff.2 (dec_ne p))
  exact ⟨by omega, _, h1, h2, h3⟩
set_option maxHeartbeats 4000000 in
set_option maxRecDepth 100000 in
theorem law (A0 : Option Addr) (n0 c0 : Nat) (z0 : List Int) (a1 : ByteArray) (w : World) (w0 : Args.IsInts .i64 w A0 n0 c0 z0) (w1 : a1.size ≤ maxLen) (hT : Tab w) :
    Calls Tryd.prog 3 #[.slice A0 n0 c0, .string a1] w fun e w' => e = .returned (.bool true) ∧ Below w.heap.size w w' := by
  have hm : n0 ≤ maxLen := Nat.le_trans w0.1 w0.2.1
  have H4 := Lib.hid (bytes4 A0 n0 c0 a1 w hm w1)
  unfold maxLen at hm w1
  have HI := Lib.hid w0
  have HT := Lib.hid hT
  have HLEN := Lib.hid w0.2.2.1
  clear w0 hT
  go_enter Tryd.func3, Tryd.ntmps3
  go_wp2_with fail
  refine H4.out.mono ?_
  rintro e w' ⟨rfl, rfl⟩
  by_cases h4 : n0 + a1.size ≤ 1048576
  case neg =>
    have t4 : decide (n0 + a1.size ≤ 1048576) = false := by simp; omega
    rw [t4]
    go_wp2_with fail
    go_ret
    exact ⟨rfl, Below.refl _ _⟩
  have t4 : decide (n0 + a1.size ≤ 1048576) = true := by simp; omega
  rw [t4]
  clear t4
  by_cases h5 : n0 ≤ 131072
  case neg =>
    go_wp2_with fail
    go_ret
    exact ⟨rfl, Below.refl _ _⟩
  by_cases h6 : n0 * 8 + a1.size ≤ 1048576
  case neg =>
    go_wp2_with fail
    go_ret
    exact ⟨rfl, Below.refl _ _⟩
  go_wp2_with fail
  go_loop [5] (fun s5 => ∃ k : Nat, k ≤ n0 ∧ s5 = .int .i64 (k : Int) ∧ Hid (∀ j, j < k → 0 ≤ z0.getD j 0)) (fun s5 => n0 - (intOf s5).toNat)
  case atStart => exact ⟨0, Nat.zero_le _, rfl, Lib.hid (fun j hj => by omega)⟩
  case round =>
    obtain ⟨k, hk, rfl, HG⟩ := hrel
    by_cases hlt : k < n0
    · obtain ⟨b, off, ha, hb, hcell⟩ := HI.out.read k hlt
      obtain ⟨x, hx⟩ : ∃ x, z0.getD k 0 = x := ⟨_, rfl⟩
      rw [hx] at hcell
      have HX := Lib.hid hx
      subst ha
      clear hx
      by_cases hx0 : x < 0
      · go_wp2_with fail
        go_ret
        exact ⟨rfl, Below.refl _ _⟩
      · have HG2 := Lib.hid (show ∀ j, j < k + 1 → 0 ≤ z0.getD j 0 from fun j hj => by
          rcases Nat.lt_or_ge j k with h | h
          · exact HG.out j h
          · obtain rfl : j = k := by omega
            rw [HX.out]; omega)
        go_wp2_with fail
        go_round
        case rel => exact ⟨k + 1, by omega, by go_num, HG2⟩
        case measure => simp [intOf]; omega
    · obtain rfl : k = n0 := by omega
      obtain ⟨ps, hps⟩ := nats_of z0 k HLEN.out HG.out
      subst hps
      have hpl : ps.length = k := by have := HLEN.out; simpa using this
      have HP := Lib.hid (show ∀ p ∈ ps, p ≤ 9223372036854775807 from fun p hp => by
        have := HI.out.2.2.2.1 (p : Int) (List.mem_map.2 ⟨p, hp, rfl⟩)
        have := bounds_i64 this
        omega)
      have K5 := Lib.hid (clone5 A0 k c0 _ w HI.out h5)
      have HPL := Lib.hid hpl
      obtain ⟨gT, hgT⟩ := tab_at HT.out
      have HGT := Lib.hid hgT
      clear hpl hgT
      by_cases hpre : a1.size = 0
      · have te : a1.toList.isEmpty = true := by rw [is_empty]; simp [hpre]
        have HPRE := Lib.hid (pre_nil a1 hpre)
        go_wp2_with fail
        refine K5.out.mono ?_
        rintro e w1 ⟨v5, rfl, h5'⟩
        obtain ⟨A1, c1, rfl, hi1, hb1⟩ := cloned_ints HI.out h5'
        clear h5'
        have k6 := string6 A1 k c1 ps a1 w1 hi1 h5 HP.out (by omega) (tab_later HGT.out HT.out hb1)
        have hSs : (⟨(jn ps ++ a1.data.toList).toArray⟩ : ByteArray).size ≤ 3700000 := by
          have := jn_len ps HP.out
          have h2 := HPL.out
          have h3 : (⟨(jn ps ++ a1.data.toList).toArray⟩ : ByteArray).size = (jn ps).length + a1.size := by show (jn ps ++ a1.data.toList).toArray.size = _; rw [List.size_toArray, List.length_append, Array.length_toList]; rfl
          omega
        have hSd : (⟨(jn ps ++ a1.data.toList).toArray⟩ : ByteArray).data.toList = jn ps ++ a1.data.toList := by simp
        generalize (⟨(jn ps ++ a1.data.toList).toArray⟩ : ByteArray) = S at k6 hSs hSd
        have K6 := Lib.hid k6
        have HSD := Lib.hid hSd
        have HI1 := Lib.hid hi1
        have HB1 := Lib.hid hb1
        clear k6 hSd hi1 hb1
        go_wp2_with fail
        refine K6.out.mono ?_
        rintro e w2 ⟨rfl, hb2⟩
        have HI2 := Lib.hid (HI1.out.later hb2)
        have HB2 := Lib.hid (HB1.out.trans (hb2.mono HB1.out.size))
        clear hb2
        rcases ps with _ | ⟨p0, pr⟩
        · obtain rfl : k = 0 := HPL.out.symm
          obtain rfl : S = a1 := ByteArray.ext (Array.ext' HSD.out)
          have tq : (S.toList == S.toList) = true := by simp
          go_wp2_with fail
          go_ret
          exact ⟨rfl, HB2.out⟩
        · have hk0 : 0 < k := by rw [← HPL.out]; simp
          have HST := Lib.hid (show St S a1.data.toList (p0 :: pr) 0 0 from ⟨by simp, by simpa using HSD.out⟩)
          generalize hps : p0 :: pr = ps at *
          have hp0 : ps[0]? = some p0 := by rw [← hps]; rfl
          obtain ⟨h0s, b0, hb0, h48, h57⟩ := head_digit HST.out hp0
          have hb45 : ((b0.toNat : Int) != 45) = true := by simp; omega
          clear hps hp0
          go_wp2_with fail
          go_loop [7, 8] (fun s7 s8 => ∃ i kk : Nat, s7 = .int .i64 (i : Int) ∧ s8 = .int .i64 (kk : Int) ∧ kk < k ∧ i ≤ S.size ∧ Hid (St S a1.data.toList ps i kk)) (fun _ s8 => k - (intOf s8).toNat)
          case atStart => exact ⟨0, 0, rfl, rfl, hk0, Nat.zero_le _, HST⟩
          case round =>
            clear HST h0s hb0 h48 h57 hb45
            obtain ⟨i, kk, rfl, rfl, hkk, hiS, HST⟩ := hrel
            have hkp : kk < ps.length := by rw [HPL.out]; exact hkk
            obtain ⟨p, hp⟩ : ∃ p, ps[kk]? = some p := ⟨_, List.getElem?_eq_getElem hkp⟩
            have hpm : p ≤ 9223372036854775807 := HP.out p (List.mem_of_getElem? hp)
            have HPK := Lib.hid hp
            obtain ⟨his, b0, hb0, h48, h57⟩ := head_digit HST.out hp
            have HDIG := Lib.hid (fun t j v => digit HST.out hp t j v)
            have hrl := rest_le HST.out hp
            obtain ⟨m, hm⟩ : ∃ m, (Lib.decDigits p).length = m := ⟨_, rfl⟩
            rw [hm] at HDIG hrl
            have HM := Lib.hid hm
            obtain ⟨bk, ok, hak, hbk, hck⟩ := HI2.out.read kk hkk
            rw [show (ps.map fun (p : Nat) => (p : Int)).getD kk 0 = (p : Int) by simp [List.getD, hp]] at hck
            subst hak
            have h48' : ¬ (b0.toNat : Int) < 48 := by omega
            have h57' : ¬ 57 < (b0.toNat : Int) := by omega
            clear hp hm hkp
            go_wp2_with fail
            go_loop [7, 9] (fun s7 s9 => ∃ t j v : Nat, s7 = .int .i64 (t : Int) ∧ s9 = .int .i64 (v : Int) ∧ j ≤ m ∧ t ≤ S.size ∧ Hid (t = i + j) ∧ Hid (v = dval ((Lib.decDigits p).take j)) ∧ v ≤ 9223372036854775807) (fun s7 _ => S.size - (intOf s7).toNat)
            case atStart => exact ⟨i, 0, 0, rfl, rfl, Nat.zero_le _, hiS, Lib.hid rfl, Lib.hid rfl, by omega⟩
            case round =>
              clear his hb0 h48 h57 h48' h57'
              obtain ⟨t, j, v, rfl, rfl, hj, htS, HTJ, HV, hv⟩ := hrel
              by_cases hjm : j < m
              · obtain ⟨hts, b, hb, h48, h57, hv1, hv2⟩ := HDIG.out t j v HTJ.out HV.out hjm
                have HV1 := Lib.hid hv1
                have h48' : (48 : Int) ≤ (b.toNat : Int) := by omega
                have h57' : (b.toNat : Int) ≤ 57 := by omega
                have hv3 : (v : Int) * 10 + ((b.toNat : Int) - 48) ≤ 9223372036854775807 := by omega
                have hv4 : (v : Int) * 10 ≤ 9223372036854775807 := by omega
                clear hv1 hv2
                go_wp2_with fail
                go_round
                case rel => exact ⟨t + 1, j + 1, v * 10 + (b.toNat - 48), by go_num, by go_num, by omega, by omega, Lib.hid (by rw [HTJ.out]; omega), Lib.hid HV1.out, by omega⟩
                case measure => simp [intOf]; omega
              · obtain rfl : j = m := by omega
                obtain rfl : v = p := by rw [HV.out, ← HM.out, dval_all]
                have tvv : ((v : Int) != (v : Int)) = false := by simp
                by_cases hlast : kk + 1 = k
                · have hre := st_last HST.out HPK.out (by rw [HPL.out]; exact hlast)
                  rw [HM.out, ← HTJ.out] at hre
                  have hex := rest_str hre
                  have HRE := Lib.hid hre
                  have tq : (a1.toList == a1.toList) = true := by simp
                  have tk : ((kk : Int) + 1 == (k : Int)) = true := by simp; omega
                  clear hre
                  by_cases htl : t < S.size
                  · have h45 := rest_head HRE.out HPRE.out htl
                    obtain ⟨b, hb⟩ : ∃ b, S[t] = b := ⟨_, rfl⟩
                    rw [hb] at h45
                    have h48' : ¬ (48 : Int) ≤ (b.toNat : Int) := by omega
                    have h46' : ((b.toNat : Int) == 46) = false := by simp; omega
                    clear h45
                    go_wp2_with fail
                    go_ret
                    exact ⟨rfl, HB2.out⟩
                  · go_wp2_with fail
                    go_ret
                    exact ⟨rfl, HB2.out⟩
                · obtain ⟨⟨htl, h46⟩, hst⟩ := st_more HST.out HPK.out (by rw [HPL.out]; exact hlast)
                  rw [HM.out] at hst
                  simp only [HM.out, ← HTJ.out] at htl h46 hst
                  have HST2 := Lib.hid hst
                  obtain ⟨b, hb⟩ : ∃ b, S[t] = b := ⟨_, rfl⟩
                  have hb46 : b = 46 := by rw [← hb]; exact h46
                  subst hb46
                  clear hst h46
                  go_wp2_with fail
                  exact ⟨⟨t + 1, kk + 1, by go_num, by go_num, by omega, by omega, HST2⟩, by simp [intOf]; omega⟩
      · have hpp : 0 < a1.size := by omega
        have te : a1.toList.isEmpty = false := by rw [is_empty]; simp [hpre]
        obtain ⟨b, hb⟩ : ∃ b, a1[0] = b := ⟨_, rfl⟩
        by_cases hd : (b.toNat : Int) = 45
        · have HPRE := Lib.hid (pre_cons a1 hpp (by rw [hb]; omega))
          have hbd : b = 45 := UInt8.toNat_inj.1 (by simp; omega)
          subst hbd
          go_wp2_with fail
          refine K5.out.mono ?_
          rintro e w1 ⟨v5, rfl, h5'⟩
          obtain ⟨A1, c1, rfl, hi1, hb1⟩ := cloned_ints HI.out h5'
          clear h5'
          have k6 := string6 A1 k c1 ps a1 w1 hi1 h5 HP.out (by omega) (tab_later HGT.out HT.out hb1)
          have hSs : (⟨(jn ps ++ a1.data.toList).toArray⟩ : ByteArray).size ≤ 3700000 := by
            have := jn_len ps HP.out
            have h2 := HPL.out
            have h3 : (⟨(jn ps ++ a1.data.toList).toArray⟩ : ByteArray).size = (jn ps).length + a1.size := by show (jn ps ++ a1.data.toList).toArray.size = _; rw [List.size_toArray, List.length_append, Array.length_toList]; rfl
            omega
          have hSd : (⟨(jn ps ++ a1.data.toList).toArray⟩ : ByteArray).data.toList = jn ps ++ a1.data.toList := by simp
          generalize (⟨(jn ps ++ a1.data.toList).toArray⟩ : ByteArray) = S at k6 hSs hSd
          have K6 := Lib.hid k6
          have HSD := Lib.hid hSd
          have HI1 := Lib.hid hi1
          have HB1 := Lib.hid hb1
          clear k6 hSd hi1 hb1
          go_wp2_with fail
          refine K6.out.mono ?_
          rintro e w2 ⟨rfl, hb2⟩
          have HI2 := Lib.hid (HI1.out.later hb2)
          have HB2 := Lib.hid (HB1.out.trans (hb2.mono HB1.out.size))
          clear hb2
          rcases ps with _ | ⟨p0, pr⟩
          · obtain rfl : k = 0 := HPL.out.symm
            obtain rfl : S = a1 := ByteArray.ext (Array.ext' HSD.out)
            have tq : (S.toList == S.toList) = true := by simp
            go_wp2_with fail
            go_ret
            exact ⟨rfl, HB2.out⟩
          · have hk0 : 0 < k := by rw [← HPL.out]; simp
            have HST := Lib.hid (show St S a1.data.toList (p0 :: pr) 0 0 from ⟨by simp, by simpa using HSD.out⟩)
            generalize hps : p0 :: pr = ps at *
            have hp0 : ps[0]? = some p0 := by rw [← hps]; rfl
            obtain ⟨h0s, b0, hb0, h48, h57⟩ := head_digit HST.out hp0
            have hb45 : ((b0.toNat : Int) != 45) = true := by simp; omega
            clear hps hp0
            go_wp2_with fail
            go_loop [7, 8] (fun s7 s8 => ∃ i kk : Nat, s7 = .int .i64 (i : Int) ∧ s8 = .int .i64 (kk : Int) ∧ kk < k ∧ i ≤ S.size ∧ Hid (St S a1.data.toList ps i kk)) (fun _ s8 => k - (intOf s8).toNat)
            case atStart => exact ⟨0, 0, rfl, rfl, hk0, Nat.zero_le _, HST⟩
            case round =>
              clear HST h0s hb0 h48 h57 hb45
              obtain ⟨i, kk, rfl, rfl, hkk, hiS, HST⟩ := hrel
              have hkp : kk < ps.length := by rw [HPL.out]; exact hkk
              obtain ⟨p, hp⟩ : ∃ p, ps[kk]? = some p := ⟨_, List.getElem?_eq_getElem hkp⟩
              have hpm : p ≤ 9223372036854775807 := HP.out p (List.mem_of_getElem? hp)
              have HPK := Lib.hid hp
              obtain ⟨his, b0, hb0, h48, h57⟩ := head_digit HST.out hp
              have HDIG := Lib.hid (fun t j v => digit HST.out hp t j v)
              have hrl := rest_le HST.out hp
              obtain ⟨m, hm⟩ : ∃ m, (Lib.decDigits p).length = m := ⟨_, rfl⟩
              rw [hm] at HDIG hrl
              have HM := Lib.hid hm
              obtain ⟨bk, ok, hak, hbk, hck⟩ := HI2.out.read kk hkk
              rw [show (ps.map fun (p : Nat) => (p : Int)).getD kk 0 = (p : Int) by simp [List.getD, hp]] at hck
              subst hak
              have h48' : ¬ (b0.toNat : Int) < 48 := by omega
              have h57' : ¬ 57 < (b0.toNat : Int) := by omega
              clear hp hm hkp
              go_wp2_with fail
              go_loop [7, 9] (fun s7 s9 => ∃ t j v : Nat, s7 = .int .i64 (t : Int) ∧ s9 = .int .i64 (v : Int) ∧ j ≤ m ∧ t ≤ S.size ∧ Hid (t = i + j) ∧ Hid (v = dval ((Lib.decDigits p).take j)) ∧ v ≤ 9223372036854775807) (fun s7 _ => S.size - (intOf s7).toNat)
              case atStart => exact ⟨i, 0, 0, rfl, rfl, Nat.zero_le _, hiS, Lib.hid rfl, Lib.hid rfl, by omega⟩
              case round =>
                clear his hb0 h48 h57 h48' h57'
                obtain ⟨t, j, v, rfl, rfl, hj, htS, HTJ, HV, hv⟩ := hrel
                by_cases hjm : j < m
                · obtain ⟨hts, b, hb, h48, h57, hv1, hv2⟩ := HDIG.out t j v HTJ.out HV.out hjm
                  have HV1 := Lib.hid hv1
                  have h48' : (48 : Int) ≤ (b.toNat : Int) := by omega
                  have h57' : (b.toNat : Int) ≤ 57 := by omega
                  have hv3 : (v : Int) * 10 + ((b.toNat : Int) - 48) ≤ 9223372036854775807 := by omega
                  have hv4 : (v : Int) * 10 ≤ 9223372036854775807 := by omega
                  clear hv1 hv2
                  go_wp2_with fail
                  go_round
                  case rel => exact ⟨t + 1, j + 1, v * 10 + (b.toNat - 48), by go_num, by go_num, by omega, by omega, Lib.hid (by rw [HTJ.out]; omega), Lib.hid HV1.out, by omega⟩
                  case measure => simp [intOf]; omega
                · obtain rfl : j = m := by omega
                  obtain rfl : v = p := by rw [HV.out, ← HM.out, dval_all]
                  have tvv : ((v : Int) != (v : Int)) = false := by simp
                  by_cases hlast : kk + 1 = k
                  · have hre := st_last HST.out HPK.out (by rw [HPL.out]; exact hlast)
                    rw [HM.out, ← HTJ.out] at hre
                    have hex := rest_str hre
                    have HRE := Lib.hid hre
                    have tq : (a1.toList == a1.toList) = true := by simp
                    have tk : ((kk : Int) + 1 == (k : Int)) = true := by simp; omega
                    clear hre
                    by_cases htl : t < S.size
                    · have h45 := rest_head HRE.out HPRE.out htl
                      obtain ⟨b, hb⟩ : ∃ b, S[t] = b := ⟨_, rfl⟩
                      rw [hb] at h45
                      have h48' : ¬ (48 : Int) ≤ (b.toNat : Int) := by omega
                      have h46' : ((b.toNat : Int) == 46) = false := by simp; omega
                      clear h45
                      go_wp2_with fail
                      go_ret
                      exact ⟨rfl, HB2.out⟩
                    · go_wp2_with fail
                      go_ret
                      exact ⟨rfl, HB2.out⟩
                  · obtain ⟨⟨htl, h46⟩, hst⟩ := st_more HST.out HPK.out (by rw [HPL.out]; exact hlast)
                    rw [HM.out] at hst
                    simp only [HM.out, ← HTJ.out] at htl h46 hst
                    have HST2 := Lib.hid hst
                    obtain ⟨b, hb⟩ : ∃ b, S[t] = b := ⟨_, rfl⟩
                    have hb46 : b = 46 := by rw [← hb]; exact h46
                    subst hb46
                    clear hst h46
                    go_wp2_with fail
                    exact ⟨⟨t + 1, kk + 1, by go_num, by go_num, by omega, by omega, HST2⟩, by simp [intOf]; omega⟩
        · have hd' : ((b.toNat : Int) != 45) = true := by simp; omega
          go_wp2_with fail
          go_ret
          exact ⟨rfl, Below.refl _ _⟩
theorem of_laid {w : World} (hL : laidMetH Tryd.prog Rows.fnSemverStringParsesBackRow.laid w) : Tab w := by
  have hL' : laidMet Tryd.prog Rows.fnSemverStringParsesBackRow.laid w := hL
  have e1 : (Rows.laid_internal_strconv_uint64pow10 : DataW Unit) = Lib.tabData .u64 Lib.pow10Tab := by kernel_rfl
  have m1 : ("internal/strconv.uint64pow10", Lib.tabData .u64 Lib.pow10Tab) ∈ Rows.fnSemverStringParsesBackRow.laid := by rw [← e1]; exact .tail _ (.tail _ (.head _))
  obtain ⟨g, t, cs, fuel, p, hg, hty, hvar, hd⟩ := Lib.laidMet.reads hL' m1
  obtain rfl := Option.some.inj ((show Tryd.prog.globalNamed "internal/strconv.uint64pow10" = some 0 by kernel_rfl).symm.trans hg)
  obtain rfl := Option.some.inj ((show (Tryd.prog.globals[0]?).map (·.type) = some 54 by kernel_rfl).symm.trans hty)
  unfold Tab Lib.TabIs
  rw [hvar]
  have hc := Lib.cells_of_tab Tryd.underlying54 Tryd.underlying47 (by kernel_rfl) (by kernel_rfl) hd
  congr 1
  exact Array.ext' (by rw [hc])
end Go.Proofs.YtpagdibnhdfbfadDoor.SeC
