/- smallIntToBytes. -/
import Derived.Test.YtboeigdmccafhaaRows
import Derived.Test.YtboeigdmccafhaaMem
import Derived.Test.YtboeigdmccafhaaSl
import Derived.Test.YtboeigdmccafhaaOwn
import Derived.Test.YtboeigdmccafhaaDig
import Derived.OwnWalk
import Derived.WalkKit
import Derived.ProofKit
import Derived.OpenShut
import Derived.Below
import Derived.WalkLawsBesides
import Derived.Lib.Hide
import Derived.Outline
import Derived.RegionTactic
import Derived.Deep.QuietTactic
import Derived.BigQuiet
import Derived.WalkSpells
import Derived.Deep.OwnRows
import Derived.IntWalk
import Derived.Deep.DeepMust
namespace Go.Proofs.Ytboeigdmccafhaa.SiB
open Go.RowKit Mem Sl
set_option linter.unusedVariables false
open Own Dig

/-- From cell 71 + st on the buffer holds the digits acc. -/
def Buf (zs : List Value) (st : Nat) (acc : List Nat) : Prop := zs.length = 139 ∧ ∀ (i d : Nat), acc[i]? = some d → zs[71 + st + i]? = some (.int .u8 ((48 + d : Nat) : Int))
theorem Buf.push {zs : List Value} {st d : Nat} {acc : List Nat} (h : Buf zs (st + 1) acc) (hs : st < 64) : Buf (zs.set (71 + st) (.int .u8 ((48 + d : Nat) : Int))) st (d :: acc) := by
  refine ⟨by simp [h.1], fun i e he => ?_⟩
  cases i with
  | zero =>
    simp at he
    subst he
    have := h.1
    rw [Nat.add_zero, List.getElem?_set_self (by omega)]
  | succ i =>
    have h2 := h.2 i e (by simpa using he)
    rw [List.getElem?_set_ne (by omega), ← h2]
    congr 1
    omega
def Rl (w : World) (p Nn : Nat) (s1 s7 : Value) (wr : World) : Prop :=
  ∃ (m st : Nat) (acc : List Nat) (zs : List Value) (wv : World), wv = wr ∧ s1 = .int .i64 m ∧ s7 = .int .i64 st ∧ st + acc.length = 64 ∧ digs Nn = digs m ++ acc ∧ m ≤ 9223372036854775807 ∧ Row wr p 75 zs ∧ Buf zs st acc ∧ w.grownBy wr (some p)
/-- What smallIntToBytes gives: the bytes xs at the buffer's end. -/
def SiP (w : World) (p : Nat) (xs : List Nat) (e : Ending) (w' : World) : Prop :=
  ∃ t, t + xs.length = 64 ∧ e = .returned (.slice (some ⟨p, 71 + t, none⟩) xs.length xs.length) ∧ (∀ (i d : Nat), xs[i]? = some d → w'.cell? ⟨p, 71 + t + i, none⟩ = some (.int .u8 (d : Int))) ∧ w.grownBy w' (some p)
def asc (ds : List Nat) : List Nat := ds.map (48 + ·)
theorem buf_asc {zs : List Value} {st : Nat} {acc : List Nat} (h : Buf zs st acc) (i d : Nat) (hd : (asc acc)[i]? = some d) : zs[71 + st + i]? = some (.int .u8 (d : Int)) := by
  unfold asc at hd
  rw [List.getElem?_map] at hd
  obtain ⟨e, he, rfl⟩ := Option.map_eq_some_iff.1 hd
  exact h.2 i e he
set_option maxHeartbeats 4000000 in
theorem si8 (p n : Nat) (w : World) (ys : List Value) (hr : Row w p 75 ys) (hy : ys.length = 139) (hn : n ≤ 9223372036854775807) :
    Calls Try.prog 8 #[.pointer (some ⟨p, 0, none⟩), .int .i64 n] w (SiP w p (asc (digs n))) := by
  have hlen := digs_len 18 n (by omega)
  have HR := Lib.hid hr
  have HLN := Lib.hid hlen
  have HY := Lib.hid hy
  clear hr hlen hy
  go_enter Try.func8, Try.ntmps8
  go_wp2_with fail
  go_loopw [1, 7] (fun s1 s7 wr => Rl w p n s1 s7 wr) (fun s1 _ _ => (intOf s1).toNat)
  case atStart => exact ⟨n, 64, [], ys, _, rfl, rfl, rfl, rfl, by simp, hn, HR.out, ⟨HY.out, fun i d h => by simp at h⟩, grown_refl _ _⟩
  case round =>
    obtain ⟨m, st, acc, zs, wx, rfl, rfl, rfl, hst, hdg, hm, hrow, hbuf, hgr⟩ := hrel
    have hal : acc.length ≤ 18 := by
      have h1 := HLN.out
      have h2 : 0 < (digs m).length := by
        by_cases h : m < 10
        · rw [digs_lt h]; simp
        · rw [digs_ge h]; simp
      rw [hdg] at h1
      simp at h1
      omega
    obtain ⟨t, rfl⟩ : ∃ t, st = t + 1 := ⟨st - 1, by omega⟩
    obtain ⟨u, hu⟩ : ∃ u, zs[71 + t]? = some u := ⟨zs[71 + t]'(by have := hbuf.1; omega), by simp⟩
    have hcell := hrow.at_ hu
    have hfz := hrow.frozen (71 + t)
    have HROW := Lib.hid hrow
    have HBUF := Lib.hid hbuf
    have HGR := Lib.hid hgr
    have HDG := Lib.hid hdg
    have HU := Lib.hid hu
    clear hrow hbuf hgr hdg hu
    have HP := Lib.hid (show Buf (zs.set (71 + t) (.int .u8 ((48 + m % 10 : Nat) : Int))) t (m % 10 :: acc) from HBUF.out.push (by omega))
    have hv : ((48 + m % 10 : Nat) : Int) = 48 + (m : Int) % 10 := by omega
    rw [hv] at HP
    clear hv
    by_cases hz : m / 10 = 0
    · have tz : ((m : Int) / 10 == 0) = true := by simp; omega
      have HD := Lib.hid ((back_step HDG.out).1 hz)
      clear hz
      go_wp2_with fail
      go_ret
      refine ⟨t, by rw [HD.out]; simp [asc]; omega, ?_, ?_, grown_set HGR.out _ _⟩
      · rw [HD.out]; simp [asc]; omega
      · intro i d hd
        rw [HD.out] at hd
        exact (HROW.out.set (71 + t) _).at_ (buf_asc HP.out i d hd)
    · have tz : ((m : Int) / 10 == 0) = false := by simp; omega
      have HD := Lib.hid ((back_step HDG.out).2 hz)
      have hz' : 10 ≤ m := by omega
      clear hz
      go_wp2_with fail
      go_roundw
      case rel => exact ⟨m / 10, t, m % 10 :: acc, _, _, rfl, by simp, rfl, by simp; omega, HD.out, by omega, HROW.out.set (71 + t) _, HP.out, grown_set HGR.out _ _⟩
      case measure => simp [intOf]; omega
set_option maxHeartbeats 4000000 in
theorem si8n (p n : Nat) (w : World) (ys : List Value) (hr : Row w p 75 ys) (hy : ys.length = 139) (hn : n ≤ 9223372036854775807) (hn0 : 0 < n) :
    Calls Try.prog 8 #[.pointer (some ⟨p, 0, none⟩), .int .i64 (-(n : Int))] w (SiP w p (45 :: asc (digs n))) := by
  have hlen := digs_len 18 n (by omega)
  have HR := Lib.hid hr
  have HLN := Lib.hid hlen
  have HY := Lib.hid hy
  clear hr hlen hy
  have tn : decide (-(n : Int) < 0) = true := by simp; omega
  go_enter Try.func8, Try.ntmps8
  go_wp2_with fail
  go_loopw [1, 7] (fun s1 s7 wr => Rl w p n s1 s7 wr) (fun s1 _ _ => (intOf s1).toNat)
  case atStart => exact ⟨n, 64, [], ys, _, rfl, rfl, rfl, rfl, by simp, hn, HR.out, ⟨HY.out, fun i d h => by simp at h⟩, grown_refl _ _⟩
  case round =>
    obtain ⟨m, st, acc, zs, wx, rfl, rfl, rfl, hst, hdg, hm, hrow, hbuf, hgr⟩ := hrel
    have hal : acc.length ≤ 18 := by
      have h1 := HLN.out
      have h2 : 0 < (digs m).length := by
        by_cases h : m < 10
        · rw [digs_lt h]; simp
        · rw [digs_ge h]; simp
      rw [hdg] at h1
      simp at h1
      omega
    obtain ⟨t, rfl⟩ : ∃ t, st = t + 1 := ⟨st - 1, by omega⟩
    obtain ⟨u, hu⟩ : ∃ u, zs[71 + t]? = some u := ⟨zs[71 + t]'(by have := hbuf.1; omega), by simp⟩
    have hcell := hrow.at_ hu
    have hfz := hrow.frozen (71 + t)
    have HROW := Lib.hid hrow
    have HBUF := Lib.hid hbuf
    have HGR := Lib.hid hgr
    have HDG := Lib.hid hdg
    have HU := Lib.hid hu
    clear hrow hbuf hgr hdg hu
    have HP := Lib.hid (show Buf (zs.set (71 + t) (.int .u8 ((48 + m % 10 : Nat) : Int))) t (m % 10 :: acc) from HBUF.out.push (by omega))
    have hv : ((48 + m % 10 : Nat) : Int) = 48 + (m : Int) % 10 := by omega
    rw [hv] at HP
    clear hv
    by_cases hz : m / 10 = 0
    · have tz : ((m : Int) / 10 == 0) = true := by simp; omega
      have HD := Lib.hid ((back_step HDG.out).1 hz)
      clear hz
      obtain ⟨t', rfl⟩ : ∃ t', t = t' + 1 := ⟨t - 1, by omega⟩
      have HR2 := Lib.hid (HROW.out.set (71 + (t' + 1)) (.int .u8 (48 + (m : Int) % 10)))
      obtain ⟨u2, hu2⟩ : ∃ u2, (zs.set (71 + (t' + 1)) (.int .u8 (48 + (m : Int) % 10)))[71 + t']? = some u2 := ⟨_, List.getElem?_eq_getElem (by have := HBUF.out.1; simp; omega)⟩
      have hc2 := HR2.out.at_ hu2
      have hf2 := HR2.out.frozen (71 + t')
      have HB2 := Lib.hid HP.out
      clear hu2
      go_wp2_with fail
      go_ret
      refine ⟨t', by rw [HD.out]; simp [asc]; omega, ?_, ?_, grown_set (grown_set HGR.out _ _) _ _⟩
      · rw [HD.out]; simp [asc]; omega
      · intro i d hd
        have hr3 := HR2.out.set (71 + t') (.int .u8 45)
        have hl2 := HB2.out.1
        cases i with
        | zero =>
          simp at hd
          subst hd
          exact hr3.at_ (i := 71 + t') (by rw [List.getElem?_set_self (by omega)]; rfl)
        | succ i =>
          rw [HD.out] at hd
          refine hr3.at_ ?_
          rw [List.getElem?_set_ne (by omega), ← buf_asc HB2.out i d (by simpa using hd)]
          congr 1
          omega
    · have tz : ((m : Int) / 10 == 0) = false := by simp; omega
      have HD := Lib.hid ((back_step HDG.out).2 hz)
      have hz' : 10 ≤ m := by omega
      clear hz
      go_wp2_with fail
      go_roundw
      case rel => exact ⟨m / 10, t, m % 10 :: acc, _, _, rfl, by simp, rfl, by simp; omega, HD.out, by omega, HROW.out.set (71 + t) _, HP.out, grown_set HGR.out _ _⟩
      case measure => simp [intOf]; omega
end Go.Proofs.Ytboeigdmccafhaa.SiB
