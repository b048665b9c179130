/- FnMultiLineCommaPeriodCaseTable: the children, the folding, the classes. -/
import Derived.Test.YtdplbdfaeighlaaDoorRows
import Derived.Test.YtdplbdfaeighlaaDoorMem
import Derived.Test.YtdplbdfaeighlaaDoorSl
import Derived.Test.YtdplbdfaeighlaaDoorOwn
import Derived.Test.YtdplbdfaeighlaaDoorFold
import Derived.Test.YtdplbdfaeighlaaDoorStr
import Derived.OwnWalk
import Derived.Deep.MidRow
import Derived.Great.BuildSlice
import Derived.WalkKit
import Derived.ProofKit
import Derived.OpenShut
import Derived.Below
import Derived.WalkLawsBesides
import Derived.Lib.Hide
import Derived.Outline
import Derived.RegionTactic
import Derived.Deep.QuietTactic
import Derived.BigQuiet
import Derived.WalkSpells
import Derived.Deep.OwnRows
import Derived.IntWalk
import Derived.Deep.DeepMust
namespace Go.Proofs.YtdplbdfaeighlaaDoor.McA
open Go.RowKit Mem Sl
set_option linter.unusedVariables false
open Own Args

set_option maxHeartbeats 1000000 in
theorem bytes4 (y0 : Bool) (y1 : ByteArray) (A2 : Option Addr) (n2 c2 : Nat) (w : World) (m1 : y1.size ≤ maxLen) (m2 : n2 ≤ maxLen) : Calls Tryd.prog 4 #[.bool y0, .string y1, .slice A2 n2 c2] w fun e w' => e = .returned (.bool (decide (y1.size + n2 ≤ 1048576))) ∧ w = w' := by
  unfold maxLen at *
  by_cases h0 : y1.size ≤ 1048576
  case neg =>
    go_enter Tryd.func4, Tryd.ntmps4
    go_wp2_with fail
    go_ret
    exact ⟨congrArg (fun b => Ending.returned (Value.bool b)) (show false = decide (y1.size + n2 ≤ 1048576) by symm; simp; omega), rfl⟩
  by_cases h1 : n2 ≤ 1048576
  case neg =>
    go_enter Tryd.func4, Tryd.ntmps4
    go_wp2_with fail
    go_ret
    exact ⟨congrArg (fun b => Ending.returned (Value.bool b)) (show false = decide (y1.size + n2 ≤ 1048576) by symm; simp; omega), rfl⟩
  by_cases g1 : y1.size + n2 ≤ 1048576
  case neg =>
    go_enter Tryd.func4, Tryd.ntmps4
    go_wp2_with fail
    go_ret
    exact ⟨congrArg (fun b => Ending.returned (Value.bool b)) (show false = decide (y1.size + n2 ≤ 1048576) by symm; simp; omega), rfl⟩
  go_enter Tryd.func4, Tryd.ntmps4
  go_wp2_with fail
  go_ret
  exact ⟨congrArg (fun b => Ending.returned (Value.bool b)) (show true = decide (y1.size + n2 ≤ 1048576) by symm; simp; omega), rfl⟩

def kd (z : Int) : Int := if z % 4 = 0 then 10 else if z % 4 = 1 then 29 else if z % 4 = 2 then 38 else 27
def tx (z : Int) : ByteArray := if z % 4 = 0 then ⟨#[44]⟩ else if z % 4 = 1 then ⟨#[97]⟩ else if z % 4 = 2 then ⟨#[32]⟩ else ⟨#[102]⟩
/-- The cells of a token. -/
def tk (t : ByteArray) (k : Int) : List Value := [.pointer none, .string t, .int .i32 0, .int .u32 0, .int .u16 0, .int .u8 k, .int .u8 0]
theorem info35 : (Tryd.prog.info? 35).map (fun i => (i.zero, i.size, i.bytes)) = some (some (.agg #[.pointer none, .string ByteArray.empty, .int .i32 0, .int .u32 0, .int .u16 0, .int .u8 0, .int .u8 0]), 7, 40) := by kernel_rfl
set_option maxHeartbeats 1000000 in
theorem child9 (z : Int) (w : World) (h0 : 0 ≤ z) (h1 : z ≤ 255) : Calls Tryd.prog 9 #[.int .u8 z] w fun e w' => e = .returned (.agg #[.pointer none, .string (tx z), .int .i32 0, .int .u32 0, .int .u16 0, .int .u8 (kd z), .int .u8 0]) ∧ Below w.heap.size w w' := by
  have hc : z % 4 = 0 ∨ z % 4 = 1 ∨ z % 4 = 2 ∨ z % 4 = 3 := by omega
  rcases hc with hc | hc | hc | hc
  all_goals
    have hk : kd z = (if z % 4 = 0 then 10 else if z % 4 = 1 then 29 else if z % 4 = 2 then 38 else 27) := rfl
    have hx : tx z = (if z % 4 = 0 then ⟨#[44]⟩ else if z % 4 = 1 then ⟨#[97]⟩ else if z % 4 = 2 then ⟨#[32]⟩ else ⟨#[102]⟩) := rfl
    rw [hc] at hk hx
    simp at hk hx
    have t0 : ∃ b, ((z % 4 : Int) == 0) = b := ⟨_, rfl⟩
    have t1 : ∃ b, ((z % 4 : Int) == 1) = b := ⟨_, rfl⟩
    have t2 : ∃ b, ((z % 4 : Int) == 2) = b := ⟨_, rfl⟩
    obtain ⟨b0, t0⟩ := t0
    obtain ⟨b1, t1⟩ := t1
    obtain ⟨b2, t2⟩ := t2
    have u0 := t0
    have u1 := t1
    have u2 := t2
    rw [hc] at u0 u1 u2
    simp at u0 u1 u2
    subst u0 u1 u2
    have HK := Lib.hid hk
    have HX := Lib.hid hx
    clear hk hx hc
    go_enter Tryd.func9, Tryd.ntmps9
    go_wp2
    rw [HK.out, HX.out]
    refine bodyPost_ret (v := .agg #[_, _, _, _, _, _, _]) (by simp [results, Tryd.results9, go_sem]) rfl ⟨rfl, ?_⟩
    (repeat (first | exact Below.refl _ _ | apply Below.drew | apply below_drewN | (refine Below.alloc ?_ (by simp <;> omega) _) | (refine Below.setCell ?_ (by simp <;> omega) _)))
def tks (zs : List Int) : List Value := zs.flatMap fun z => tk (tx z) (kd z)
theorem tks_len (zs : List Int) : (tks zs).length = zs.length * 7 := by
  induction zs with
  | nil => rfl
  | cons a l ih => simp [tks, tk] at ih ⊢; omega
theorem tks_snoc (zs : List Int) (k : Nat) (h : k < zs.length) : tks (zs.take (k + 1)) = tks (zs.take k) ++ tk (tx (zs.getD k 0)) (kd (zs.getD k 0)) := by
  have e : zs[k]? = some (zs.getD k 0) := by simp [List.getD, h]
  rw [List.take_add_one, e]
  simp only [Option.toList_some, tks, List.flatMap_append]
  simp
theorem tks_at (zs : List Int) (k j : Nat) (h : k < zs.length) (hj : j < 7) : (tks zs)[k * 7 + j]? = (tk (tx (zs.getD k 0)) (kd (zs.getD k 0)))[j]? := by
  induction zs generalizing k with
  | nil => simp at h
  | cons a l ih =>
    have e0 : tks (a :: l) = tk (tx a) (kd a) ++ tks l := rfl
    rw [e0]
    cases k with
    | zero => rw [List.getElem?_append_left (by simpa [tk] using hj)]; simp
    | succ k =>
      rw [List.getElem?_append_right (by simp [tk]; omega)]
      have e : (k + 1) * 7 + j - (tk (tx a) (kd a)).length = k * 7 + j := by simp [tk]; omega
      rw [e, ih k (by simpa using h)]
      simp
/-- How many commas stand among the children. -/
def cms : List Int → Nat
  | [] => 0
  | z :: zs => (if z % 4 = 0 then 1 else 0) + cms zs
theorem cms_append (a b : List Int) : cms (a ++ b) = cms a + cms b := by
  induction a with
  | nil => simp [cms]
  | cons x a ih => simp [cms, ih]; omega
theorem cms_snoc (zs : List Int) (k : Nat) (h : k < zs.length) : cms (zs.take (k + 1)) = cms (zs.take k) + if zs.getD k 0 % 4 = 0 then 1 else 0 := by
  have e : zs[k]? = some (zs.getD k 0) := by simp [List.getD, h]
  rw [List.take_add_one, e, cms_append]
  simp [cms]
theorem cms_le (zs : List Int) : cms zs ≤ zs.length := by
  induction zs with
  | nil => simp [cms]
  | cons x a ih => simp [cms]; split <;> omega
theorem owns_below {w w' : World} {base B : Nat} {E : TypeId} {size n : Nat} {v : Value} {xs : List Value} (h : w.ownsRow base E size v n xs) (hb : Below B w w') (hB : w.heap.size ≤ B) : w'.ownsRow base E size v n xs := by
  refine ⟨h.1, ?_⟩
  rcases h.2 with h0 | ⟨g, cap, cur, rfl, a, hh, b⟩
  · exact .inl h0
  · exact .inr ⟨g, cap, cur, rfl, a, (hb.block g (Nat.lt_of_lt_of_le (Array.getElem?_eq_some_iff.1 hh).1 hB)).trans hh, b⟩
def Kids (w : World) (n : Nat) (zs : List Int) (e : Ending) (w' : World) : Prop :=
  e = .returned (.tuple #[.slice (some ⟨w.heap.size, 0, none⟩) n n, .int .i64 (cms zs : Nat)]) ∧ w'.ownsRow w.heap.size 35 7 (.slice (some ⟨w.heap.size, 0, none⟩) n n) n (tks zs) ∧ Below w.heap.size w w'
set_option maxHeartbeats 2000000 in
theorem kids5 (A : Option Addr) (n c : Nat) (zs : List Int) (w : World) (h : Args.IsInts .u8 w A n c zs) (hn : n ≤ 65536) :
    Calls Tryd.prog 5 #[.slice A n c] w (Kids w n zs) := by
  obtain ⟨i35, hi35, hz35⟩ := Option.map_eq_some_iff.1 info35
  simp only [Prod.mk.injEq] at hz35
  obtain ⟨hz, hs, hb⟩ := hz35
  have hlen := h.2.2.1
  have hwf := h.2.2.2.1
  have R := Lib.hid (fun k => h.read k)
  have WF := Lib.hid hwf
  have HZ := Lib.hid hz
  have HS := Lib.hid hs
  have HBY := Lib.hid hb
  have HI := Lib.hid hi35
  clear h hz hs hb hi35 hwf
  go_enter Tryd.func5, Tryd.ntmps5
  go_wp2_with (refine wpList_make_own _ rfl _ _ 24 rfl w.heap.size 35 i35 _ 7 Tryd.underlying24 HI.out HZ.out HS.out .i64 .i64 _ n rfl rfl rfl (by rw [HBY.out]; omega) (by unfold maxLen; omega) (Nat.le_refl _) ?_; intro w0 hown0 hgr0; have HO0 := Lib.hid hown0; have HG0 := Lib.hid hgr0; clear hown0 hgr0)
  have HB0 := Lib.hid (show Below w.heap.size w w0 from ⟨HG0.out.os, HG0.out.tape, HG0.out.output, HG0.out.size, fun i hi => HG0.out.block i hi (by intro e; cases e)⟩)
  go_loopw [4, 5, 6] (fun v cm i wr => ∃ k : Nat, k ≤ n ∧ i = .int .i64 k ∧ v = .slice (some ⟨w.heap.size, 0, none⟩) k n ∧ cm = .int .i64 (cms (zs.take k) : Nat) ∧ wr.ownsRow w.heap.size 35 7 (.slice (some ⟨w.heap.size, 0, none⟩) k n) k (tks (zs.take k)) ∧ Below w.heap.size w wr) (fun _ _ i _ => n - (intOf i).toNat)
  case atStart => exact ⟨0, Nat.zero_le _, rfl, rfl, rfl, HO0.out, HB0.out⟩
  case round =>
    obtain ⟨k, hk, rfl, rfl, rfl, hown, hbel⟩ := hrel
    clear HO0 HG0 HB0
    by_cases hlt : k < n
    · obtain ⟨b, o, ha, hb, hc⟩ := R.out k hlt
      subst ha
      have d0 := cell_later hbel hc
      have HSN := Lib.hid (tks_snoc zs k (by omega))
      have HCM := Lib.hid (cms_snoc zs k (by omega))
      have hcl := cms_le (zs.take k)
      rw [List.length_take] at hcl
      have hcl2 : cms (zs.take k) ≤ 65536 := by omega
      obtain ⟨x0, x1⟩ := bounds_u8 (WF.out (zs.getD k 0) (by rw [getD_at zs k (by omega)]; exact List.getElem_mem _))
      obtain ⟨x, hx⟩ : ∃ x, x = zs.getD k 0 := ⟨_, rfl⟩
      rw [← hx] at d0 HSN HCM x0 x1
      obtain ⟨m, hm⟩ : ∃ m, m = cms (zs.take k) := ⟨_, rfl⟩
      rw [← hm] at HCM hcl2 ⊢
      have HOWN := Lib.hid hown
      have HBQ := Lib.hid hbel
      clear hown hbel hc hx hcl hm
      by_cases h4 : x % 4 = 0
      all_goals
        obtain ⟨tb, t0⟩ : ∃ tb, ((x % 4 : Int) == 0) = tb := ⟨_, rfl⟩
        have u0 : decide (x % 4 = 0) = tb := t0
        simp only [h4, decide_true, decide_false] at u0
        subst u0
        have H4 := Lib.hid h4
        clear h4
        go_wp2_with fail
        refine (child9 x _ x0 (by omega)).mono ?_
        rintro e w1 ⟨rfl, hb1⟩
        have hown1 := owns_below HOWN.out hb1 (Nat.le_refl _)
        have hbel1 := HBQ.out.trans (hb1.mono HBQ.out.size)
        have ha2 : Below w1.heap.size w1 (w1.alloc (.cells #[.pointer none, .string (tx x), .int .i32 0, .int .u32 0, .int .u16 0, .int .u8 (kd x), .int .u8 0] 35)) := (Below.refl _ _).alloc (Nat.le_refl _) _
        have hown2 := owns_below hown1 ha2 (Nat.le_refl _)
        have hbel2 := hbel1.trans (ha2.mono hbel1.size)
        have hrow := Row.newArr w1 35 #[.pointer none, .string (tx x), .int .i32 0, .int .u32 0, .int .u16 0, .int .u8 (kd x), .int .u8 0]
        have HO2 := Lib.hid hown2
        have HB2 := Lib.hid hbel2
        have HR := Lib.hid hrow
        have hnews : ∀ j u, (tk (tx x) (kd x))[j]? = some u → (w1.alloc (.cells #[.pointer none, .string (tx x), .int .i32 0, .int .u32 0, .int .u16 0, .int .u8 (kd x), .int .u8 0] 35)).cell? ((⟨w1.heap.size, 0, none⟩ : Addr).add j) = some u := by
          intro j u hu
          rw [Addr.add_mid]
          simpa using HR.out.at_ (i := j) (by simpa [tk] using hu)
        have hone : ∀ u ∈ tk (tx x) (kd x), u.oneCell' = true := by simp [tk, Value.oneCell']
        have HNW := Lib.hid hnews
        have HON := Lib.hid hone
        clear hown1 hbel1 ha2 hown2 hbel2 hb1 hrow hnews hone
        go_wp2_with (refine wpList_append_fits _ rfl _ _ 24 rfl w.heap.size 35 i35 7 Tryd.underlying24 HI.out HS.out w.heap.size k n (tks (zs.take k)) rfl HO2.out ⟨w1.heap.size, 0, none⟩ 1 1 (tk (tx x) (kd x)) rfl rfl HNW.out HON.out (by omega) ?_; intro w3 hown3 hgr3; rw [← HSN.out] at hown3; have HO3 := Lib.hid hown3; have HB3 := Lib.hid (HB2.out.trans (grown_below hgr3 (Nat.le_refl _) HB2.out.size)); clear hown3 hgr3)
        go_roundw
        case rel => exact ⟨k + 1, by omega, by go_num, rfl, by rw [HCM.out]; first | rw [if_pos H4.out]; go_num | rw [if_neg H4.out]; go_num, HO3.out, HB3.out⟩
        case measure => simp [intOf]; omega
    · obtain rfl : k = n := by omega
      have hfull : zs.take k = zs := List.take_of_length_le (by omega)
      rw [hfull] at hown ⊢
      have HO := Lib.hid hown
      have HB := Lib.hid hbel
      clear hown hbel hfull
      go_wp2
      go_ret2
      exact ⟨rfl, HO.out, HB.out⟩
theorem idx (s : ByteArray) (i : Nat) (h : i < s.size) (w : World) : (Instr.index 9 (.string s) (.int .i64 (i : Int))).run Tryd.prog w = .ok (.int .u8 ((Dec.by_ s i : Nat) : Int)) w := by
  rw [Dec.by_at s i h]
  simp [go_sem, h]
theorem idx1 (s : ByteArray) (i : Nat) (h : i + 1 < s.size) (w : World) : (Instr.index 9 (.string s) (.int .i64 ((i : Int) + 1))).run Tryd.prog w = .ok (.int .u8 ((Dec.by_ s (i + 1) : Nat) : Int)) w := idx s (i + 1) h w
/-- A list of bytes as numbers. -/
def bn (D : List UInt8) : List Int := D.map fun b => (b.toNat : Int)
theorem bn_snoc (D : List UInt8) (b : UInt8) : bn (D ++ [b]) = bn D ++ [(b.toNat : Int)] := by simp [bn]
theorem bn_len (D : List UInt8) : (bn D).length = D.length := by simp [bn]
theorem bn_wf (D : List UInt8) : ∀ z ∈ bn D, (Lit.int .u8 z).wf = true := by
  intro z hz
  simp only [bn, List.mem_map] at hz
  obtain ⟨b, _, rfl⟩ := hz
  have := b.toNat_lt
  exact WalkArith.wf_u8 (by omega)
theorem bn_bytes (D : List UInt8) : Str.bytesOf (bn D) = ⟨D.toArray⟩ := by
  unfold Str.bytesOf bn
  congr 2
  rw [List.map_map]
  conv => rhs; rw [← List.map_id D]
  apply List.map_congr_left
  intro b _
  simp
/-- What the law's own folding answers. -/
def FoldIs (l : List UInt8) (R : ByteArray) (ok : Bool) : Prop := (ok = true ∧ Fold.foldN l = some R.data.toList) ∨ (ok = false ∧ Fold.foldN l = none)
/-- At the head of a round: k bytes are folded to D. -/
def At (s : ByteArray) (k : Nat) (D : List UInt8) : Prop := D.length ≤ k ∧ Fold.foldN s.data.toList = (Fold.foldN (s.data.toList.drop k)).map (D ++ ·)
theorem at_zero (s : ByteArray) : At s 0 [] := ⟨by simp, by simp⟩
theorem drop_at (s : ByteArray) (k : Nat) (h : k < s.size) : s.data.toList.drop k = (s[k]'h) :: s.data.toList.drop (k + 1) := by
  rw [List.drop_eq_getElem_cons (by simpa using h)]
  rfl
theorem low_up (b : UInt8) (h1 : 65 ≤ b.toNat) (h2 : b.toNat ≤ 90) : ((Lib.lowerB b).toNat : Int) = (b.toNat : Int) + 32 := by
  unfold Lib.lowerB Lib.isUpperB
  rw [if_pos (by simp [UInt8.le_iff_toNat_le]; omega)]
  simp [UInt8.toNat_add]
  omega
theorem low_no (b : UInt8) (h : b.toNat < 65 ∨ 90 < b.toNat) : ((Lib.lowerB b).toNat : Int) = (b.toNat : Int) := by
  unfold Lib.lowerB Lib.isUpperB
  rw [if_neg (by simp [UInt8.le_iff_toNat_le]; omega)]
theorem At.ascii {s : ByteArray} {k : Nat} {D : List UInt8} (h : At s k D) (hk : k < s.size) (ha : Dec.by_ s k < 128) : At s (k + 1) (D ++ [Lib.lowerB (s[k]'hk)]) := by
  obtain ⟨h1, h2⟩ := h
  refine ⟨by simp; omega, ?_⟩
  rw [h2, drop_at s k hk, Fold.foldN_ascii _ _ (by rw [← Dec.by_at s k hk]; exact ha), Option.map_map]
  congr 1
  funext x
  simp
theorem At.dot {s : ByteArray} {k : Nat} {D : List UInt8} (h : At s k D) (hk : k + 1 < s.size) (ha : Dec.by_ s k = 196) (hb : Dec.by_ s (k + 1) = 176) : At s (k + 2) (D ++ [105]) := by
  obtain ⟨h1, h2⟩ := h
  refine ⟨by simp; omega, ?_⟩
  have e0 : s[k] = 196 := UInt8.toNat_inj.1 (by rw [← Dec.by_at s k (by omega), ha]; rfl)
  have e1 : s[k + 1] = 176 := UInt8.toNat_inj.1 (by rw [← Dec.by_at s (k + 1) hk, hb]; rfl)
  rw [h2, drop_at s k (by omega), drop_at s (k + 1) hk, e0, e1, Fold.foldN_dot, Option.map_map]
  congr 1
  funext x
  simp
theorem At.bad {s : ByteArray} {k : Nat} {D : List UInt8} (h : At s k D) (hk : k < s.size) (ha : 128 ≤ Dec.by_ s k) (hb : ¬ (Dec.by_ s k = 196 ∧ k + 1 < s.size ∧ Dec.by_ s (k + 1) = 176)) : Fold.foldN s.data.toList = none := by
  obtain ⟨h1, h2⟩ := h
  rw [h2, drop_at s k hk, Fold.foldN_bad _ _ (by rw [← Dec.by_at s k hk]; exact ha), Option.map_none]
  rintro ⟨t, e⟩
  injection e with e0 e1
  have hlt : k + 1 < s.size := by
    have := congrArg List.length e1
    simp at this
    have hsz : s.size = s.data.toList.length := by simp
    omega
  rw [drop_at s (k + 1) hlt] at e1
  injection e1 with e1 _
  exact hb ⟨by rw [Dec.by_at s k hk, e0]; rfl, hlt, by rw [Dec.by_at s (k + 1) hlt, e1]; rfl⟩
theorem At.fin {s : ByteArray} {D : List UInt8} (h : At s s.size D) : Fold.foldN s.data.toList = some D := by
  obtain ⟨h1, h2⟩ := h
  rw [h2, List.drop_of_length_le (by simp)]
  simp [Fold.foldN]
def Folded (s : ByteArray) (w : World) (e : Ending) (w' : World) : Prop := ∃ R ok, e = .returned (.tuple #[.string R, .bool ok]) ∧ FoldIs s.data.toList R ok ∧ Below w.heap.size w w'
def Rf (s : ByteArray) (w : World) (v i : Value) (wr : World) : Prop := ∃ (k : Nat) (D : List UInt8) (wv : World), wv = wr ∧ k ≤ s.size ∧ i = .int .i64 (k : Int) ∧ At s k D ∧ Own wr w.heap.size 5 .u8 v (bn D) ∧ Below w.heap.size w wr
theorem info5 : (Tryd.prog.info? 5).map (fun i => (i.zero, i.size, i.bytes)) = some (some (.int .u8 0), 1, 1) := by kernel_rfl
set_option maxRecDepth 100000 in
set_option maxHeartbeats 4000000 in
theorem fold7 (s : ByteArray) (w : World) (hs : s.size ≤ 65536) : Calls Tryd.prog 7 #[.string s] w (Folded s w) := by
  obtain ⟨i5, hi5, hz5⟩ := Option.map_eq_some_iff.1 info5
  simp only [Prod.mk.injEq] at hz5
  obtain ⟨hz, hsz5, hb5⟩ := hz5
  have HZ := Lib.hid hz
  have HS := Lib.hid hsz5
  have HBY := Lib.hid hb5
  have HI := Lib.hid hi5
  clear hz hsz5 hb5 hi5
  go_enter Tryd.func7, Tryd.ntmps7
  go_wp2_with (refine wpList_make_own _ rfl _ _ 22 rfl w.heap.size 5 i5 _ 1 Tryd.underlying22 HI.out HZ.out HS.out .i64 .i64 _ s.size rfl rfl rfl (by rw [HBY.out]; omega) (by unfold maxLen; omega) (Nat.le_refl _) ?_; intro w0 hown0 hgr0; have HO := Lib.hid (show Own w0 w.heap.size 5 .u8 _ (bn []) from hown0); have HB := Lib.hid (show Below w.heap.size w w0 from ⟨hgr0.os, hgr0.tape, hgr0.output, hgr0.size, fun i hi => hgr0.block i hi (by intro e; cases e)⟩); clear hown0 hgr0)
  go_loopw [4, 5] (fun v i wr => Rf s w v i wr) (fun _ i _ => s.size - (intOf i).toNat)
  case atStart => exact ⟨0, [], _, rfl, Nat.zero_le _, rfl, at_zero s, HO.out, HB.out⟩
  case round =>
    obtain ⟨k, D, wx, rfl, hk, rfl, hA, hown, hbel⟩ := hrel
    clear HO HB
    by_cases hlt : k < s.size
    · have ix := idx s k hlt
      have hx255 := Dec.by_lt s k
      obtain ⟨x, hx⟩ : ∃ x, x = Dec.by_ s k := ⟨_, rfl⟩
      rw [← hx] at ix hx255
      have HX := Lib.hid hx
      have HA := Lib.hid hA
      have HOW := Lib.hid hown
      have HBQ := Lib.hid hbel
      have hDl : D.length ≤ 65536 := by have := hA.1; omega
      have hsz := hbel.size
      have hbx := (Dec.by_at s k hlt)
      have HBX := Lib.hid hbx
      clear hx hA hown hbel hbx
      by_cases h128 : x < 128
      · have t1 : decide ((x : Int) < 128) = true := by simp; omega
        have HN : ∀ y : Int, ((Lib.lowerB (s[k]'hlt)).toNat : Int) = y → ∀ v' w', Own w' w.heap.size 5 .u8 v' (bn D ++ [y]) → Below w.heap.size w w' → Rf s w v' (.int .i64 ((k : Int) + 1)) w' := by
          intro y hy v' w' ho hb
          refine ⟨k + 1, D ++ [Lib.lowerB (s[k]'hlt)], w', rfl, by omega, by go_num, HA.out.ascii hlt (by rw [← HX.out]; omega), ?_, hb⟩
          rw [bn_snoc, hy]
          exact ho
        have HNN := Lib.hid HN
        clear HN
        have hc : (65 ≤ x ∧ x ≤ 90) ∨ x < 65 ∨ (65 ≤ x ∧ 90 < x) := by omega
        rcases hc with ⟨ha, hb⟩ | ha | ⟨ha, hb⟩
        · have t2 : decide (65 ≤ (x : Int)) = true := by simp; omega
          have t3 : decide ((x : Int) ≤ 90) = true := by simp; omega
          have HY := Lib.hid (low_up (s[k]'hlt) (by rw [← HBX.out, ← HX.out]; exact ha) (by rw [← HBX.out, ← HX.out]; exact hb))
          rw [← HBX.out, ← HX.out] at HY
          go_wp2_with (refine wpList_push _ rfl _ _ 22 rfl w.heap.size 5 .u8 1 Tryd.underlying22 info5 (by decide) _ (bn D) rfl (HOW.out.alloc _) wx.heap.size (((x : Int) + 32 : Int)) rfl ((Row.newArr _ 5 _).at_ (i := 0) rfl) (by rw [bn_len]; omega) (by simp; omega) ?_; intro v' w1 hown1 hbel1; have HO1 := Lib.hid hown1; have HBL1 := Lib.hid (HBQ.out.trans ((show Below w.heap.size wx (wx.alloc _) from (Below.refl _ _).alloc hsz _).trans hbel1)); clear hown1 hbel1)
          go_roundw
          case rel => exact HNN.out _ HY.out _ _ HO1.out HBL1.out
          case measure => simp [intOf]; omega
        · have t2 : decide (65 ≤ (x : Int)) = false := by simp; omega
          have HY := Lib.hid (low_no (s[k]'hlt) (.inl (by rw [← HBX.out, ← HX.out]; exact ha)))
          rw [← HBX.out, ← HX.out] at HY
          go_wp2_with (refine wpList_push _ rfl _ _ 22 rfl w.heap.size 5 .u8 1 Tryd.underlying22 info5 (by decide) _ (bn D) rfl (HOW.out.alloc _) wx.heap.size (((x : Int) : Int)) rfl ((Row.newArr _ 5 _).at_ (i := 0) rfl) (by rw [bn_len]; omega) (by simp; omega) ?_; intro v' w1 hown1 hbel1; have HO1 := Lib.hid hown1; have HBL1 := Lib.hid (HBQ.out.trans ((show Below w.heap.size wx (wx.alloc _) from (Below.refl _ _).alloc hsz _).trans hbel1)); clear hown1 hbel1)
          go_roundw
          case rel => exact HNN.out _ HY.out _ _ HO1.out HBL1.out
          case measure => simp [intOf]; omega
        · have t2 : decide (65 ≤ (x : Int)) = true := by simp; omega
          have t3 : decide ((x : Int) ≤ 90) = false := by simp; omega
          have HY := Lib.hid (low_no (s[k]'hlt) (.inr (by rw [← HBX.out, ← HX.out]; exact hb)))
          rw [← HBX.out, ← HX.out] at HY
          go_wp2_with (refine wpList_push _ rfl _ _ 22 rfl w.heap.size 5 .u8 1 Tryd.underlying22 info5 (by decide) _ (bn D) rfl (HOW.out.alloc _) wx.heap.size (((x : Int) : Int)) rfl ((Row.newArr _ 5 _).at_ (i := 0) rfl) (by rw [bn_len]; omega) (by simp; omega) ?_; intro v' w1 hown1 hbel1; have HO1 := Lib.hid hown1; have HBL1 := Lib.hid (HBQ.out.trans ((show Below w.heap.size wx (wx.alloc _) from (Below.refl _ _).alloc hsz _).trans hbel1)); clear hown1 hbel1)
          go_roundw
          case rel => exact HNN.out _ HY.out _ _ HO1.out HBL1.out
          case measure => simp [intOf]; omega
      · have t1 : decide ((x : Int) < 128) = false := by simp; omega
        by_cases h196 : x = 196
        · subst h196
          by_cases hk1 : k + 1 < s.size
          · have ix1 := idx1 s k hk1
            obtain ⟨y, hy⟩ : ∃ y, y = Dec.by_ s (k + 1) := ⟨_, rfl⟩
            rw [← hy] at ix1
            have HY := Lib.hid hy
            clear hy
            by_cases h176 : y = 176
            · subst h176
              have HR : ∀ v' w', Own w' w.heap.size 5 .u8 v' (bn D ++ [105]) → Below w.heap.size w w' → Rf s w v' (.int .i64 ((k : Int) + 2)) w' := by
                intro v' w' ho hb
                refine ⟨k + 2, D ++ [105], w', rfl, by omega, by go_num, HA.out.dot hk1 HX.out.symm HY.out.symm, ?_, hb⟩
                rw [bn_snoc]
                exact ho
              have HRR := Lib.hid HR
              clear HR
              go_wp2_with (refine wpList_push _ rfl _ _ 22 rfl w.heap.size 5 .u8 1 Tryd.underlying22 info5 (by decide) _ (bn D) rfl (HOW.out.alloc _) wx.heap.size 105 rfl ((Row.newArr _ 5 _).at_ (i := 0) rfl) (by rw [bn_len]; omega) (by simp; omega) ?_; intro v' w1 hown1 hbel1; have HO1 := Lib.hid hown1; have HBL1 := Lib.hid (HBQ.out.trans ((show Below w.heap.size wx (wx.alloc _) from (Below.refl _ _).alloc hsz _).trans hbel1)); clear hown1 hbel1)
              go_roundw
              case rel => exact HRR.out _ _ HO1.out HBL1.out
              case measure => simp [intOf]; omega
            · have t5 : ((y : Int) == 176) = false := by simp; omega
              have HF := Lib.hid (HA.out.bad hlt (by rw [← HX.out]; omega) (by rw [← HX.out, ← HY.out]; omega))
              go_wp2_with fail
              go_ret2
              exact ⟨_, _, rfl, .inr ⟨rfl, HF.out⟩, HBQ.out⟩
          · have HF := Lib.hid (HA.out.bad hlt (by rw [← HX.out]; omega) (by omega))
            go_wp2_with fail
            go_ret2
            exact ⟨_, _, rfl, .inr ⟨rfl, HF.out⟩, HBQ.out⟩
        · have t4 : ((x : Int) == 196) = false := by simp; omega
          have HF := Lib.hid (HA.out.bad hlt (by rw [← HX.out]; omega) (by rw [← HX.out]; omega))
          go_wp2_with fail
          go_ret2
          exact ⟨_, _, rfl, .inr ⟨rfl, HF.out⟩, HBQ.out⟩
    · obtain rfl : k = s.size := by omega
      obtain ⟨A, c, rfl, hi⟩ := hown.ints (bn_wf D)
      have hcv := Str.run_string (P := Tryd.prog) Tryd.underlying22 Tryd.underlying5 Tryd.underlying9 hi
      rw [bn_bytes] at hcv
      have HF := Lib.hid hA.fin
      have HBQ := Lib.hid hbel
      clear hA hown hbel hi
      go_wp2_with fail
      go_ret2
      exact ⟨_, _, rfl, .inl ⟨rfl, HF.out⟩, HBQ.out⟩
end Go.Proofs.YtdplbdfaeighlaaDoor.McA
