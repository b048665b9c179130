/- FnUpdateGeneratedLineAndColumnExact: the builder, appendMappingWithoutRemapping. -/
import Derived.Test.YtmakaafjkeeooacDoorRows
import Derived.Test.YtmakaafjkeeooacDoorMem
import Derived.Test.YtmakaafjkeeooacDoorSl
import Derived.Test.YtmakaafjkeeooacDoorUgC
import Derived.Deep.DeepCutAuto
import Derived.Deep.RegionHeld3
import Derived.WalkKit
import Derived.ProofKit
import Derived.OpenShut
import Derived.Below
import Derived.WalkLawsBesides
import Derived.Lib.Hide
import Derived.Outline
import Derived.RegionTactic
import Derived.Deep.QuietTactic
import Derived.BigQuiet
import Derived.WalkSpells
import Derived.Deep.OwnRows
import Derived.IntWalk
import Derived.Deep.DeepMust
namespace Go.Proofs.YtmakaafjkeeooacDoor.UgD
open Go.RowKit Mem Sl
set_option linter.unusedVariables false
open Own Vq Dec Lin Str Prn Owg UgA UgB UgC Args

def cb (q v : Value) (l g a o c upd col : Int) (hp : Bool) : List Value :=
  [.pointer none, v, .slice none 0 0, q, .slice none 0 0, .string ByteArray.empty, .int .i64 l, .int .i64 g, .int .i64 a, .int .i64 o, .int .i64 c, .int .i64 0, .bool false, .int .i64 upd, .int .i64 col, .int .i64 0, .int .i32 (-1), .int .u32 0, .bool hp, .bool false, .bool false, .bool true]
/-- The builder in block j, its buffer v of the numbers zs in a block of its own from B on. -/
structure Bd (w : World) (B j : Nat) (q v : Value) (zs : List Int) (l g a o c upd col : Int) (hp : Bool) : Prop where
  row : Row w j 52 (cb q v l g a o c upd col hp)
  own : Own w B 5 .u8 v zs
  hj : B ≤ j
section
variable {w w' : World} {B j : Nat} {q v : Value} {zs : List Int} {l g a o c upd col : Int} {hp : Bool}
theorem own_ne {t : TypeId} {b : Nat} {xs : List Value} (h : Own w B 5 .u8 v zs) (hr : Row w b t xs) (ht : t ≠ 5) : v.ownBlock ≠ some b := by
  intro e
  obtain ⟨_, cur, hc⟩ := own_cur h b e
  unfold Row at hr
  rw [hr] at hc
  injection hc with hc
  injection hc with _ hc
  exact ht hc
theorem own_set (h : Own w B 5 .u8 v zs) {b : Nat} (hne : v.ownBlock ≠ some b) (i : Nat) (u : Value) : Own (w.setCell ⟨b, i, none⟩ u) B 5 .u8 v zs := by
  refine ⟨h.1, ?_⟩
  rcases h.2 with h0 | ⟨g', cap, cur, h0, hh0, hh, r⟩
  · exact .inl h0
  · refine .inr ⟨g', cap, cur, h0, hh0, ?_, r⟩
    have hn : g' ≠ b := fun e => hne (by rw [h0]; exact congrArg some e)
    exact (Below.heap_setCell w ⟨b, i, none⟩ u g' hn).trans hh
theorem own_at (h : Own w B 5 .u8 v zs) (hz : 0 < zs.length) : ∃ b c, v = .slice (some ⟨b, 0, none⟩) zs.length c ∧ zs.length ≤ c ∧ c ≤ maxLen ∧ b < w.heap.size ∧ ∀ i, i < zs.length → w.cell? ⟨b, i, none⟩ = some (.int .u8 (zs.getD i 0)) := by
  rcases h.2 with ⟨rfl, h0⟩ | ⟨g, cap, cur, rfl, hb, hh, hn, hcm, hcs, htk⟩
  · omega
  · refine ⟨g, cap, rfl, hn, hcm, (Array.getElem?_eq_some_iff.1 hh).1, fun i hi => ?_⟩
    rw [cell_of_row w g i cur 5 (0, 0) hh]
    have h1 : (cur.toList.take (zs.length * 1))[i]? = (iv .u8 zs)[i]? := by rw [htk]
    rw [iv_at .u8 zs i hi, List.getElem?_take, if_pos (by omega)] at h1
    simpa using h1
theorem Bd.drewN (h : Bd w B j q v zs l g a o c upd col hp) (n : Nat) : Bd (w.drewN n) B j q v zs l g a o c upd col hp := ⟨h.row, h.own, h.hj⟩
theorem Bd.alloc (h : Bd w B j q v zs l g a o c upd col hp) (x : Obj) : Bd (w.alloc x) B j q v zs l g a o c upd col hp := ⟨h.row.alloc x, h.own.alloc x, h.hj⟩
/-- A store into another block. -/
theorem Bd.far (h : Bd w B j q v zs l g a o c upd col hp) {b : Nat} {t : TypeId} {xs : List Value} (hr : Row w b t xs) (h5 : t ≠ 5) (h52 : t ≠ 52) (i : Nat) (u : Value) : Bd (w.setCell ⟨b, i, none⟩ u) B j q v zs l g a o c upd col hp :=
  ⟨h.row.far (h.row.ne_ hr (fun e => h52 e.symm)) u, own_set h.own (own_ne h.own hr h5) i u, h.hj⟩
end
/-- What stands at the end of the buffer, and the comma that it asks for. -/
def Sz (zs : List Int) (lb : Int) (sep : List Int) : Prop := (zs = [] ∧ lb = 0 ∧ sep = []) ∨ (0 < zs.length ∧ zs.getD (zs.length - 1) 0 = lb ∧ ((lb = 59 ∧ sep = []) ∨ (lb = 71 ∧ sep = [44])))
theorem Sz.sep {zs : List Int} {lb : Int} {sep : List Int} (h : Sz zs lb sep) : Sep lb sep := by
  rcases h with ⟨_, rfl, rfl⟩ | ⟨_, _, ⟨rfl, rfl⟩ | ⟨rfl, rfl⟩⟩
  · exact .inl ⟨rfl, .inl rfl⟩
  · exact .inl ⟨rfl, .inr rfl⟩
  · exact .inr ⟨rfl, rfl⟩
def Added (w : World) (B j : Nat) (q v : Value) (zs : List Int) (l g a o c upd col : Int) (e : Ending) (w' : World) : Prop := e = .returned (.tuple #[]) ∧ ∃ v', Bd w' B j q v' zs l g a o c upd col true ∧ Prn.Step j w v w' v'
/-- The cells read ahead of appendMappingToBuffer. -/
def Seen (j b : Nat) (l0 g0 a0 o0 c0 l g a o c : Int) (w' : World) : Prop :=
  w'.cell? ⟨j, 6, none⟩ = some (.int .i64 l0) ∧ w'.cell? ⟨j, 7, none⟩ = some (.int .i64 g0) ∧ w'.cell? ⟨j, 8, none⟩ = some (.int .i64 a0) ∧ w'.cell? ⟨j, 9, none⟩ = some (.int .i64 o0) ∧ w'.cell? ⟨j, 10, none⟩ = some (.int .i64 c0) ∧ w'.cell? ⟨j, 11, none⟩ = some (.int .i64 0) ∧ w'.cell? ⟨j, 12, none⟩ = some (.bool false) ∧
  w'.cell? ⟨b, 0, none⟩ = some (.int .i64 l) ∧ w'.cell? ⟨b, 1, none⟩ = some (.int .i64 g) ∧ w'.cell? ⟨b, 2, none⟩ = some (.int .i64 a) ∧ w'.cell? ⟨b, 3, none⟩ = some (.int .i64 o) ∧ w'.cell? ⟨b, 4, none⟩ = some (.int .i64 c) ∧ w'.cell? ⟨b, 5, none⟩ = some (.int .i64 0) ∧ w'.cell? ⟨b, 6, none⟩ = some (.bool false)
theorem seen_of {w' : World} {j b : Nat} {q v : Value} {l0 g0 a0 o0 c0 l g a o c upd col : Int} {hp : Bool} (hr : Row w' j 52 (cb q v l0 g0 a0 o0 c0 upd col hp)) (hs : SevenAt w' b l g a o c) : Seen j b l0 g0 a0 o0 c0 l g a o c w' := by
  unfold SevenAt at hs
  unfold cb at hr
  exact ⟨hr.at_ rfl, hr.at_ rfl, hr.at_ rfl, hr.at_ rfl, hr.at_ rfl, hr.at_ rfl, hr.at_ rfl, hs.at_ rfl, hs.at_ rfl, hs.at_ rfl, hs.at_ rfl, hs.at_ rfl, hs.at_ rfl, hs.at_ rfl⟩
/-- What stands just behind the call: the builder's row, the new state, the offset's block; they stand behind the two stores as well. -/
structure Mid (W : World) (j b : Nat) (q v : Value) (l0 g0 a0 o0 c0 upd col : Int) (hp : Bool) (l g a o c : Int) : Prop where
  row : Row W j 52 (cb q v l0 g0 a0 o0 c0 upd col hp)
  st : SevenAt W b l g a o c
  n : Row W (b + 1) 50 [.int .u32 0]
section
variable {W W' : World} {j b : Nat} {q v v' : Value} {l0 g0 a0 o0 c0 upd col l g a o c : Int} {hp : Bool}
theorem Mid.seen (h : Mid W j b q v l0 g0 a0 o0 c0 upd col hp l g a o c) : Seen j b l0 g0 a0 o0 c0 l g a o c W := seen_of h.row h.st
theorem Mid.drew (h : Mid W j b q v l0 g0 a0 o0 c0 upd col hp l g a o c) : Mid W.drew j b q v l0 g0 a0 o0 c0 upd col hp l g a o c := ⟨h.row, h.st, h.n⟩
theorem Mid.setv (h : Mid W j b q v l0 g0 a0 o0 c0 upd col hp l g a o c) (u : Value) : Mid (W.setCell ⟨j, 1, none⟩ u) j b q u l0 g0 a0 o0 c0 upd col hp l g a o c := by
  have h1 := h.st
  unfold SevenAt at h1
  exact ⟨h.row.set 1 u, h1.far (h1.ne_ h.row (by decide)) u, h.n.far (h.n.ne_ h.row (by decide)) u⟩
theorem Mid.setn (h : Mid W j b q v l0 g0 a0 o0 c0 upd col hp l g a o c) : Mid (W.setCell ⟨b + 1, 0, none⟩ (.int .u32 0)) j b q v l0 g0 a0 o0 c0 upd col hp l g a o c := by
  have h1 := h.st
  unfold SevenAt at h1
  exact ⟨h.row.far (h.row.ne_ h.n (by decide)) _, h1.far (h1.ne_ h.n (by decide)) _, h.n.set 0 _⟩
theorem Mid.keep (h : Mid W j b q v l0 g0 a0 o0 c0 upd col hp l g a o c) {B : Nat} {zs : List Int} (ho : Own W B 5 .u8 v zs) {v' : Value} (hg : Gr W v W' v') : Mid W' j b q v l0 g0 a0 o0 c0 upd col hp l g a o c := by
  have h1 := h.st
  unfold SevenAt at h1
  exact ⟨hg.row h.row (own_ne ho h.row (by decide)), hg.row h1 (own_ne ho h1 (by decide)), hg.row h.n (own_ne ho h.n (by decide))⟩
end
section
variable {w : World} {B j : Nat} {q v : Value} {zs : List Int} {l0 g0 a0 o0 c0 upd col : Int} {hp : Bool}
theorem mid0 (h : Bd w B j q v zs l0 g0 a0 o0 c0 upd col hp) (n : Nat) (l g a o c : Int) : Mid (((w.alloc (.cells #[.int .i64 l, .int .i64 g, .int .i64 a, .int .i64 o, .int .i64 c, .int .i64 0, .bool false] 30)).drewN n).alloc (.cells #[.int .u32 0] 50)) j w.heap.size q v l0 g0 a0 o0 c0 upd col hp l g a o c := by
  refine ⟨((h.row.alloc _).drewN n).alloc _, ((Row.newArr w 30 _).drewN n).alloc _, ?_⟩
  have h := Row.newArr ((w.alloc (.cells #[.int .i64 l, .int .i64 g, .int .i64 a, .int .i64 o, .int .i64 c, .int .i64 0, .bool false] 30)).drewN n) 50 #[.int .u32 0]
  have e : ((w.alloc (.cells #[.int .i64 l, .int .i64 g, .int .i64 a, .int .i64 o, .int .i64 c, .int .i64 0, .bool false] 30)).drewN n).heap.size = w.heap.size + 1 := by simp
  rw [e] at h
  exact h
theorem mid0_step (h : Bd w B j q v zs l0 g0 a0 o0 c0 upd col hp) (n : Nat) (l g a o c : Int) : Gr w v (((w.alloc (.cells #[.int .i64 l, .int .i64 g, .int .i64 a, .int .i64 o, .int .i64 c, .int .i64 0, .bool false] 30)).drewN n).alloc (.cells #[.int .u32 0] 50)) v := (((Gr.refl w v).alloc _).drewN n).alloc _
theorem mid0_own (h : Bd w B j q v zs l0 g0 a0 o0 c0 upd col hp) (n : Nat) (l g a o c : Int) : Own (((w.alloc (.cells #[.int .i64 l, .int .i64 g, .int .i64 a, .int .i64 o, .int .i64 c, .int .i64 0, .bool false] 30)).drewN n).alloc (.cells #[.int .u32 0] 50)) B 5 .u8 v zs := ((h.own.alloc _).drewN n).alloc _
end
theorem step_new {p : Nat} {w w' : World} {v v' : Value} (h : Prn.Step p w v w' v') {b : Nat} (hb : w.heap.size ≤ b) (i : Nat) (u : Value) : Prn.Step p w v (w'.setCell ⟨b, i, none⟩ u) v' :=
  ⟨h.os, h.tape, h.output, by simpa [World.setCell] using h.size, fun k hk hp hv => (Below.heap_setCell w' ⟨b, i, none⟩ u k (by simp only; omega)).trans (h.block k hk hp hv), h.at_⟩
set_option maxRecDepth 100000 in
set_option maxHeartbeats 16000000 in
theorem add20 (B j : Nat) (q v : Value) (zs : List Int) (lb : Int) (sep : List Int) (l0 g0 a0 o0 c0 upd col : Int) (hp : Bool) (l g a o c : Int) (w : World) (h : Bd w B j q v zs l0 g0 a0 o0 c0 upd col hp) (hb : B64 B w) (hz : zs.length ≤ 90000000) (hsep : Sz zs lb sep)
    (h1 : Sm g0) (h2 : Sm a0) (h3 : Sm o0) (h4 : Sm c0) (h5 : Sm g) (h6 : Sm a) (h7 : Sm o) (h8 : Sm c) :
    Calls Tryd.prog 20 #[.pointer (some ⟨j, 0, none⟩), .agg (st7 l g a o c)] w (Added w B j q v (zs ++ sep ++ seg4 (g - g0) (a - a0) (o - o0) (c - c0)) l g a o c upd col) := by
  have HSZ := Lib.hid hsep
  have HBD := Lib.hid h
  have HB := Lib.hid hb
  have hjl := h.row.lt
  have hr := h.row
  unfold cb at hr
  have r1 := hr.at_ (i := 1) rfl
  have HR := Lib.hid hr
  clear h hb hr
  obtain ⟨A, c', hv⟩ := HBD.out.own.form
  subst hv
  have HGN := Lib.hid (fun n => mid0_step HBD.out n l g a o c)
  have HMN := Lib.hid (fun n => mid0 HBD.out n l g a o c)
  have HON := Lib.hid (fun n => mid0_own HBD.out n l g a o c)
  unfold st7
  go_enter Tryd.func20, Tryd.ntmps20
  go_upto_region 2 with fail
  go_upto_if 12 with fail
  go_cut [4] (fun x4 wx => x4 = .int .u8 lb ∧ ∃ n, wx = (w.alloc (.cells #[.int .i64 l, .int .i64 g, .int .i64 a, .int .i64 o, .int .i64 c, .int .i64 0, .bool false] 30)).drewN n)
  case first =>
    rcases hsep with ⟨rfl, rfl, rfl⟩ | ⟨hpos, hlast, hs2⟩
    · have t0 : (((([] : List Int).length : Nat) : Int) != 0) = false := rfl
      go_wp2_with fail
      go_meet
      case rel => exact ⟨rfl, 0, rfl⟩
    · obtain ⟨b, cp, hv, hcp, hcm, hbl, hcell⟩ := own_at HBD.out.own hpos
      injection hv with hv1 hv2 hv3
      subst hv1 hv3
      obtain ⟨m, hm⟩ : ∃ m, zs.length = m + 1 := ⟨zs.length - 1, by omega⟩
      have tq : ((zs.length : Int) != 0) = true := bne_iff_ne.2 (by omega)
      rw [tq]
      clear tq
      rw [hm] at hcell hcp hlast r1
      have hl := hcell m (by omega)
      rw [Nat.add_sub_cancel] at hlast
      rw [hlast] at hl
      have t0 : ((m : Int) + 1 != 0) = true := by simp; omega
      have t1 : (m : Int) < (m : Int) + 1 := by omega
      have t2 : (0 : Int) ≤ (m : Int) := by omega
      have t3 : (m : Int) + 1 ≤ 90000000 := by omega
      clear hcell hs2 hm hpos hlast hz HSZ HR h1 h2 h3 h4 h5 h6 h7 h8 hcp hcm HGN HMN HON
      go_upto_region 3 with fail
      go_quiet (fail)
      go_wp2_with fail
      go_meet
      case rel => exact ⟨rfl, _, rfl⟩
  case rest =>
  obtain ⟨rfl, n0, rfl⟩ := hcut
  go_upto_region 5 with fail
  have HG0 := Lib.hid (HGN.out n0)
  have HM0 := Lib.hid (HMN.out n0)
  have HO3 := Lib.hid (HON.out n0)
  have HB3 := Lib.hid (HB.out.below (HG0.out.below (own_low HBD.out.own) HB.out.1))
  clear HGN HMN HON
  generalize hW3 : ((w.alloc (.cells #[.int .i64 l, .int .i64 g, .int .i64 a, .int .i64 o, .int .i64 c, .int .i64 0, .bool false] 30)).drewN n0).alloc (.cells #[.int .u32 0] 50) = W3 at HM0 HG0 HB3 HO3 ⊢
  clear hW3
  have hpre := HM0.out.row
  unfold cb at hpre
  have p1 := hpre.at_ (i := 1) rfl
  have k0 := HM0.out.seen
  have HK0 := Lib.hid k0
  unfold Seen at k0
  obtain ⟨k1, k2, k3, k4, k5, k6, k7, k8, k9, k10, k11, k12, k13, k14⟩ := k0
  have H24 := Lib.hid (app24 B (.slice A zs.length c') zs lb sep l0 g0 a0 o0 c0 l g a o c W3.drew (show B64 B W3.drew from HB3.out) (show Own W3.drew B 5 .u8 _ zs from HO3.out) hz HSZ.out.sep h1 h2 h3 h4 h5 h6 h7 h8)
  obtain ⟨ZS, hZS⟩ : ∃ Z, Z = zs ++ sep ++ seg4 (g - g0) (a - a0) (o - o0) (c - c0) := ⟨_, rfl⟩
  rw [← hZS] at H24 ⊢
  have HZS := Lib.hid hZS
  clear hpre hZS
  go_cut [] (fun wx => ∃ v', Own wx B 5 .u8 v' ZS ∧ Mid wx j w.heap.size q v' l0 g0 a0 o0 c0 upd col hp l g a o c ∧ Prn.Step j w (.slice A zs.length c') wx v')
  case first =>
    go_region_with (first | (go_at_call 24; (with_reducible refine H24.out.mono ?_); rintro e w4 ⟨A4, n4, c4, rfl, ho4, hg4⟩; have HO4 := Lib.hid ho4; have HG4 := Lib.hid hg4; have hm4 := Mid.keep (W := W3.drew) HM0.out.drew (show Own W3.drew B 5 .u8 _ zs from HO3.out) hg4; have HM4 := Lib.hid hm4; have f1 := hm4.row.frozen 1; have y1 : w4.cell? ⟨j, 1, none⟩ = _ := hm4.row.at_ (i := 1) rfl; have f2 := hm4.n.frozen 0; have y2 := hm4.n.at_ (i := 0) rfl; clear hm4 ho4 hg4))
    all_goals
      have ho5 := own_set HO4.out (own_ne HO4.out HM4.out.row (by decide)) 1 (.slice A4 n4 c4)
      have HREL := Lib.hid (show Own ((w4.setCell ⟨j, 1, none⟩ (.slice A4 n4 c4)).setCell ⟨w.heap.size + 1, 0, none⟩ (.int .u32 0)) B 5 .u8 (.slice A4 n4 c4) ZS ∧ Mid ((w4.setCell ⟨j, 1, none⟩ (.slice A4 n4 c4)).setCell ⟨w.heap.size + 1, 0, none⟩ (.int .u32 0)) j w.heap.size q (.slice A4 n4 c4) l0 g0 a0 o0 c0 upd col hp l g a o c ∧ Prn.Step j w (.slice A zs.length c') ((w4.setCell ⟨j, 1, none⟩ (.slice A4 n4 c4)).setCell ⟨w.heap.size + 1, 0, none⟩ (.int .u32 0)) (.slice A4 n4 c4) from
        ⟨own_set ho5 (own_ne ho5 (HM4.out.setv (.slice A4 n4 c4)).n (by decide)) 0 _, (HM4.out.setv _).setn, step_new ((((HG0.out j).drew).trans (HG4.out j)).set_ 1 _) (by omega) 0 _⟩)
      clear ho5 k1 k2 k3 k4 k5 k6 k7 k8 k9 k10 k11 k12 k13 k14 f1 y1 f2 y2
      go_wp2_with fail
      go_meet
      case rel => exact ⟨_, HREL.out⟩
  case rest =>
  obtain ⟨v', ho5, hm5, hs5⟩ := hcut
  have hr5 := hm5.row
  unfold cb at hr5
  have hst := hm5.st
  unfold SevenAt at hst
  have e0 := hst.at_ (i := 0) rfl
  have e1 := hst.at_ (i := 1) rfl
  have e2 := hst.at_ (i := 2) rfl
  have e3 := hst.at_ (i := 3) rfl
  have e4 := hst.at_ (i := 4) rfl
  have e5 := hst.at_ (i := 5) rfl
  have e6 := hst.at_ (i := 6) rfl
  have d6 := hr5.at_ (i := 6) rfl
  have d7 := hr5.at_ (i := 7) rfl
  have d8 := hr5.at_ (i := 8) rfl
  have d9 := hr5.at_ (i := 9) rfl
  have d10 := hr5.at_ (i := 10) rfl
  have d11 := hr5.at_ (i := 11) rfl
  have d12 := hr5.at_ (i := 12) rfl
  have d18 := hr5.at_ (i := 18) rfl
  have fz := fun i => hr5.frozen i
  have HR5 := Lib.hid hr5
  have HO5 := Lib.hid ho5
  have HS5 := Lib.hid hs5
  have hjn : j ≠ w.heap.size := by omega
  clear hr5 hst hm5 ho5 hs5 k1 k2 k3 k4 k5 k6 k7 k8 k9 k10 k11 k12 k13 k14 p1 r1 hsep hz h1 h2 h3 h4 h5 h6 h7 h8 H24
  go_wp2_with fail
  go_end0
  have hrow := ((((((((HR5.out.set 6 (.int .i64 l)).set 7 (.int .i64 g)).set 8 (.int .i64 a)).set 9 (.int .i64 o)).set 10 (.int .i64 c)).set 11 (.int .i64 0)).set 12 (.bool false)).set 11 (.int .i64 0)).set 18 (.bool true)
  have hne := own_ne HO5.out HR5.out (by decide)
  refine ⟨rfl, v', ⟨hrow, ?_, HBD.out.hj⟩, ((((((((HS5.out.set_ _ _).set_ _ _).set_ _ _).set_ _ _).set_ _ _).set_ _ _).set_ _ _).set_ _ _).set_ _ _⟩
  rw [← HZS.out]
  exact own_set (own_set (own_set (own_set (own_set (own_set (own_set (own_set (own_set HO5.out hne _ _) hne _ _) hne _ _) hne _ _) hne _ _) hne _ _) hne _ _) hne _ _) hne _ _
end Go.Proofs.YtmakaafjkeeooacDoor.UgD
