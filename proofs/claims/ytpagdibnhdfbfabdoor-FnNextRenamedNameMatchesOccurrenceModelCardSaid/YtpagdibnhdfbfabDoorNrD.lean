/- FnNextRenamedNameMatchesOccurrenceModel: the law. -/
import Derived.Test.YtpagdibnhdfbfabDoorRows
import Derived.Test.YtpagdibnhdfbfabDoorMem
import Derived.Test.YtpagdibnhdfbfabDoorSl
import Derived.Test.YtpagdibnhdfbfabDoorNrC
import Derived.Deep.RegionHeld3
import Derived.Lib.LaidU8
import Derived.LaidMore
import Derived.Great.BuildSlice
import Derived.WalkKit
import Derived.ProofKit
import Derived.OpenShut
import Derived.Below
import Derived.WalkLawsBesides
import Derived.Lib.Hide
import Derived.Outline
import Derived.RegionTactic
import Derived.Deep.QuietTactic
import Derived.BigQuiet
import Derived.WalkSpells
import Derived.Deep.OwnRows
import Derived.IntWalk
import Derived.Deep.DeepMust
namespace Go.Proofs.YtpagdibnhdfbfabDoor.NrD
open Go.RowKit Mem Sl
set_option linter.unusedVariables false
open Map Occ Go.MapKept NrA NrB NrC Str

/-- A string and nothing below turned. -/
def Str_ (w : World) (r : ByteArray) (e : Ending) (w' : World) : Prop := e = .returned (.string r) ∧ Below w.heap.size w w'
theorem drewN_below (w : World) (m : Nat) : Below w.heap.size w (w.drewN m) := ⟨rfl, rfl, rfl, Nat.le_refl _, fun _ _ => rfl⟩
set_option maxHeartbeats 4000000 in
set_option maxRecDepth 100000 in
theorem model_new (A : Option Addr) (n c i : Nat) (zs : List ByteArray) (nm : ByteArray) (w : World) (h : Args.IsStrs w A n c zs) (hn : n ≤ 1024) (hi : i < n) (hnm : zs.getD i ByteArray.empty = nm) (hk : occ (lists zs) nm.data.toList i = 0) :
    Calls Tryd.prog 8 #[.slice A n c, .slice none 0 0, .int .i64 (i : Int)] w (Str_ w nm) := by
  have K11 := occ11 A n c i zs w h hn hi
  obtain ⟨b, off, ha, hb, hcell⟩ := strs_read h i hi
  rw [hnm] at hcell K11
  rw [hk] at K11
  subst ha
  have HK := Lib.hid K11
  clear K11 h hnm hk
  go_enter Tryd.func8, Tryd.ntmps8
  go_wp2_with fail
  refine HK.out.mono ?_
  rintro e w1 ⟨rfl, m, rfl⟩
  go_wp2_with (go_at_call 12; refine (in12 nm _).mono ?_; rintro e w' ⟨rfl, rfl⟩)
  go_ret
  exact ⟨rfl, drewN_below w m⟩
set_option maxHeartbeats 4000000 in
set_option maxRecDepth 100000 in
theorem model_rep (A : Option Addr) (n c i k : Nat) (zs : List ByteArray) (nm : ByteArray) (w : World) (h : Args.IsStrs w A n c zs) (hn : n ≤ 1024) (hi : i < n) (hnm : zs.getD i ByteArray.empty = nm) (hk : occ (lists zs) nm.data.toList i = k) (hk0 : 1 ≤ k) (hk1 : k ≤ 1024) (hsz : nm.size ≤ 1048576) :
    Calls Tryd.prog 8 #[.slice A n c, .slice none 0 0, .int .i64 (i : Int)] w (Str_ w (nm ++ num (k + 1))) := by
  have K11 := occ11 A n c i zs w h hn hi
  obtain ⟨b, off, ha, hb, hcell⟩ := strs_read h i hi
  rw [hnm] at hcell K11
  rw [hk] at K11
  subst ha
  have HK := Lib.hid K11
  have NEW := Lib.hid (show ∀ W : World, Below w.heap.size w W → W.cell? ⟨b, off + i, none⟩ = some (.string nm) from fun W hW => by rw [hW.cell (p := ⟨b, off + i, none⟩) hb]; exact hcell)
  have K13 := Lib.hid (show ∀ W : World, Calls Tryd.prog 13 #[.int .i64 ((k : Int) + 1)] W fun e w' => e = .returned (.string (num (k + 1))) ∧ Below W.heap.size W w' from fun W => itoa13 (k + 1) W (by omega) (by omega))
  have t0 : ((k : Int) == 0) = false := by rw [beq_eq_false_iff_ne]; omega
  have hns := num_size (k + 1)
  have hs2 : nm.size + (num (k + 1)).size ≤ 9223372036854775807 := by omega
  have hs3 : ¬ 9223372036854775807 < nm.size + (num (k + 1)).size := by omega
  have i0 : (0 : Int) ≤ (i : Int) := by omega
  have i1 : (i : Int) < (n : Int) := by omega
  clear K11 h hnm hk
  go_enter Tryd.func8, Tryd.ntmps8
  go_wp2_with fail
  refine HK.out.mono ?_
  rintro e w1 ⟨rfl, m, rfl⟩
  have HB0 := Lib.hid ((drewN_below w m).drew)
  have hwr : IntKind.i64.wrap ((k : Int) + 1) = (k : Int) + 1 := IntWalk.i64_in _ (by omega)
  go_wp2_with (go_at_call 12; refine (in12 nm _).mono ?_; rintro e w' ⟨rfl, rfl⟩)
  go_region_held3 (fun w' => w'.cell? ⟨b, off + i, none⟩ = some (.string nm)) (first | exact hcell | exact NEW.out _ HB'.out | exact NEW.out _ HB0.out)
    (first | (go_at_call 13; refine (K13.out _).mono ?_; rintro e w' ⟨rfl, hb1⟩; have HB' := Lib.hid (HB0.out.trans (hb1.mono HB0.out.size)); clear hb1))
  all_goals
    clear hwr
    go_wp2_with fail
    go_ret
    exact ⟨rfl, HB'.out⟩
/-- The first name of all: the map is made. -/
def First (w : World) (p : Nat) (s : ByteArray) (e : Ending) (w' : World) : Prop :=
  e = .returned (.string s) ∧ ∃ g n, w.heap.size ≤ g ∧ Ren w' p g n (put (fun _ => none) (.string s) (.int .u32 1)) ∧ ∀ B, B ≤ p → B ≤ w.heap.size → Below B w w'
set_option maxHeartbeats 4000000 in
set_option maxRecDepth 100000 in
theorem next_first (w : World) (p : Nat) (s : ByteArray) (hr : Row w p 28 [.map none, .int .i64 0]) : Calls Tryd.prog 7 #[.pointer (some ⟨p, 0, none⟩), .string s] w (First w p s) := by
  have hmm := @run_makeMap Tryd.prog
  have qT := fun (W : World) (r : Option Nat) => run_eql_map_nil (P := Tryd.prog) W 26 9 32 r Tryd.underlying26
  have hp := hr.lt
  have c0 := hr.at_ (i := 0) rfl
  have z0 := hr.frozen 0
  have hrW : Row ((w.setCell ⟨p, 0, none⟩ (.map (some w.heap.size))).alloc (.map #[] 0)) p 28 [.map (some w.heap.size), .int .i64 0] := (hr.set 0 _).alloc _
  have hmW : MapF ((w.setCell ⟨p, 0, none⟩ (.map (some w.heap.size))).alloc (.map #[] 0)) w.heap.size .string 0 (fun _ => none) := by
    have := mapF_made (w.setCell ⟨p, 0, none⟩ (.map (some w.heap.size))) .string
    simpa using this
  have d0 := hrW.at_ (i := 0) rfl
  have hlk := hmW.look_ok (P := Tryd.prog) Tryd.underlying26 Tryd.underlying9 (isKey s) (Tryd.zeroValue32 _)
  simp only [Option.getD_none, Option.isSome_none] at hlk
  have HR := Lib.hid hrW
  have HM := Lib.hid hmW
  have HB := Lib.hid (show ∀ B, B ≤ p → B ≤ w.heap.size → Below B w ((w.setCell ⟨p, 0, none⟩ (.map (some w.heap.size))).alloc (.map #[] 0)) from fun B h1 h2 => ((Below.refl _ _).setCell h1 _).alloc (by simpa using h2) _)
  clear hr hrW hmW
  go_enter Tryd.func7, Tryd.ntmps7
  go_wp2_with (refine wpList_mapUpdate_f _ rfl _ _ _ 26 rfl 9 32 _ Tryd.underlying26 Tryd.underlying9 w.heap.size 0 (fun _ => none) rfl HM.out (.string s) (.int .u32 1) rfl rfl (isKey s) ?_; intro w4 hm4 hg4 hs4; have HM4 := Lib.hid hm4; have HG4 := Lib.hid hg4; clear hm4 hg4 hs4)
  go_ret
  refine ⟨rfl, w.heap.size, _, Nat.le_refl _, ⟨HR.out.grown HG4.out (fun e => by injection e with e; omega), HM4.out⟩, fun B h1 h2 => (HB.out B h1 h2).trans (grown_below HG4.out h2 (by simp; omega))⟩
/-- The map and what has been used agree. -/
def UsF (f : Value → Option Value) (zs : List ByteArray) (i : Nat) : Prop := ∃ u, Us (lists zs) i u ∧ ∀ s : ByteArray, f (.string s) = (u s.data.toList).map fun x => .int .u32 (x : Int)
theorem app_data (a : ByteArray) (t : Nat) : (a ++ num t).data.toList = a.data.toList ++ Lib.decDigits t := by
  simp [num, ByteArray.data_append]
theorem usf_put {f : Value → Option Value} {u : List UInt8 → Option Nat} (hf : ∀ s : ByteArray, f (.string s) = (u s.data.toList).map fun x => .int .u32 (x : Int)) (r : ByteArray) (x : Nat) :
    ∀ s : ByteArray, put f (.string r) (.int .u32 (x : Int)) (.string s) = ((fun l => if l = r.data.toList then some x else u l) s.data.toList).map fun x => .int .u32 (x : Int) := by
  intro s
  by_cases e : s = r
  · subst e; rw [put_self]; simp
  · rw [put_other _ _ (by intro h; injection h with h; exact e h), hf]
    simp only
    rw [if_neg (fun h => e (data_inj h))]
/-- The loop's relation. -/
def Rel (w : World) (p : Nat) (zs : List ByteArray) (n : Nat) (s4 : Value) (wr : World) : Prop :=
  ∃ (i : Nat) (wv : World), wv = wr ∧ i ≤ n ∧ s4 = .int .i64 (i : Int) ∧ Below w.heap.size w wr ∧ ((i = 0 ∧ Row wr p 28 [.map none, .int .i64 0]) ∨ (1 ≤ i ∧ ∃ g m f, w.heap.size ≤ g ∧ Ren wr p g m f ∧ UsF f zs i))
theorem ren_later {w w' : World} {p g m : Nat} {f : Value → Option Value} (h : Ren w p g m f) (hb : Below w.heap.size w w') : Ren w' p g m f := ⟨h.1.below hb h.1.lt, h.2.below hb h.2.lt⟩
/-- One name: what NextRenamedName leaves. -/
def Stepd (B : Nat) (wk : World) (p : Nat) (zs : List ByteArray) (i : Nat) (r : ByteArray) (e : Ending) (w' : World) : Prop :=
  e = .returned (.string r) ∧ Below B wk w' ∧ ∃ g m f, B ≤ g ∧ Ren w' p g m f ∧ UsF f zs (i + 1)
theorem step_name (B : Nat) (wk : World) (p n c i : Nat) (A : Option Addr) (zs : List ByteArray) (nm : ByteArray) (hlen : zs.length = n) (hn : n ≤ 1024) (hi : i < n) (hnm : zs.getD i ByteArray.empty = nm) (hl : Letters nm) (hsz : nm.size ≤ 1048576) (hT : Tab wk) (hBp : B ≤ p) (hBw : B ≤ wk.heap.size)
    (hst : (i = 0 ∧ Row wk p 28 [.map none, .int .i64 0]) ∨ (1 ≤ i ∧ ∃ g m f, B ≤ g ∧ Ren wk p g m f ∧ UsF f zs i)) :
    ∃ r, Calls Tryd.prog 7 #[.pointer (some ⟨p, 0, none⟩), .string nm] wk (Stepd B wk p zs i r) ∧ ∀ W, Args.IsStrs W A n c zs → Calls Tryd.prog 8 #[.slice A n c, .slice none 0 0, .int .i64 (i : Int)] W (Str_ W r) := by
  have hx := lists_at zs i (by omega)
  rw [hnm] at hx
  rcases hst with ⟨rfl, hr⟩ | ⟨hi1, g, m, f, hg, hR, u, hU, hf⟩
  · refine ⟨nm, (next_first wk p nm hr).mono ?_, fun W hW => model_new A n c 0 zs nm W hW hn hi hnm rfl⟩
    rintro e w' ⟨rfl, g, m, hg, hR, hB⟩
    refine ⟨rfl, hB B hBp hBw, g, m, _, by omega, hR, _, us_new (us_zero (lists zs)) hx hl rfl (fun s => rfl), ?_⟩
    have := usf_put (f := fun _ => none) (u := fun _ => none) (fun s => rfl) nm 1
    exact this
  · obtain ⟨k, hk⟩ : ∃ k, occ (lists zs) nm.data.toList i = k := ⟨_, rfl⟩
    have hkl : k ≤ 1024 := by have := occ_le (lists zs) nm.data.toList i; omega
    have h1 := hU.1 nm.data.toList hl
    by_cases hk0 : k = 0
    · rw [hk, if_pos hk0] at h1
      have hfn : f (.string nm) = none := by rw [hf, h1]; rfl
      refine ⟨nm, (next_new wk p g m nm f hR hfn).mono ?_, fun W hW => model_new A n c i zs nm W hW hn hi hnm (hk.trans hk0)⟩
      rintro e w' ⟨rfl, ⟨m', hR'⟩, hF⟩
      exact ⟨rfl, hF.below hBp hg hBw, g, m', _, hg, hR', _, us_new hU hx hl (hk.trans hk0) (fun s => rfl), usf_put hf nm 1⟩
    · rw [hk, if_neg hk0] at h1
      have hfn : f (.string nm) = some (.int .u32 1) := by rw [hf, h1]; rfl
      refine ⟨nm ++ num (k + 1), (next_rep wk p g m k nm f hR hT hfn (by omega) (by omega) (by omega) (fun t ht1 ht2 => ?_) ?_).mono ?_, fun W hW => model_rep A n c i k zs nm W hW hn hi hnm hk (by omega) hkl hsz⟩
      · have h2 := (hU.2 nm.data.toList t hl ht1).2 (by omega)
        rw [← app_data] at h2
        obtain ⟨v, hv⟩ := Option.isSome_iff_exists.1 h2
        exact ⟨_, by rw [hf, hv]; rfl⟩
      · have h2 := hU.2 nm.data.toList (k + 1) hl (by omega)
        rw [← app_data] at h2
        rw [hf]
        cases h3 : u (nm ++ num (k + 1)).data.toList with
        | none => rfl
        | some v =>
          rw [h3] at h2
          have := h2.1 rfl
          omega
      · rintro e w' ⟨rfl, ⟨m', hR'⟩, hF⟩
        refine ⟨rfl, hF.below hBp hg hBw, g, m', _, hg, hR', _, us_rep (v := k + 1) hU hx hl (by rw [hk]; exact hk0) (fun s => rfl), ?_⟩
        have := usf_put hf (nm ++ num (k + 1)) (k + 1)
        rw [app_data] at this
        rw [hk]
        exact this
set_option maxHeartbeats 4000000 in
set_option maxRecDepth 100000 in
theorem law (A0 : Option Addr) (n0 c0 : Nat) (z0 : List ByteArray) (w : World) (w0 : Args.IsStrs w A0 n0 c0 z0) (hT : Tab w) :
    Calls Tryd.prog 3 #[.slice A0 n0 c0] w fun e w' => e = .returned (.bool true) ∧ Below w.heap.size w w' := by
  have hm : n0 ≤ maxLen := Nat.le_trans w0.1 w0.2.1
  have H4 := Lib.hid (bytes4 A0 n0 c0 z0 w w0 hm)
  unfold maxLen at hm
  have HI := Lib.hid w0
  have HT := Lib.hid hT
  have hlen := w0.2.2.1
  have HLEN := Lib.hid hlen
  clear w0 hT hlen
  go_enter Tryd.func3, Tryd.ntmps3
  go_wp2_with fail
  refine H4.out.mono ?_
  rintro e w' ⟨b4, rfl, h4, rfl⟩
  cases b4 with
  | false =>
    clear h4
    go_wp2_with fail
    go_ret
    exact ⟨rfl, Below.refl _ _⟩
  | true =>
  have HS := Lib.hid (h4 rfl).2
  clear h4
  by_cases hn : n0 ≤ 1024
  · go_wp2_with fail
    refine (list5 A0 n0 c0 z0 w HI.out hn HS.out).mono ?_
    rintro e w' ⟨q5, rfl, hq5, rfl⟩
    by_cases hq : q5 ≤ 1048576
    · go_wp2_with fail
      refine (all6 A0 n0 c0 z0 w HI.out hn HS.out).mono ?_
      rintro e w' ⟨b6, rfl, h6, rfl⟩
      cases b6 with
      | false =>
        clear h6
        go_wp2_with fail
        go_ret
        exact ⟨rfl, Below.refl _ _⟩
      | true =>
      have HL := Lib.hid (h6 rfl)
      clear h6
      go_wp2_with fail
      go_loopw [4] (fun s4 wr => Rel w w.heap.size z0 n0 s4 wr) (fun s4 _ => n0 - (intOf s4).toNat)
      case atStart => exact ⟨0, _, rfl, Nat.zero_le _, rfl, (Below.refl _ _).alloc (Nat.le_refl _) _, .inl ⟨rfl, Row.newArr w 28 _⟩⟩
      case round =>
        obtain ⟨i, wk, rfl, hi, rfl, hb, hst⟩ := hrel
        by_cases hlt : i < n0
        · obtain ⟨b, off, ha, hbl, hcell⟩ := strs_read (strs_later HI.out hb) i hlt
          obtain ⟨nm, hnm⟩ : ∃ nm, z0.getD i ByteArray.empty = nm := ⟨_, rfl⟩
          have hl := HL.out i hlt
          have hz := HS.out i hlt
          rw [hnm] at hcell hl hz
          obtain ⟨r, k7, k8⟩ := step_name w.heap.size wk w.heap.size n0 c0 i A0 z0 nm HLEN.out hn hlt hnm hl hz (tab_later HT.out hb) (Nat.le_refl _) hb.size hst
          have K7 := Lib.hid k7
          have K8 := Lib.hid k8
          have HB := Lib.hid hb
          subst ha
          have i0 : (0 : Int) ≤ (i : Int) := by omega
          clear k7 k8 hb hst hnm hl hz
          go_wp2_with fail
          refine K7.out.mono ?_
          rintro e w2 ⟨rfl, hb2, g, m, f, hg, hR, hU⟩
          have hB2 := HB.out.trans hb2
          have k8 := Lib.hid (K8.out w2 (strs_later HI.out hB2))
          have HB2 := Lib.hid hB2
          have HR2 := Lib.hid hR
          have HU2 := Lib.hid hU
          clear hb2 hR hU hB2
          go_wp2_with fail
          refine k8.out.mono ?_
          rintro e w3 ⟨rfl, hb3⟩
          have HB3 := Lib.hid (HB2.out.trans (hb3.mono HB2.out.size))
          have HR3 := Lib.hid (ren_later HR2.out hb3)
          clear hb3
          have tq : (r.toList != r.toList) = false := by simp
          go_wp2_with fail
          go_roundw
          case rel => exact ⟨i + 1, _, rfl, by omega, by go_num, HB3.out, .inr ⟨by omega, g, m, f, hg, HR3.out, HU2.out⟩⟩
          case measure => simp [intOf]; omega
        · have HB := Lib.hid hb
          clear hb hst
          go_wp2_with fail
          go_ret
          exact ⟨rfl, HB.out⟩
    · go_wp2_with fail
      go_ret
      exact ⟨rfl, Below.refl _ _⟩
  · go_wp2_with fail
    go_ret
    exact ⟨rfl, Below.refl _ _⟩
theorem of_laid {w : World} (hL : laidMetH Tryd.prog Rows.fnNextRenamedNameMatchesOccurrenceModelRow.laid w) : Tab w := by
  have hL' : laidMet Tryd.prog Rows.fnNextRenamedNameMatchesOccurrenceModelRow.laid w := hL
  have e1 : (Rows.laid_internal_strconv_uint64pow10 : DataW Unit) = Lib.tabData .u64 Lib.pow10Tab := by kernel_rfl
  have m1 : ("internal/strconv.uint64pow10", Lib.tabData .u64 Lib.pow10Tab) ∈ Rows.fnNextRenamedNameMatchesOccurrenceModelRow.laid := by rw [← e1]; exact .tail _ (.tail _ (.head _))
  obtain ⟨g, t, cs, fuel, p, hg, hty, hvar, hd⟩ := Lib.laidMet.reads hL' m1
  obtain rfl := Option.some.inj ((show Tryd.prog.globalNamed "internal/strconv.uint64pow10" = some 0 by kernel_rfl).symm.trans hg)
  obtain rfl := Option.some.inj ((show (Tryd.prog.globals[0]?).map (·.type) = some 47 by kernel_rfl).symm.trans hty)
  unfold Tab Lib.TabIs
  rw [hvar]
  have hc := Lib.cells_of_tab Tryd.underlying47 Tryd.underlying40 (by kernel_rfl) (by kernel_rfl) hd
  congr 1
  exact Array.ext' (by rw [hc])
end Go.Proofs.YtpagdibnhdfbfabDoor.NrD
