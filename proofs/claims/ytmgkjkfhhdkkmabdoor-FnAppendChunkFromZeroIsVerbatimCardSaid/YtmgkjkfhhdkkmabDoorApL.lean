/- FnAppendChunkFromZeroIsVerbatim: AppendSourceMapChunk. -/
import Derived.Test.YtmgkjkfhhdkkmabDoorRows
import Derived.Test.YtmgkjkfhhdkkmabDoorMem
import Derived.Test.YtmgkjkfhhdkkmabDoorSl
import Derived.Test.YtmgkjkfhhdkkmabDoorApK
import Derived.Deep.DeepCutAuto
import Derived.Deep.Cut
import Derived.Deep.RegionHeld3
import Derived.WalkKit
import Derived.ProofKit
import Derived.OpenShut
import Derived.Below
import Derived.WalkLawsBesides
import Derived.Lib.Hide
import Derived.Outline
import Derived.RegionTactic
import Derived.Deep.QuietTactic
import Derived.BigQuiet
import Derived.WalkSpells
import Derived.Deep.OwnRows
import Derived.IntWalk
import Derived.Deep.DeepMust
namespace Go.Proofs.YtmgkjkfhhdkkmabDoor.ApL
open Go.RowKit Mem Sl
set_option linter.unusedVariables false
open Own Vq ApA ApB ApJ ApC ApE ApF ApG ApH ApI ApK Args

/-- In the midst of AppendSourceMapChunk: the joiner, the two states in the blocks P and P + 1, the buffer in P + 2. -/
structure St (w : World) (B B0 j P : Nat) (x : Value) (D : List Int) (o : Option Nat) (l g a b c : Int) (ps : List (Value × List Int)) (lb : Int) (wx : World) : Prop where
  jp : Jp wx B j ps lb
  p : SevenAt wx P 0 0 0 0 0
  s : SevenAt wx (P + 1) l g a b c
  m : Row wx (P + 1 + 1) 43 [x, .int .u32 (ixOf o)]
  dx : Pc wx x D
  tab : B64 B0 wx
  bel : Below B w wx
  hB : B0 ≤ B
  hP : B ≤ P
section
variable {w wx w' : World} {B B0 j P : Nat} {x : Value} {D : List Int} {o : Option Nat} {l g a b c : Int} {ps : List (Value × List Int)} {lb : Int}
theorem b64_keep {B B0 : Nat} {w w' : World} (h : B64 B0 w) (hb : Below B w w') (hB : B0 ≤ B) : B64 B0 w' := h.below (hb.mono hB)
theorem St.added (h : St w B B0 j P x D o l g a b c ps lb wx) {y : Value} {ys : List Int} {lb' : Int} (hj : Jp w' B j (ps ++ [(y, ys)]) lb') (hk : KeepsJ wx w') (hb : Below B wx w') : St w B B0 j P x D o l g a b c (ps ++ [(y, ys)]) lb' w' :=
  ⟨hj, hk.row h.p (by decide) (by decide), hk.row h.s (by decide) (by decide), hk.row h.m (by decide) (by decide), h.dx.keep hk.keeps, b64_keep h.tab hb h.hB, h.bel.trans hb, h.hB, h.hP⟩
theorem jp_later {w w' : World} {B j : Nat} {ps : List (Value × List Int)} {lb : Int} (h : Jp w B j ps lb) (hb : Below w.heap.size w w') : Jp w' B j ps lb := by
  obtain ⟨⟨v, h1⟩, h2⟩ := h
  exact ⟨⟨v, h1.later hb⟩, fun p hp => (h2 p hp).keep (keeps_below hb)⟩
theorem jp_hB {w : World} {B j : Nat} {ps : List (Value × List Int)} {lb : Int} (h : Jp w B j ps lb) : B ≤ w.heap.size := by
  obtain ⟨⟨v, h1⟩, _⟩ := h
  exact h1.hB
theorem St.later (h : St w B B0 j P x D o l g a b c ps lb wx) (hb : Below wx.heap.size wx w') : St w B B0 j P x D o l g a b c ps lb w' :=
  ⟨jp_later h.jp hb, Row.below h.p hb (Row.lt h.p), Row.below h.s hb (Row.lt h.s), h.m.below hb h.m.lt, h.dx.keep (keeps_below hb), h.tab.below (hb.mono h.tab.1), h.bel.trans (hb.mono (jp_hB h.jp)), h.hB, h.hP⟩
theorem jp_set {w : World} {B j k : Nat} {ps : List (Value × List Int)} {lb : Int} {xs : List Value} (h : Jp w B j ps lb) (hr : Row w k 39 xs) (i : Nat) (u : Value) : Jp (w.setCell ⟨k, i, none⟩ u) B j ps lb := by
  obtain ⟨⟨v, h1⟩, h2⟩ := h
  have hkj : j ≠ k := fun e => by
    have h3 := h1.row
    rw [e] at h3
    unfold Row at h3 hr
    rw [hr] at h3
    cases h3
  refine ⟨⟨v, h1.row.far hkj u, own_keep h1.own fun g hg => Below.heap_setCell w ⟨k, i, none⟩ u g ?_, h1.hj, by simpa using h1.hB⟩, fun p hp => (h2 p hp).keep (keeps_set hr (by decide) i u)⟩
  rintro rfl
  rcases h1.own.2 with ⟨h0, _⟩ | ⟨g', cap, cur, h0, _, hh, _⟩
  · rw [h0] at hg; simp [Value.ownBlock] at hg
  · rw [h0] at hg
    have : g' = g := by simpa [Value.ownBlock] using hg
    subst this
    unfold Row at hr
    rw [hr] at hh
    cases hh
/-- A store into the first state. -/
theorem St.setP (h : St w B B0 j P x D o l g a b c ps lb wx) : St w B B0 j P x D o l g a b c ps lb (wx.setCell ⟨P, 1, none⟩ (.int .i64 0)) := by
  have h1 := h.p
  unfold SevenAt at h1
  exact ⟨jp_set h.jp h1 _ _, h1.set 1 _, Row.far h.s (by simp) _, h.m.far (by simp; omega) _, h.dx.keep (keeps_set h1 (by decide) _ _), b64_keep h.tab ((Below.refl B wx).setCell h.hP _) h.hB, h.bel.setCell h.hP _, h.hB, h.hP⟩
theorem St.setP6 (h : St w B B0 j P x D o l g a b c ps lb wx) : St w B B0 j P x D o l g a b c ps lb (wx.setCell ⟨P, 6, none⟩ (.bool false)) := by
  have h1 := h.p
  unfold SevenAt at h1
  exact ⟨jp_set h.jp h1 _ _, h1.set 6 _, Row.far h.s (by simp) _, h.m.far (by simp; omega) _, h.dx.keep (keeps_set h1 (by decide) _ _), b64_keep h.tab ((Below.refl B wx).setCell h.hP _) h.hB, h.bel.setCell h.hP _, h.hB, h.hP⟩
theorem St.set1 (h : St w B B0 j P x D o l g a b c ps lb wx) (z : Int) : St w B B0 j P x D o l z a b c ps lb (wx.setCell ⟨P + 1, 1, none⟩ (.int .i64 z)) := by
  have h1 := h.s
  unfold SevenAt at h1
  have hP := h.hP
  exact ⟨jp_set h.jp h1 _ _, Row.far h.p (by simp) _, h1.set 1 _, h.m.far (by simp) _, h.dx.keep (keeps_set h1 (by decide) _ _), b64_keep h.tab ((Below.refl B wx).setCell (show B ≤ P + 1 by omega) _) h.hB, h.bel.setCell (show B ≤ P + 1 by omega) _, h.hB, h.hP⟩
theorem St.set2 (h : St w B B0 j P x D o l g a b c ps lb wx) (z : Int) : St w B B0 j P x D o l g z b c ps lb (wx.setCell ⟨P + 1, 2, none⟩ (.int .i64 z)) := by
  have h1 := h.s
  unfold SevenAt at h1
  have hP := h.hP
  exact ⟨jp_set h.jp h1 _ _, Row.far h.p (by simp) _, h1.set 2 _, h.m.far (by simp) _, h.dx.keep (keeps_set h1 (by decide) _ _), b64_keep h.tab ((Below.refl B wx).setCell (show B ≤ P + 1 by omega) _) h.hB, h.bel.setCell (show B ≤ P + 1 by omega) _, h.hB, h.hP⟩
theorem St.set3 (h : St w B B0 j P x D o l g a b c ps lb wx) (z : Int) : St w B B0 j P x D o l g a z c ps lb (wx.setCell ⟨P + 1, 3, none⟩ (.int .i64 z)) := by
  have h1 := h.s
  unfold SevenAt at h1
  have hP := h.hP
  exact ⟨jp_set h.jp h1 _ _, Row.far h.p (by simp) _, h1.set 3 _, h.m.far (by simp) _, h.dx.keep (keeps_set h1 (by decide) _ _), b64_keep h.tab ((Below.refl B wx).setCell (show B ≤ P + 1 by omega) _) h.hB, h.bel.setCell (show B ≤ P + 1 by omega) _, h.hB, h.hP⟩
theorem St.set4 (h : St w B B0 j P x D o l g a b c ps lb wx) (z : Int) : St w B B0 j P x D o l g a b z ps lb (wx.setCell ⟨P + 1, 4, none⟩ (.int .i64 z)) := by
  have h1 := h.s
  unfold SevenAt at h1
  have hP := h.hP
  exact ⟨jp_set h.jp h1 _ _, Row.far h.p (by simp) _, h1.set 4 _, h.m.far (by simp) _, h.dx.keep (keeps_set h1 (by decide) _ _), b64_keep h.tab ((Below.refl B wx).setCell (show B ≤ P + 1 by omega) _) h.hB, h.bel.setCell (show B ≤ P + 1 by omega) _, h.hB, h.hP⟩
end
/-- What AppendSourceMapChunk leaves. -/
def Chk (w : World) (B j ln : Nat) (D : List Int) (e : Ending) (w' : World) : Prop := e = .returned (.tuple #[]) ∧ ∃ ps lb, Jp w' B j ps lb ∧ 2 ≤ ps.length ∧ ps.length ≤ 10 ∧ flat ps = List.replicate ln 59 ++ D ∧ Below B w w'
theorem rep_last (ln : Nat) (h : 0 < ln) : (if (List.replicate ln (59 : Int)).length = 0 then (0 : Int) else (List.replicate ln (59 : Int)).getD ((List.replicate ln (59 : Int)).length - 1) 0) = 59 := by
  rw [if_neg (by simp; omega)]
  simp only [List.getD, List.length_replicate, List.getElem?_replicate]
  rw [if_pos (by omega)]
  rfl
theorem ch_ne : ∀ d : Nat, d < 64 → ch d ≠ 59 ∧ ch d ≠ 44 := by
  have h : (List.range 64).all (fun d => ch d != 59 && ch d != 44) = true := by decide
  intro d hd
  have := List.all_eq_true.1 h d (List.mem_range.2 hd)
  simpa using this
theorem code_head (n : Nat) : ∃ d t, d < 64 ∧ code n = ch d :: t := by
  rcases Nat.lt_or_ge n 32 with h | h
  · exact ⟨n, [], by omega, code_small n h⟩
  · exact ⟨n % 32 + 32, _, by omega, code_big n h⟩
theorem pc_ints {w : World} {A : Option Addr} {n c : Nat} {D : List Int} (h : Pc w (.slice A n c) D) : IsInts .u8 w A n c D := by
  obtain ⟨A', c', h1, h2⟩ := h.ints
  injection h1 with e1 e2 e3
  subst e1 e3
  rw [e2]
  exact h2
theorem at_of {D X R : List Int} {n : Nat} (h : D = X ++ code n ++ R) {S : Nat} (hS : X.length = S) : At D S n := by
  refine ⟨R, ?_⟩
  rw [h, ← hS, List.append_assoc, List.drop_left]
theorem at_letter {D : List Int} {S n : Nat} (h : At D S n) : S < D.length ∧ 0 ≤ D.getD S 0 ∧ D.getD S 0 ≤ 255 ∧ D.getD S 0 ≠ 59 ∧ D.getD S 0 ≠ 44 := by
  rcases Nat.lt_or_ge n 32 with hn | hn
  · obtain ⟨h1, h2⟩ := h.head_small hn
    rw [h1]
    exact ⟨h2, (ch_bounds (by omega)).1, (ch_bounds (by omega)).2, ch_ne n (by omega)⟩
  · obtain ⟨h1, h2, _⟩ := h.head_big hn
    rw [h1]
    exact ⟨h2, (ch_bounds (by omega)).1, (ch_bounds (by omega)).2, ch_ne (n % 32 + 32) (by omega)⟩
theorem vlq_small {v : Int} (h : Sm v) : vlqOf v < 32768 := by
  unfold Sm at h
  unfold vlqOf
  split <;> omega
/-- Behind the semicolons. -/
def StB (w : World) (B B0 j P ln : Nat) (x : Value) (D : List Int) (o : Option Nat) (pre : List Int) (wx : World) : Prop := ∃ ps lb, St w B B0 j P x D o ln 0 0 0 0 ps lb wx ∧ ps.length ≤ 2 ∧ flat ps = List.replicate ln 59 ++ pre ∧ (lb = 0 ∨ lb = 59)
/-- Behind the line breaks. -/
def StA (w : World) (B B0 j P ln : Nat) (x : Value) (D : List Int) (o : Option Nat) (wx : World) : Prop := ∃ ps lb, St w B B0 j P x D o ln 0 0 0 0 ps lb wx ∧ ps.length ≤ 1 ∧ flat ps = List.replicate ln 59 ∧ (lb = 0 ∨ lb = 59)
theorem st0 {w : World} {B B0 j : Nat} {x : Value} {D : List Int} {o : Option Nat} {ln : Nat} (hj : Jp w B j [] 0) (hx : Pc w x D) (hL : B64 B0 w) (hB0 : B0 ≤ B) :
    St w B B0 j w.heap.size x D o ln 0 0 0 0 [] 0 (((w.alloc (.cells #[.int .i64 0, .int .i64 0, .int .i64 0, .int .i64 0, .int .i64 0, .int .i64 0, .bool false] 39)).alloc (.cells #[.int .i64 (ln : Int), .int .i64 0, .int .i64 0, .int .i64 0, .int .i64 0, .int .i64 0, .bool false] 39)).alloc (.cells #[x, .int .u32 (ixOf o)] 43)) := by
  have hb := jp_hB hj
  have s1 : (w.alloc (.cells #[.int .i64 0, .int .i64 0, .int .i64 0, .int .i64 0, .int .i64 0, .int .i64 0, .bool false] 39)).heap.size = w.heap.size + 1 := by simp
  have s2 : ((w.alloc (.cells #[.int .i64 0, .int .i64 0, .int .i64 0, .int .i64 0, .int .i64 0, .int .i64 0, .bool false] 39)).alloc (.cells #[.int .i64 (ln : Int), .int .i64 0, .int .i64 0, .int .i64 0, .int .i64 0, .int .i64 0, .bool false] 39)).heap.size = w.heap.size + 1 + 1 := by simp
  have hbl : Below w.heap.size w (((w.alloc (.cells #[.int .i64 0, .int .i64 0, .int .i64 0, .int .i64 0, .int .i64 0, .int .i64 0, .bool false] 39)).alloc (.cells #[.int .i64 (ln : Int), .int .i64 0, .int .i64 0, .int .i64 0, .int .i64 0, .int .i64 0, .bool false] 39)).alloc (.cells #[x, .int .u32 (ixOf o)] 43)) := (((Below.refl _ _).alloc (Nat.le_refl _) _).alloc (by simp) _).alloc (by simp; omega) _
  refine ⟨jp_later hj hbl, ((Row.newArr w 39 _).alloc _).alloc _, ?_, ?_, hx.keep (keeps_below hbl), hL.below (hbl.mono hL.1), hbl.mono hb, hB0, hb⟩
  · have h := (Row.newArr (w.alloc (.cells #[.int .i64 0, .int .i64 0, .int .i64 0, .int .i64 0, .int .i64 0, .int .i64 0, .bool false] 39)) 39 #[.int .i64 (ln : Int), .int .i64 0, .int .i64 0, .int .i64 0, .int .i64 0, .int .i64 0, .bool false]).alloc (.cells #[x, .int .u32 (ixOf o)] 43)
    rw [s1] at h
    exact h
  · have h := Row.newArr ((w.alloc (.cells #[.int .i64 0, .int .i64 0, .int .i64 0, .int .i64 0, .int .i64 0, .int .i64 0, .bool false] 39)).alloc (.cells #[.int .i64 (ln : Int), .int .i64 0, .int .i64 0, .int .i64 0, .int .i64 0, .int .i64 0, .bool false] 39)) 43 #[x, .int .u32 (ixOf o)]
    rw [s2] at h
    exact h
theorem seg4_wf {g a b c : Int} : ∀ z ∈ seg4 g a b c, (Lit.int .u8 z).wf = true := by
  intro z hz
  unfold seg4 at hz
  simp only [List.mem_append] at hz
  rcases hz with ((hz | hz) | hz) | hz <;> exact code_wf _ z hz
theorem seven_at {W : World} {q : Nat} {l g a o c : Int} (h : SevenAt W q l g a o c) : W.cell? ⟨q, 0, none⟩ = some (.int .i64 l) ∧ W.cell? ⟨q, 1, none⟩ = some (.int .i64 g) ∧ W.cell? ⟨q, 2, none⟩ = some (.int .i64 a) ∧ W.cell? ⟨q, 3, none⟩ = some (.int .i64 o) ∧ W.cell? ⟨q, 4, none⟩ = some (.int .i64 c) ∧ W.cell? ⟨q, 5, none⟩ = some (.int .i64 0) ∧ W.cell? ⟨q, 6, none⟩ = some (.bool false) := by
  unfold SevenAt at h
  exact ⟨h.at_ rfl, h.at_ rfl, h.at_ rfl, h.at_ rfl, h.at_ rfl, h.at_ rfl, h.at_ rfl⟩
theorem st_cells {w wx : World} {B B0 j P : Nat} {x : Value} {D : List Int} {o : Option Nat} {l g a b c : Int} {ps : List (Value × List Int)} {lb : Int} (h : St w B B0 j P x D o l g a b c ps lb wx) : ∀ w', Below wx.heap.size wx w' →
    w'.cell? ⟨P, 0, none⟩ = some (.int .i64 0) ∧ w'.cell? ⟨P, 1, none⟩ = some (.int .i64 0) ∧ w'.cell? ⟨P, 2, none⟩ = some (.int .i64 0) ∧ w'.cell? ⟨P, 3, none⟩ = some (.int .i64 0) ∧ w'.cell? ⟨P, 4, none⟩ = some (.int .i64 0) ∧ w'.cell? ⟨P, 5, none⟩ = some (.int .i64 0) ∧ w'.cell? ⟨P, 6, none⟩ = some (.bool false) ∧ w'.cell? ⟨P + 1, 0, none⟩ = some (.int .i64 l) ∧ w'.cell? ⟨P + 1, 1, none⟩ = some (.int .i64 g) ∧ w'.cell? ⟨P + 1, 2, none⟩ = some (.int .i64 a) ∧ w'.cell? ⟨P + 1, 3, none⟩ = some (.int .i64 b) ∧ w'.cell? ⟨P + 1, 4, none⟩ = some (.int .i64 c) ∧ w'.cell? ⟨P + 1, 5, none⟩ = some (.int .i64 0) ∧ w'.cell? ⟨P + 1, 6, none⟩ = some (.bool false) := by
  intro w' hb
  obtain ⟨a0, a1, a2, a3, a4, a5, a6⟩ := seven_at (h.later hb).p
  obtain ⟨b0, b1, b2, b3, b4, b5, b6⟩ := seven_at (h.later hb).s
  exact ⟨a0, a1, a2, a3, a4, a5, a6, b0, b1, b2, b3, b4, b5, b6⟩
theorem st_last {w wx : World} {B B0 j P : Nat} {x : Value} {D : List Int} {o : Option Nat} {l g a b c : Int} {ps : List (Value × List Int)} {lb : Int} (h : St w B B0 j P x D o l g a b c ps lb wx) : ∀ w', Below wx.heap.size wx w' →
    Calls Tryd.prog 19 #[.pointer (some ⟨j, 0, none⟩)] w' fun e w'' => e = .returned (.int .u8 lb) ∧ w' = w'' := by
  intro w' hb
  obtain ⟨⟨v, h1⟩, _⟩ := (h.later hb).jp
  exact last19 B j v _ _ lb w' h1
theorem st_map {w wx : World} {B B0 j P : Nat} {x : Value} {D : List Int} {o : Option Nat} {l g a b c : Int} {ps : List (Value × List Int)} {lb : Int} (h : St w B B0 j P x D o l g a b c ps lb wx) (hlb : lb = 0 ∨ lb = 59) (hg : Sm g) (ha : Sm a) (hb : Sm b) (hc : Sm c) : ∀ w', Below wx.heap.size wx w' →
    Calls Tryd.prog 18 #[.slice none 0 0, .int .u8 lb, zst, .agg #[.int .i64 l, .int .i64 g, .int .i64 a, .int .i64 b, .int .i64 c, .int .i64 0, .bool false], .bool false] w' (Mapd w' g a b c) := by
  intro w' hb'
  exact app18 lb hlb l g a b c hg ha hb hc w' B0 (h.later hb').tab
theorem pc_zero (w : World) (A : Option Addr) : Pc w (.slice A 0 0) [] := ⟨A, 0, rfl, Nat.le_refl _, Nat.zero_le _, by simp, fun _ => rfl, fun h => absurd h (by omega)⟩
theorem el23 : Tryd.prog.elem 23 = 5 := by kernel_rfl
theorem sz5w : ∀ W : World, (Go.sizeOf 5).run Tryd.prog W = .ok 1 W := fun _ => by kernel_rfl
theorem tail_sl (dg doff nD XC L : Nat) (hL : L ≤ nD) (hc : nD ≤ XC) : ∃ y, (∀ W : World, (Instr.slice 23 (.slice (some ⟨dg, doff, none⟩) nD XC) (some (.int .i64 (L : Int))) none none).run Tryd.prog W = .ok y W) ∧
    ∀ (W : World) (D : List Int), Pc W (.slice (some ⟨dg, doff, none⟩) nD XC) D → D.length = nD → Pc W y (D.drop L) := by
  refine ⟨sliced (some ⟨dg, doff, none⟩) L nD XC 1, fun W => ?_, fun W D h hD => ?_⟩
  · rw [run_slice_l W 23 _ _ _ (by rw [el23]; exact Tryd.underlying23) .i64 _ (by omega) (by omega), el23, sz5w]
    simp [Result.andThen]
  · unfold sliced
    by_cases h0 : XC = L
    · rw [if_pos h0]
      have e1 : nD - L = 0 := by omega
      have e2 : XC - L = 0 := by omega
      rw [e1, e2, List.drop_of_length_le (by omega)]
      exact pc_zero W _
    · rw [if_neg h0]
      have h9 := h.sub L nD hL (by omega) (by omega)
      rw [List.take_of_length_le (by rw [List.length_drop]; omega)] at h9
      have e : (some (⟨dg, doff, none⟩ : Addr)).map (·.add (L * 1)) = some ⟨dg, doff + L, none⟩ := by
        unfold Addr.add
        by_cases h1 : L = 0 <;> simp [h1]
      rw [e]
      exact h9
theorem drop_mid {P C D0 D1 D : List Int} {R : List Int} {L v L5 : Nat} (h1 : D = P ++ R) (h2 : P.length = L) (h3 : D = D0 ++ C ++ D1) (h4 : D0.length = v) (h5 : L ≤ v) (h6 : L5 = v + C.length) : P ++ (D.drop L).take (v - L) ++ C ++ D.drop L5 = D := by
  have e1 : P = D.take L := by rw [h1, ← h2, List.take_left]
  have e2 : D0 = D.take v := by rw [h3, List.append_assoc, ← h4, List.take_left]
  have e3 : D.drop L5 = D1 := by rw [h3, h6, ← h4, ← List.length_append, List.drop_left]
  have e4 : D.take L ++ (D.drop L).take (v - L) = D.take v := by
    rw [← List.take_add]; congr 1; omega
  rw [e1, e4, e3, ← e2, ← h3]
theorem mid_sl (dg doff nD XC L v : Nat) (hL : L ≤ v) (hv : v ≤ nD) (hc : nD ≤ XC) : ∃ y, (∀ W : World, (Instr.slice 23 (.slice (some ⟨dg, doff, none⟩) nD XC) (some (.int .i64 (L : Int))) (some (.int .i64 (v : Int))) none).run Tryd.prog W = .ok y W) ∧
    ∀ (W : World) (D : List Int), Pc W (.slice (some ⟨dg, doff, none⟩) nD XC) D → D.length = nD → Pc W y ((D.drop L).take (v - L)) := by
  refine ⟨sliced (some ⟨dg, doff, none⟩) L v XC 1, fun W => ?_, fun W D h hD => ?_⟩
  · rw [run_slice_lh W 23 _ _ _ (by rw [el23]; exact Tryd.underlying23) .i64 .i64 _ _ (by omega) (by omega) (by omega), el23, sz5w]
    simp [Result.andThen]
  · unfold sliced
    by_cases h0 : XC = L
    · rw [if_pos h0]
      have e1 : v - L = 0 := by omega
      have e2 : XC - L = 0 := by omega
      rw [e1, e2, List.take_zero]
      exact pc_zero W _
    · rw [if_neg h0]
      have h9 := h.sub L v hL (by omega) (by omega)
      have e : (some (⟨dg, doff, none⟩ : Addr)).map (·.add (L * 1)) = some ⟨dg, doff + L, none⟩ := by
        unfold Addr.add
        by_cases h1 : L = 0 <;> simp [h1]
      rw [e]
      exact h9
set_option maxRecDepth 100000 in
set_option maxHeartbeats 16000000 in
theorem chk9 (j ln : Nat) (x : Value) (D : List Int) (o : Option Nat) (B B0 : Nat) (w : World) (hj : Jp w B j [] 0) (hx : Pc w x D) (hL : B64 B0 w) (hB0 : B0 ≤ B) (hln : ln ≤ 4096) (hD : D.length ≤ 100000) (ho : ∀ v, o = some v → v ≤ 100000) (hC : Chunk D o) :
    Calls Tryd.prog 9 #[.pointer (some ⟨j, 0, none⟩), zst, .agg #[.int .i64 (ln : Int), .int .i64 0, .int .i64 0, .int .i64 0, .int .i64 0, .int .i64 0, .bool false], mbuf x o] w (Chk w B j ln D) := by
  unfold zst mbuf
  have HCH := Lib.hid hC
  have HST := Lib.hid (st0 (o := o) (ln := ln) hj hx hL hB0)
  clear hj hx hL hC
  go_enter Tryd.func9, Tryd.ntmps9
  go_upto_if 22 with fail
  generalize hW3 : ((w.alloc (.cells #[.int .i64 0, .int .i64 0, .int .i64 0, .int .i64 0, .int .i64 0, .int .i64 0, .bool false] 39)).alloc (.cells #[.int .i64 (ln : Int), .int .i64 0, .int .i64 0, .int .i64 0, .int .i64 0, .int .i64 0, .bool false] 39)).alloc (.cells #[x, .int .u32 (ixOf o)] 43) = W3 at HST ⊢
  clear hW3
  go_cut [] (fun wx => StA w B B0 j w.heap.size ln x D o wx)
  case first =>
    rcases Nat.eq_zero_or_pos ln with h0 | h0
    · subst h0
      go_wp2_with fail
      go_meet
      case rel => exact ⟨[], 0, HST.out, by simp, rfl, .inl rfl⟩
    · have tl : ((ln : Int) != 0) = true := by simp; omega
      have hb4 : Below W3.heap.size W3 (W3.alloc (.cells #[.int .u8 59] 5)) := (Below.refl _ _).alloc (Nat.le_refl _) _
      have HS4 := Lib.hid (HST.out.later hb4)
      have c0 := Row.at_ HS4.out.s (i := 0) rfl
      have HR := Lib.hid (rep15 W3.heap.size ln _ ((Row.newArr W3 5 #[.int .u8 59]).at_ (i := 0) rfl) (by simp) h0 hln)
      go_upto_region 3 with (first | (go_at_call 15; (with_reducible refine HR.out.mono ?_); rintro e w5 ⟨y, rfl, hy, hb5⟩; have HS5 := Lib.hid (HS4.out.later hb5); have HY := Lib.hid hy; have HA := Lib.hid (addP B j [] 0 y (List.replicate ln 59) w5 HS5.out.jp hy (by simp) (by simp; omega) (by simp [flat])); clear hy hb5) | (go_at_call 14; (with_reducible refine HA.out.mono ?_); rintro e w6 ⟨rfl, hj6, hk6, hb6⟩; have HS6 := Lib.hid (HS5.out.added hj6 hk6 hb6); clear hj6 hk6 hb6))
      have d1 := Row.at_ HS6.out.p (i := 1) rfl
      have f1 := Row.frozen HS6.out.p 1
      go_wp2_with fail
      go_meet
      case rel => exact ⟨_, _, HS6.out.setP, by simp, by simp [flat], .inr (rep_last ln h0)⟩
  case rest =>
  obtain ⟨ps, lb, hst, hps, hfl, hlb⟩ := hcut
  have HS1 := Lib.hid hst
  have HPS := Lib.hid hps
  have HFL := Lib.hid hfl
  have HLB := Lib.hid hlb
  clear hst hps hfl hlb HST
  obtain ⟨pre, g, a, b, c, rest, hpre, hg, ha, hb, hc, hDe, hnm⟩ := HCH.out
  obtain ⟨d0, t0, hd0, hcode⟩ := code_head (vlqOf g)
  have hpl : pre.length ≤ 1 := by rcases hpre with rfl | rfl <;> simp
  have hsix : pre.length < D.length := by rw [hDe]; unfold seg4; rw [hcode]; simp only [List.length_append, List.length_cons]; omega
  have hat : ∀ i, i ≤ pre.length → (i < pre.length → D.getD i 0 = 59) ∧ (i = pre.length → D.getD i 0 ≠ 59) := by
    intro i hi
    refine ⟨fun h => ?_, fun h => ?_⟩
    · rcases hpre with rfl | rfl
      · simp at h
      · have : i = 0 := by simp at h; exact h
        subst this
        rw [hDe]; rfl
    · subst h
      rw [hDe]
      unfold seg4
      rw [hcode]
      have : (pre ++ (ch d0 :: t0 ++ code (vlqOf a) ++ code (vlqOf b) ++ code (vlqOf c)) ++ rest).getD pre.length 0 = ch d0 := by
        simp [List.getD]
      rw [this]
      exact (ch_ne d0 hd0).1
  have HAT := Lib.hid hat
  have HDE := Lib.hid hDe
  have HNM := Lib.hid hnm
  have HPRE := Lib.hid hpre
  obtain ⟨XA, XC, hx, hxi⟩ := HS1.out.dx.ints
  obtain ⟨dg, doff, hxa, hdg, hcell⟩ := hxi.2.2.2.2.2 (Nat.lt_of_lt_of_le (Nat.lt_of_le_of_lt (Nat.zero_le _) hsix) hxi.1)
  have HXI := Lib.hid hxi
  subst hxa
  subst hx
  have HCELL := Lib.hid hcell
  generalize hnD : D.length = nD at *
  clear hat hDe hnm hpre hcode hxi hcell
  have HND := Lib.hid hnD
  clear hnD
  generalize hpn : pre.length = pn at *
  have HPN := Lib.hid hpn
  clear hpn
  have m0 := HS1.out.m.at_ (i := 0) rfl
  go_wp2_with fail
  go_loop [8] (fun x8 => ∃ k : Nat, k ≤ pn ∧ x8 = .int .i64 (k : Int)) (fun x8 => 2 - (intOf x8).toNat)
  case atStart => exact ⟨0, Nat.zero_le _, rfl⟩
  case round =>
    obtain ⟨k, hk, rfl⟩ := hrel
    have c1 := HCELL.out k (by omega)
    obtain ⟨h1, h2⟩ := HAT.out k hk
    generalize D.getD k 0 = z at c1 h1 h2
    by_cases hlt : k < pn
    · have tz : (z == 59) = true := by simp [h1 hlt]
      clear h1 h2
      go_wp2_with fail
      go_round
      case rel => exact ⟨k + 1, by omega, by go_num⟩
      case measure => simp [intOf]; omega
    · obtain rfl : k = pn := by omega
      have tz : (z == 59) = false := by simpa using h2 rfl
      clear h1 h2 hk hlt
      go_upto_region 7 with fail
      go_upto_if 39 with fail
      go_cut [] (fun wx => StB w B B0 j w.heap.size ln (.slice (some ⟨dg, doff, none⟩) nD XC) D o pre wx)
      case first =>
        rcases HPRE.out with hp | hp
        · have hk0 : k = 0 := by rw [← HPN.out, hp]; rfl
          subst hk0
          have HP0 := Lib.hid hp
          clear hp
          go_wp2_with fail
          go_meet
          case rel => exact ⟨ps, lb, HS1.out, by have := HPS.out; omega, by rw [HFL.out, HP0.out, List.append_nil], HLB.out⟩
        · have hk0 : k = 1 := by rw [← HPN.out, hp]; rfl
          subst hk0
          have HP0 := Lib.hid hp
          clear hp
          have hsub : Pc wc (.slice (some ⟨dg, doff, none⟩) 1 XC) [59] := by
            have h9 := HS1.out.dx.sub 0 1 (by omega) (by rw [HND.out]; omega) (by have := HXI.out.1; omega)
            rw [HDE.out, HP0.out] at h9
            simpa using h9
          have HSUB := Lib.hid hsub
          have j1 : (1 : Int) ≤ (nD : Int) := by omega
          have j2 : (nD : Int) ≤ (XC : Int) := by have := HXI.out.1; omega
          have HA := Lib.hid (addP B j ps lb (.slice (some ⟨dg, doff, none⟩) 1 XC) [59] _ HS1.out.jp hsub (by have := HPS.out; omega) (by simp) (by rw [HFL.out]; simp; omega))
          clear hsub
          go_upto_region 9 with (go_at_call 14; (with_reducible refine HA.out.mono ?_); rintro e w6 ⟨rfl, hj6, hk6, hb6⟩; have HS6 := Lib.hid (HS1.out.added hj6 hk6 hb6); clear hj6 hk6 hb6)
          have d1 := Row.at_ HS6.out.p (i := 1) rfl
          have f1 := Row.frozen HS6.out.p 1
          go_upto_region 10 with fail
          have HS7 := Lib.hid HS6.out.setP
          generalize hW7 : w6.setCell ⟨w.heap.size, 1, none⟩ (.int .i64 0) = W7 at HS7 ⊢
          clear hW7 d1 f1
          have d2 := Row.at_ HS7.out.s (i := 1) rfl
          have f2 := Row.frozen HS7.out.s 1
          go_wp2_with fail
          go_meet
          case rel => exact ⟨_, _, HS7.out.set1 0, by have := HPS.out; simp; omega, by rw [flat_snoc, HFL.out, HP0.out], .inr rfl⟩
      case rest =>
      obtain ⟨ps2, lb2, hst, hps2, hfl2, hlb2⟩ := hcut
      have HS2 := Lib.hid hst
      have HPS2 := Lib.hid hps2
      have HFL2 := Lib.hid hfl2
      have HLB2 := Lib.hid hlb2
      clear hst hps2 hfl2 hlb2 HS1 HPS HFL HLB m0 c1 tz
      have Hg := Lib.hid hg
      have Ha := Lib.hid ha
      have Hb := Lib.hid hb
      have Hc := Lib.hid hc
      clear hg ha hb hc
      have HA0 := Lib.hid (at_of (n := vlqOf g) (D := D) (X := pre) (R := code (vlqOf a) ++ code (vlqOf b) ++ code (vlqOf c) ++ rest) (by rw [HDE.out]; simp only [seg4, List.append_assoc]) HPN.out)
      obtain ⟨L1, hL1⟩ : ∃ L, L = k + (code (vlqOf g)).length := ⟨_, rfl⟩
      have HA1 := Lib.hid (at_of (n := vlqOf a) (D := D) (X := pre ++ code (vlqOf g)) (R := code (vlqOf b) ++ code (vlqOf c) ++ rest) (S := L1) (by rw [HDE.out]; simp only [seg4, List.append_assoc]) (by rw [List.length_append, HPN.out, hL1]))
      obtain ⟨L2, hL2⟩ : ∃ L, L = L1 + (code (vlqOf a)).length := ⟨_, rfl⟩
      have HA2 := Lib.hid (at_of (n := vlqOf b) (D := D) (X := pre ++ code (vlqOf g) ++ code (vlqOf a)) (R := code (vlqOf c) ++ rest) (S := L2) (by rw [HDE.out]; simp only [seg4, List.append_assoc]) (by rw [List.length_append, List.length_append, HPN.out, hL2, hL1]))
      obtain ⟨L3, hL3⟩ : ∃ L, L = L2 + (code (vlqOf b)).length := ⟨_, rfl⟩
      have HA3 := Lib.hid (at_of (n := vlqOf c) (D := D) (X := pre ++ code (vlqOf g) ++ code (vlqOf a) ++ code (vlqOf b)) (R := rest) (S := L3) (by rw [HDE.out]; simp only [seg4, List.append_assoc]) (by rw [List.length_append, List.length_append, List.length_append, HPN.out, hL3, hL2, hL1]))
      obtain ⟨L4, hL4⟩ : ∃ L, L = L3 + (code (vlqOf c)).length := ⟨_, rfl⟩
      have hD4 : L4 ≤ nD := by
        rw [← HND.out, HDE.out]
        have h9 := HPN.out
        unfold seg4
        simp only [List.length_append]
        omega
      have HL1 := Lib.hid hL1
      have HL2 := Lib.hid hL2
      have HL3 := Lib.hid hL3
      have HL4 := Lib.hid hL4
      clear hL1 hL2 hL3 hL4
      have HT0 := HS2
      have m0 := HT0.out.m.at_ (i := 0) rfl
      have HE0 : Hid (Calls Tryd.prog 16 #[.slice (some ⟨dg, doff, none⟩) nD XC, .int .i64 (k : Int)] _ fun e w' => e = .returned (.tuple #[.int .i64 g, .int .i64 (L1 : Int)]) ∧ Below _ _ w') := Lib.hid ((dec16 (some ⟨dg, doff, none⟩) nD XC (vlqOf g) k D _ (pc_ints HT0.out.dx) (by omega) B0 HT0.out.tab HA0.out (vlq_small Hg.out)).mono fun e w' h9 => ⟨by rw [h9.1, valOf_vlq, ← HL1.out], h9.2⟩)
      go_upto_region 16 with (go_at_call 16; (with_reducible refine HE0.out.mono ?_); rintro e wd0 ⟨rfl, hb0⟩; have HT1 := Lib.hid (HT0.out.later hb0); clear hb0)
      clear m0
      have m1 := HT1.out.m.at_ (i := 0) rfl
      obtain ⟨hlt1, z0, z1, z2, z3⟩ := at_letter HA1.out
      have cz := (pc_ints HT1.out.dx).read L1 (by rw [← HND.out]; exact hlt1)
      obtain ⟨qb, qo, qa, ql, qc⟩ := cz
      injection qa with qa
      injection qa with qa1 qa2
      subst qa1 qa2
      generalize D.getD L1 0 = z at qc z0 z1 z2 z3
      have hlt2 : L1 < nD := by rw [← HND.out]; exact hlt1
      have tne : ((L1 : Int) == (nD : Int)) = false := by simp; omega
      have HIX := Lib.hid (fun W => ix17 z W z3 z2 z0 z1)
      clear hlt1
      go_upto_region 18 with (go_at_call 17; (with_reducible refine (HIX.out _).mono ?_); rintro e w9 ⟨rfl, rfl⟩)
      clear m1 tne qc
      have m1 := HT1.out.m.at_ (i := 0) rfl
      have HE1 : Hid (Calls Tryd.prog 16 #[.slice (some ⟨dg, doff, none⟩) nD XC, .int .i64 (L1 : Int)] _ fun e w' => e = .returned (.tuple #[.int .i64 a, .int .i64 (L2 : Int)]) ∧ Below _ _ w') := Lib.hid ((dec16 (some ⟨dg, doff, none⟩) nD XC (vlqOf a) L1 D _ (pc_ints HT1.out.dx) (by omega) B0 HT1.out.tab HA1.out (vlq_small Ha.out)).mono fun e w' h9 => ⟨by rw [h9.1, valOf_vlq, ← HL2.out], h9.2⟩)
      go_upto_region 19 with (go_at_call 16; (with_reducible refine HE1.out.mono ?_); rintro e wd1 ⟨rfl, hb1⟩; have HT2 := Lib.hid (HT1.out.later hb1); clear hb1)
      clear m1
      have m2 := HT2.out.m.at_ (i := 0) rfl
      have HE2 : Hid (Calls Tryd.prog 16 #[.slice (some ⟨dg, doff, none⟩) nD XC, .int .i64 (L2 : Int)] _ fun e w' => e = .returned (.tuple #[.int .i64 b, .int .i64 (L3 : Int)]) ∧ Below _ _ w') := Lib.hid ((dec16 (some ⟨dg, doff, none⟩) nD XC (vlqOf b) L2 D _ (pc_ints HT2.out.dx) (by omega) B0 HT2.out.tab HA2.out (vlq_small Hb.out)).mono fun e w' h9 => ⟨by rw [h9.1, valOf_vlq, ← HL3.out], h9.2⟩)
      go_upto_region 20 with (go_at_call 16; (with_reducible refine HE2.out.mono ?_); rintro e wd2 ⟨rfl, hb2⟩; have HT3 := Lib.hid (HT2.out.later hb2); clear hb2)
      clear m2
      have m3 := HT3.out.m.at_ (i := 0) rfl
      have HE3 : Hid (Calls Tryd.prog 16 #[.slice (some ⟨dg, doff, none⟩) nD XC, .int .i64 (L3 : Int)] _ fun e w' => e = .returned (.tuple #[.int .i64 c, .int .i64 (L4 : Int)]) ∧ Below _ _ w') := Lib.hid ((dec16 (some ⟨dg, doff, none⟩) nD XC (vlqOf c) L3 D _ (pc_ints HT3.out.dx) (by omega) B0 HT3.out.tab HA3.out (vlq_small Hc.out)).mono fun e w' h9 => ⟨by rw [h9.1, valOf_vlq, ← HL4.out], h9.2⟩)
      go_upto_region 21 with (go_at_call 16; (with_reducible refine HE3.out.mono ?_); rintro e wd3 ⟨rfl, hb3⟩; have HT4 := Lib.hid (HT3.out.later hb3); clear hb3)
      clear m3
      obtain ⟨g0, g1⟩ := Hg.out
      obtain ⟨a0, a1⟩ := Ha.out
      obtain ⟨b0, b1⟩ := Hb.out
      obtain ⟨c0, c1⟩ := Hc.out
      have q0 := Row.at_ HT4.out.s (i := 1) rfl
      have r0 := Row.frozen HT4.out.s 1
      go_upto_region 22 with fail
      have HT5 := Lib.hid (HT4.out.set1 g)
      generalize hW0 : wd3.setCell ⟨w.heap.size + 1, 1, none⟩ (.int .i64 g) = wst0 at HT5 ⊢
      clear hW0 q0 r0
      have q1 := Row.at_ HT5.out.s (i := 2) rfl
      have r1 := Row.frozen HT5.out.s 2
      go_upto_region 23 with fail
      have HT6 := Lib.hid (HT5.out.set2 a)
      generalize hW1 : wst0.setCell ⟨w.heap.size + 1, 2, none⟩ (.int .i64 a) = wst1 at HT6 ⊢
      clear hW1 q1 r1
      have q2 := Row.at_ HT6.out.s (i := 3) rfl
      have r2 := Row.frozen HT6.out.s 3
      go_upto_region 24 with fail
      have HT7 := Lib.hid (HT6.out.set3 b)
      generalize hW2 : wst1.setCell ⟨w.heap.size + 1, 3, none⟩ (.int .i64 b) = wst2 at HT7 ⊢
      clear hW2 q2 r2
      have q3 := Row.at_ HT7.out.s (i := 4) rfl
      have r3 := Row.frozen HT7.out.s 4
      go_upto_region 25 with fail
      have HT8 := Lib.hid (HT7.out.set4 c)
      generalize hW3 : wst2.setCell ⟨w.heap.size + 1, 4, none⟩ (.int .i64 c) = wst3 at HT8 ⊢
      clear hW3 q3 r3
      have q4 := Row.at_ HT8.out.p (i := 6) rfl
      have r4 := Row.frozen HT8.out.p 6
      go_upto_region 26 with fail
      have HT9 := Lib.hid HT8.out.setP6
      generalize hW4 : wst3.setCell ⟨w.heap.size, 6, none⟩ (.bool false) = wst4 at HT9 ⊢
      clear hW4 q4 r4 HT0 HT1 HT2 HT3 HT4 HT5 HT6 HT7 HT8 HE0 HE1 HE2 HE3 HIX
      have HC26 := Lib.hid (st_cells HT9.out)
      have HJ26 := Lib.hid HT9.out.jp
      have HB26 := Lib.hid (Below.refl wst4.heap.size wst4)
      obtain ⟨k0, k1, k2, k3, k4, k5, k6, k7, k8, k9, k10, k11, k12, k13⟩ := HC26.out wst4 (Below.refl _ _)
      have HL19 := Lib.hid (st_last HT9.out)
      have H18' := Lib.hid (st_map HT9.out HLB2.out ⟨g0, g1⟩ ⟨a0, a1⟩ ⟨b0, b1⟩ ⟨c0, c1⟩)
      unfold zst at H18'
      have H18 := Lib.hid H18'.out
      clear H18'
      go_cut [15] (fun x15 wx => Pc wx x15 (seg4 g a b c) ∧ St w B B0 j w.heap.size (.slice (some ⟨dg, doff, none⟩) nD XC) D o ln g a b c ps2 lb2 wx)
      case first =>
        go_region_held3 (fun w' => w'.cell? ⟨w.heap.size, 0, none⟩ = some (.int .i64 0) ∧ w'.cell? ⟨w.heap.size, 1, none⟩ = some (.int .i64 0) ∧ w'.cell? ⟨w.heap.size, 2, none⟩ = some (.int .i64 0) ∧ w'.cell? ⟨w.heap.size, 3, none⟩ = some (.int .i64 0) ∧ w'.cell? ⟨w.heap.size, 4, none⟩ = some (.int .i64 0) ∧ w'.cell? ⟨w.heap.size, 5, none⟩ = some (.int .i64 0) ∧ w'.cell? ⟨w.heap.size, 6, none⟩ = some (.bool false) ∧ w'.cell? ⟨w.heap.size + 1, 0, none⟩ = some (.int .i64 (ln : Int)) ∧ w'.cell? ⟨w.heap.size + 1, 1, none⟩ = some (.int .i64 g) ∧ w'.cell? ⟨w.heap.size + 1, 2, none⟩ = some (.int .i64 a) ∧ w'.cell? ⟨w.heap.size + 1, 3, none⟩ = some (.int .i64 b) ∧ w'.cell? ⟨w.heap.size + 1, 4, none⟩ = some (.int .i64 c) ∧ w'.cell? ⟨w.heap.size + 1, 5, none⟩ = some (.int .i64 0) ∧ w'.cell? ⟨w.heap.size + 1, 6, none⟩ = some (.bool false))
          (first | exact ⟨k0, k1, k2, k3, k4, k5, k6, k7, k8, k9, k10, k11, k12, k13⟩ | exact HC26.out _ (Below.refl _ _).drew | exact HC26.out _ (HB26.out.alloc (Nat.le_refl _) _).drew | exact HC26.out _ HB18.out | exact HC26.out _ (HB18.out.alloc HB18.out.size _) | exact HC26.out _ (HB18.out.setCell (Nat.le_refl _) _) | exact HC26.out _ (HB18.out.setCell HB18.out.size _) | exact HC26.out _ ((HB18.out.alloc HB18.out.size _).setCell HB18.out.size _))
          (first | (go_at_call 19; (with_reducible refine (HL19.out _ ?_).mono ?_); (first | exact (Below.refl _ _).drew | exact (HB26.out.alloc (Nat.le_refl _) _).drew); rintro e w' ⟨rfl, rfl⟩) | (go_at_call 18; (with_reducible refine (H18.out _ ?_).mono ?_); (first | exact HB26.out.drew | exact (HB26.out.alloc (Nat.le_refl _) _).drew); rintro e w18 ⟨v18, rfl, ho18, hb18⟩; (first | (have HB18 := Lib.hid (HB26.out.drew.trans hb18)) | (have HB18 := Lib.hid ((HB26.out.alloc (Nat.le_refl _) _).drew.trans (hb18.mono (by simp))); have HR18 := Lib.hid (((Row.newArr wst4 41 #[.int .u32 0]).drew).below hb18 (by simp)); have c18 := HR18.out.at_ (i := 0) rfl; have f18 := HR18.out.frozen 0)); have HO18 := Lib.hid (pc_own ho18 seg4_wf); clear ho18 hb18))
        all_goals
          go_wp2_with fail
          go_meet
          case rel => first | exact ⟨HO18.out.keep (keeps_alloc _ _), HT9.out.later (HB18.out.alloc HB18.out.size _)⟩ | exact ⟨HO18.out.keep (keeps_set HR18.out (by decide) _ _), HT9.out.later (HB18.out.setCell (Nat.le_refl _) _)⟩
      case rest =>
      obtain ⟨hpc, hst⟩ := hcut
      have HPC := Lib.hid hpc
      have HU0 := Lib.hid hst
      clear hst hpc k0 k1 k2 k3 k4 k5 k6 k7 k8 k9 k10 k11 k12 k13 HC26 HJ26 HB26 HL19 H18 HT9
      have hl4 : (seg4 g a b c).length ≤ 12 := by
        unfold seg4
        have := code_le3 g g0 g1
        have := code_le3 a a0 a1
        have := code_le3 b b0 b1
        have := code_le3 c c0 c1
        simp only [List.length_append]
        omega
      have HA := Lib.hid (addP B j ps2 lb2 _ (seg4 g a b c) _ HU0.out.jp HPC.out (by have := HPS2.out; omega) (by omega) (by rw [HFL2.out, List.length_append, List.length_replicate, HPN.out]; omega))
      go_upto_region 28 with (go_at_call 14; (with_reducible refine HA.out.mono ?_); rintro e wa1 ⟨rfl, hj6, hk6, hb6⟩; have HU1 := Lib.hid (HU0.out.added hj6 hk6 hb6); clear hj6 hk6 hb6)
      have n1 := HU1.out.m.at_ (i := 1) rfl
      have hflp : D = (pre ++ seg4 g a b c) ++ rest := by rw [HDE.out]
      have hpl4 : (pre ++ seg4 g a b c).length = L4 := by
        rw [List.length_append, HPN.out]
        unfold seg4
        have := HL1.out
        have := HL2.out
        have := HL3.out
        have := HL4.out
        simp only [List.length_append]
        omega
      have HFLP := Lib.hid hflp
      have HPL4 := Lib.hid hpl4
      clear hflp hpl4 HA0 HA1 HA2 HA3 HL1 HL2 HL3 HL4
      have hXC : nD ≤ XC := HXI.out.1
      rcases o with _ | v
      · have HV := Lib.hid (val20 none wa1 (fun v h => by cases h))
        obtain ⟨y, hy, hpy⟩ := tail_sl dg doff nD XC L4 hD4 hXC
        have HPY := Lib.hid hpy
        clear hpy
        go_upto_region 35 with (go_at_call 20; (with_reducible refine HV.out.mono ?_); rintro e wa2 ⟨rfl, hb7⟩; have HU2 := Lib.hid (HU1.out.later hb7); clear hb7)
        clear n1 HV
        have n0 := HU2.out.m.at_ (i := 0) rfl
        have HA2 := Lib.hid (addP B j _ _ y (D.drop L4) _ HU2.out.jp (HPY.out _ _ HU2.out.dx HND.out) (by have := HPS2.out; simp; omega) (by rw [List.length_drop, HND.out]; omega) (by rw [flat_snoc, HFL2.out, List.length_append, List.length_append, List.length_replicate, HPN.out]; omega))
        go_wp2_with (go_at_call 14; (with_reducible refine HA2.out.mono ?_); rintro e wa3 ⟨rfl, hj6, hk6, hb6⟩; have HU3 := Lib.hid (HU2.out.added hj6 hk6 hb6); clear hj6 hk6 hb6)
        go_end0
        refine ⟨rfl, _, _, HU3.out.jp, by simp, by have := HPS2.out; simp; omega, ?_, HU3.out.bel⟩
        rw [flat_snoc, flat_snoc, HFL2.out]
        have e1 : D.drop L4 = rest := by rw [HFLP.out, ← HPL4.out, List.drop_left]
        rw [e1, List.append_assoc, List.append_assoc, ← List.append_assoc pre, ← HFLP.out]
      · have hv1 : v ≤ 100000 := ho v rfl
        obtain ⟨D0, en, D1, hen, hDn, hvn, hvl⟩ := HNM.out v rfl
        rw [HPL4.out] at hvl
        have HAv := Lib.hid (at_of (n := vlqOf en) (D := D) (X := D0) (R := D1) hDn hvn)
        obtain ⟨L5, hL5⟩ : ∃ L, L = v + (code (vlqOf en)).length := ⟨_, rfl⟩
        have hle : (code (vlqOf en)).length ≤ 3 := code_le3 en hen.1 hen.2
        have hv5 : L5 ≤ nD := by
          have h9 := congrArg List.length hDn
          rw [HND.out, List.length_append, List.length_append, hvn] at h9
          omega
        have hvl5 : v ≤ nD := by omega
        have HDN := Lib.hid hDn
        have HVN := Lib.hid hvn
        have HL5 := Lib.hid hL5
        obtain ⟨en0, en1⟩ := hen
        clear hDn hvn hL5
        have hf2 : (flat ps2).length ≤ 5000 := by rw [HFL2.out, List.length_append, List.length_replicate, HPN.out]; omega
        have HV := Lib.hid (val20 (some v) wa1 (fun v' h => by injection h with h; omega))
        have HX := Lib.hid HU1.out.m
        go_upto_region 29 with (go_at_call 20; (with_reducible refine HV.out.mono ?_); rintro e wa2 ⟨rfl, hb7⟩; have HU2 := Lib.hid (HU1.out.later hb7); clear hb7)
        clear n1 HV
        have n1 := HU2.out.m.at_ (i := 1) rfl
        have HG := Lib.hid (get21 v wa2 (by omega))
        go_upto_region 30 with (go_at_call 21; (with_reducible refine HG.out.mono ?_); rintro e wa3 ⟨rfl, hb7⟩; have HU3 := Lib.hid (HU2.out.later hb7); clear hb7)
        clear n1 HG
        have n0 := HU3.out.m.at_ (i := 0) rfl
        have HEv : Hid (Calls Tryd.prog 16 #[.slice (some ⟨dg, doff, none⟩) nD XC, .int .i64 (v : Int)] _ fun e w' => e = .returned (.tuple #[.int .i64 en, .int .i64 (L5 : Int)]) ∧ Below _ _ w') := Lib.hid ((dec16 (some ⟨dg, doff, none⟩) nD XC (vlqOf en) v D _ (pc_ints HU3.out.dx) (by omega) B0 HU3.out.tab HAv.out (vlq_small ⟨en0, en1⟩)).mono fun e w' h9 => ⟨by rw [h9.1, valOf_vlq, ← HL5.out], h9.2⟩)
        go_upto_region 31 with (go_at_call 16; (with_reducible refine HEv.out.mono ?_); rintro e wa4 ⟨rfl, hb7⟩; have HU4 := Lib.hid (HU3.out.later hb7); clear hb7)
        clear n0 HEv
        obtain ⟨-, -, -, -, -, p5, -, -, -, -, -, -, s5, -⟩ := st_cells HU4.out _ (Below.refl _ _)
        go_upto_region 32 with fail
        clear p5 s5
        have n0 := HU4.out.m.at_ (i := 0) rfl
        obtain ⟨y1, hy1, hpy1⟩ := mid_sl dg doff nD XC L4 v hvl hvl5 hXC
        have HA3 := Lib.hid (addP B j _ _ y1 ((D.drop L4).take (v - L4)) _ HU4.out.jp (hpy1 _ _ HU4.out.dx HND.out) (by have := HPS2.out; simp; omega) (by rw [List.length_take]; omega) (by rw [flat_snoc, List.length_append]; omega))
        clear hpy1
        go_upto_region 33 with (go_at_call 14; (with_reducible refine HA3.out.mono ?_); rintro e wa5 ⟨rfl, hj6, hk6, hb6⟩; have HU5 := Lib.hid (HU4.out.added hj6 hk6 hb6); clear hj6 hk6 hb6)
        clear n0 hy1 HA3
        have HE4 := Lib.hid (enc22 wa5.heap.size (.slice none 0 0) [] en wa5 (b64_mono HU5.out.tab HU5.out.tab.1 (Nat.le_refl _)) (own_nil _ _ _ _) (by simp) (by omega) (by omega))
        go_upto_region 34 with (first | (go_at_call 22; (with_reducible refine HE4.out.mono ?_); rintro e wa6 ⟨v6, rfl, ho6, hb6⟩; have HU6 := Lib.hid (HU5.out.later hb6); have HP6 := Lib.hid (pc_own ho6 (code_wf _)); have HA4 := Lib.hid (addP B j _ _ v6 (code (vlqOf en)) wa6 HU6.out.jp HP6.out (by have := HPS2.out; simp; omega) (by omega) (by rw [flat_snoc, flat_snoc, List.length_append, List.length_append, List.length_take]; omega)); clear ho6 hb6) | (go_at_call 14; (with_reducible refine HA4.out.mono ?_); rintro e wa7 ⟨rfl, hj6, hk6, hb6⟩; have HU7 := Lib.hid (HU6.out.added hj6 hk6 hb6); clear hj6 hk6 hb6))
        have n0 := HU7.out.m.at_ (i := 0) rfl
        obtain ⟨y, hy, hpy⟩ := tail_sl dg doff nD XC L5 hv5 hXC
        have HA5 := Lib.hid (addP B j _ _ y (D.drop L5) _ HU7.out.jp (hpy _ _ HU7.out.dx HND.out) (by have := HPS2.out; simp; omega) (by rw [List.length_drop, HND.out]; omega) (by rw [flat_snoc, flat_snoc, flat_snoc, List.length_append, List.length_append, List.length_append, List.length_take]; omega))
        clear hpy
        go_wp2_with (go_at_call 14; (with_reducible refine HA5.out.mono ?_); rintro e wa8 ⟨rfl, hj6, hk6, hb6⟩; have HU8 := Lib.hid (HU7.out.added hj6 hk6 hb6); clear hj6 hk6 hb6)
        go_end0
        refine ⟨rfl, _, _, HU8.out.jp, by simp, by have := HPS2.out; simp; omega, ?_, HU8.out.bel⟩
        rw [flat_snoc, flat_snoc, flat_snoc, flat_snoc, HFL2.out]
        have e1 := drop_mid HFLP.out HPL4.out HDN.out HVN.out hvl HL5.out
        rw [show ∀ X Y Z U V R : List Int, X ++ Y ++ Z ++ U ++ V ++ R = X ++ (Y ++ Z ++ U ++ V ++ R) by intros; simp only [List.append_assoc], e1]
end Go.Proofs.YtmgkjkfhhdkkmabDoor.ApL
