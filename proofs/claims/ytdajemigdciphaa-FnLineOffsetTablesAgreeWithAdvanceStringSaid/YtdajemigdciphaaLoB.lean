/- GenerateLineOffsetTables. -/
import Derived.Test.YtdajemigdciphaaRows
import Derived.Test.YtdajemigdciphaaMem
import Derived.Test.YtdajemigdciphaaSl
import Derived.Test.YtdajemigdciphaaLoA
import Derived.OwnWalk
import Derived.Deep.MidRow
import Derived.Great.BuildSlice
import Derived.WalkKit
import Derived.ProofKit
import Derived.OpenShut
import Derived.Below
import Derived.WalkLawsBesides
import Derived.Lib.Hide
import Derived.Outline
import Derived.RegionTactic
import Derived.Deep.QuietTactic
import Derived.BigQuiet
import Derived.WalkSpells
import Derived.Deep.OwnRows
import Derived.IntWalk
import Derived.Deep.DeepMust
namespace Go.Proofs.Ytdajemigdciphaa.LoB
open Go.RowKit Mem Sl
set_option linter.unusedVariables false
open Dec Lin Adv Own LoA

theorem srt_le {S : List Nat} {L T : Nat} (h : Srt S L T) : L ≤ T := by
  have hk : ∀ l, l < L → l ≤ S.getD l 0 := by
    intro l
    induction l with
    | zero => intro _; omega
    | succ k ih =>
      intro hl
      have h1 := ih (by omega)
      have h2 := h.up k hl
      omega
  by_cases h0 : L = 0
  · omega
  · have h1 := hk (L - 1) (by omega)
    have h2 := h.lt (L - 1) (by omega)
    omega
theorem own_empty (w : World) (B : Nat) (hB : B ≤ w.heap.size) : Own (w.alloc (.cells #[] 21)) B 21 .i32 (.slice (some ⟨w.heap.size, 0, none⟩) 0 0) [] :=
  ⟨by simp [iv], .inr ⟨w.heap.size, 0, _, rfl, hB, heap_alloc_new w _, Nat.zero_le _, Nat.zero_le _, by simp, by simp [iv]⟩⟩
/-- What holds at the head of a round. -/
structure Inv (w : World) (H : Nat) (s : ByteArray) (pos L U T lb cb : Nat) (A5 : Option Addr) (n5 c5 : Nat) (v : Value) (S : List Nat) (wr : World) : Prop where
  wd : Wd w H s pos L v S wr
  srt : Srt S L T
  hp : pos ≤ s.size
  hU : T + U ≤ pos
  u0 : U = 0 → pos = T ∧ A5 = none
  lbT : 0 < U → lb = T
  nil : A5 = none → n5 = 0 ∧ c5 = 0 ∧ pos = T + U
  own : A5 ≠ none → ∃ cs, Own wr H 21 .i32 (.slice A5 n5 c5) cs ∧ cs.length ≤ cb ∧ cb + T ≤ pos ∧ cs.length = n5
  cbs : cb ≤ s.size
  lbs : lb ≤ s.size
  hf : fin s pos L U T = fin s 0 0 0 0
def Rel (w : World) (H : Nat) (s : ByteArray) (s5 s6 s7 s8 s9 s10 : Value) (wr : World) : Prop :=
  ∃ (pos L U T lb cb : Nat) (f6 : Int) (A5 : Option Addr) (n5 c5 : Nat) (v : Value) (S : List Nat), v = s10 ∧ s5 = .slice A5 n5 c5 ∧ s6 = .int .i32 f6 ∧ s7 = .int .i64 lb ∧ s8 = .int .i64 cb ∧ s9 = .int .i32 U ∧ Inv w H s pos L U T lb cb A5 n5 c5 v S wr
/-- What the inner loop keeps. -/
def Rin (w : World) (H : Nat) (s : ByteArray) (p' L : Nat) (v : Value) (S : List Nat) (K : Nat) (s5 s8 : Value) (wr : World) : Prop :=
  ∃ (b c cb : Nat) (cs : List Int) (wv : World), wv = wr ∧ s5 = .slice (some ⟨b, 0, none⟩) cs.length c ∧ s8 = .int .i64 cb ∧ Own wr H 21 .i32 (.slice (some ⟨b, 0, none⟩) cs.length c) cs ∧ cs.length ≤ cb ∧ cb ≤ K + 1 ∧ Wd w H s p' L v S wr
/-- What the last loop keeps: as Rin, with the last column. -/
def Rin2 (w : World) (H : Nat) (s : ByteArray) (p' L : Nat) (v : Value) (S : List Nat) (K cb0 U : Nat) (s5 s8 : Value) (wr : World) : Prop :=
  ∃ (b c cb : Nat) (cs : List Int) (wv : World), wv = wr ∧ s5 = .slice (some ⟨b, 0, none⟩) cs.length c ∧ s8 = .int .i64 cb ∧ Own wr H 21 .i32 (.slice (some ⟨b, 0, none⟩) cs.length c) cs ∧ cs.length ≤ cb ∧ cb ≤ K + 1 ∧ cb0 ≤ cb ∧ (cb0 < cb → ∃ ds, cs = ds ++ [(U : Int)]) ∧ Wd w H s p' L v S wr
/-- What GenerateLineOffsetTables gives. -/
def Tabs (w : World) (s : ByteArray) (e : Ending) (w' : World) : Prop :=
  ∃ (L U T b c : Nat) (A5 : Option Addr) (n5 c5 : Nat) (S : List Nat), fin s 0 0 0 0 = (L, U, T) ∧ e = .returned (.slice (some ⟨b, 0, none⟩) (L + 1) c) ∧ Below w.heap.size w w' ∧ Srt S (L + 1) (s.size + 1) ∧ S.getD L 0 = T ∧ L + 1 ≤ c ∧ b < w'.heap.size ∧
    (∀ l, l < L + 1 → w'.cell? ⟨b, l * 3 + 2, none⟩ = some (.int .i32 ((S.getD l 0 : Nat) : Int))) ∧ w'.cell? ⟨b, L * 3, none⟩ = some (.slice A5 n5 c5) ∧
    ((A5 = none ∧ n5 = 0 ∧ c5 = 0 ∧ s.size = T + U) ∨ ∃ b5 m, A5 = some ⟨b5, 0, none⟩ ∧ n5 = m + 1 ∧ m + 1 ≤ c5 ∧ m ≤ 1048577 ∧ b5 < w'.heap.size ∧ w'.cell? ⟨b5, m, none⟩ = some (.int .i32 (U : Int)))
theorem row_cells {w : World} {B E sz n : Nat} {v : Value} {xs : List Value} (h : w.ownsRow B E sz v n xs) (hn : 0 < n) : ∃ b c, v = .slice (some ⟨b, 0, none⟩) n c ∧ b < w.heap.size ∧ n ≤ c ∧ ∀ (i : Nat) (u : Value), xs[i]? = some u → w.cell? ⟨b, i, none⟩ = some u := by
  have hl := h.1
  rcases h.2 with ⟨_, h0⟩ | ⟨g, cap, cur, rfl, hb, hh, hle, hcm, hcs, htk⟩
  · omega
  · refine ⟨g, cap, rfl, (Array.getElem?_eq_some_iff.1 hh).1, hle, fun i u hu => ?_⟩
    have hi : i < n * sz := by have := (List.getElem?_eq_some_iff.1 hu).1; omega
    rw [cell_of_row w g i cur E (0, 0) hh]
    rw [← htk, List.getElem?_take, if_pos hi] at hu
    simpa using hu
theorem mk_tabs {w w2 : World} {s : ByteArray} {L U T pos : Nat} {v' : Value} {S : List Nat} {xs : List Value} {A5 : Option Addr} {n5 c5 : Nat} {f6 : Value} (hf : fin s 0 0 0 0 = (L, U, T)) (hW : Wd w w.heap.size s pos (L + 1) v' (S ++ [T]) w2) (hS : Srt S L T) (hT : T ≤ s.size)
    (ho : w2.ownsRow w.heap.size 38 3 v' (L + 1) (xs ++ [.slice A5 n5 c5, f6, .int .i32 (T : Int)]))
    (h5 : (A5 = none ∧ n5 = 0 ∧ c5 = 0 ∧ s.size = T + U) ∨ ∃ b5 m, A5 = some ⟨b5, 0, none⟩ ∧ n5 = m + 1 ∧ m + 1 ≤ c5 ∧ m ≤ 1048577 ∧ b5 < w2.heap.size ∧ w2.cell? ⟨b5, m, none⟩ = some (.int .i32 (U : Int))) : Tabs w s (.returned v') w2 := by
  obtain ⟨ys, h1, h2⟩ := hW.tab
  obtain ⟨b, c, rfl, hb, hc, hcell⟩ := row_cells h1 (by omega)
  obtain ⟨b', c', he, hb', hc', hcell'⟩ := row_cells ho (by omega)
  injection he with he1 he2 he3
  injection he1 with he1
  injection he1 with he1
  subst he1
  have hxl : xs.length = L * 3 := by have := ho.1; simp at this; omega
  refine ⟨L, U, T, b, c, A5, n5, c5, S ++ [T], hf, rfl, hW.bel, hS.add (by omega), by simp [List.getD, ← hS.len], hc, hb, fun l hl => hcell _ _ (h2 l hl), hcell' _ _ ?_, h5⟩
  rw [List.getElem?_append_right (by omega), hxl, Nat.sub_self]
  rfl
theorem own_last {w : World} {B : Nat} {b c : Nat} {cs ds : List Int} {U : Int} (h : Own w B 21 .i32 (.slice (some ⟨b, 0, none⟩) cs.length c) cs) (he : cs = ds ++ [U]) : cs.length = ds.length + 1 ∧ ds.length + 1 ≤ c ∧ b < w.heap.size ∧ w.cell? ⟨b, ds.length, none⟩ = some (.int .i32 U) := by
  subst he
  have hl : (ds ++ [U]).length = ds.length + 1 := by simp
  obtain ⟨b', c', hv, hbb, hc, hcell⟩ := row_cells h (by omega)
  injection hv with hv1 hv2 hv3
  injection hv1 with hv1
  injection hv1 with hv1
  subst hv1 hv3
  exact ⟨hl, by omega, hbb, hcell _ _ (by simp [iv])⟩

set_option maxHeartbeats 40000000 in
set_option maxRecDepth 100000 in
theorem gen9 (s : ByteArray) (a1 : Nat) (w : World) (hs : s.size ≤ 1048576) (ha : a1 ≤ 65536) : Calls Try.prog 9 #[.string s, .int .i32 a1] w (Tabs w s) := by
  have hmk : ∀ W : World, (Instr.makeSlice 29 (.int .i64 0) (.int .i32 (a1 : Int))).run Try.prog W = .ok (.slice (some ⟨W.heap.size, 0, none⟩) 0 a1) (W.alloc (.cells (madeCells #[.slice none 0 0, .int .i32 0, .int .i32 0] (a1 * 3)) 38)) := by
    intro W
    obtain ⟨i, hi, hzz⟩ := Option.map_eq_some_iff.1 info38
    simp only [Prod.mk.injEq] at hzz
    obtain ⟨hz, hsz, hby⟩ := hzz
    have hr := run_make (P := Try.prog) W 29 38 i _ Try.underlying29 hi hz .i64 .i32 0 (a1 : Int) (by omega) (by omega) (by rw [hby]; omega) (by omega)
    rw [hr, hsz]
    rfl
  have heq := fun (W : World) (X : Option Addr) (l cc : Nat) => Lib.run_eql_slice_nil (P := Try.prog) W 32 21 X l cc 0 0 Try.underlying32
  have hnq := fun (W : World) (X : Option Addr) (l cc : Nat) => run_neq_slice_nil_any (P := Try.prog) W 32 21 X l cc 0 0 Try.underlying32
  have HW0 := Lib.hid (show Wd w w.heap.size s 0 0 (.slice (some ⟨w.heap.size, 0, none⟩) 0 a1) [] ((w.alloc (.cells (madeCells #[.slice none 0 0, .int .i32 0, .int .i32 0] (a1 * 3)) 38)).iter s 0) from by
    refine ⟨?_, ⟨[], ?_, fun l hl => by omega⟩, ?_, ?_⟩
    · have := World.iter_heap (w.alloc (.cells (madeCells #[.slice none 0 0, .int .i32 0, .int .i32 0] (a1 * 3)) 38)) s 0
      simpa using this
    · refine owns_kept (w := w.alloc (.cells (madeCells #[.slice none 0 0, .int .i32 0, .int .i32 0] (a1 * 3)) 38)) ?_ (World.grownBy_alloc _ _ none) (fun g _ => by simp)
      exact ⟨by simp, .inr ⟨w.heap.size, a1, _, rfl, Nat.le_refl _, heap_alloc_new w _, Nat.zero_le _, by unfold maxLen; omega, by simp [madeCells], by simp⟩⟩
    · exact ((Below.refl _ _).alloc (Nat.le_refl _) _).alloc (by simp) _
    · simp [World.iter])
  obtain ⟨i38, hi38, hzz38⟩ := Option.map_eq_some_iff.1 info38
  simp only [Prod.mk.injEq] at hzz38
  obtain ⟨hz38, hsz38, hby38⟩ := hzz38
  have H38 := Lib.hid (And.intro hi38 (And.intro hz38 (And.intro hsz38 hby38)))
  clear hi38 hz38 hsz38 hby38
  go_enter Try.func9, Try.ntmps9
  go_wp2_with fail
  clear hmk
  go_loopw [5, 6, 7, 8, 9, 10] (fun s5 s6 s7 s8 s9 s10 wr => Rel w w.heap.size s s5 s6 s7 s8 s9 s10 wr) (fun _ _ _ _ _ _ wr => s.size - wr.iterPos (w.heap.size + 1))
  case atStart => exact ⟨0, 0, 0, 0, 0, 0, 0, none, 0, 0, _, [], rfl, rfl, rfl, rfl, rfl, rfl, ⟨HW0.out, ⟨rfl, fun l hl => by omega, fun l hl => by omega, fun h => by omega, fun _ => rfl⟩, by omega, by omega, fun _ => ⟨rfl, rfl⟩, fun h => by omega, fun _ => ⟨rfl, rfl, rfl⟩, fun h => absurd rfl h, by omega, by omega, rfl⟩⟩
  case round =>
    obtain ⟨pos, L, U, T, lb, cb, f6, A5, n5, c5, v, S, rfl, rfl, rfl, rfl, rfl, rfl, hinv⟩ := hrel
    have HI := Lib.hid hinv
    have hp := hinv.hp
    have hU := hinv.hU
    have hcbs := hinv.cbs
    have hlbs := hinv.lbs
    have hLp : L ≤ pos := by have := srt_le hinv.srt; omega
    have hit := hinv.wd.it
    have HIT := Lib.hid hit
    clear hinv
    by_cases hlt : pos < s.size
    · obtain ⟨W', hnx, hit', hg', hsz'⟩ := next_at (P := Try.prog) hit hlt
      have HW1 := Lib.hid (HI.out.wd.next hit' hg')
      have HG1 := Lib.hid hg'
      obtain ⟨hw1, hw2⟩ := wd_pos hlt
      have hun := un_le s pos hlt
      have HAS := Lib.hid (fun h => asc (s := s) (i := pos) hlt h)
      have x1 : pos + 1 < s.size → ∀ w, (Instr.index 9 (.string s) (.int .i64 ((pos : Int) + 1))).run Try.prog w = .ok (.int .u8 ((by_ s (pos + 1) : Nat) : Int)) w := fun h w => idx1 s pos 1 h w
      obtain ⟨B1, hB1⟩ : ∃ B, by_ s (pos + 1) = B := ⟨_, rfl⟩
      rw [hB1] at x1
      obtain ⟨r, hr⟩ : ∃ r, ru s pos = r := ⟨_, rfl⟩
      rw [hr] at hnx HAS
      have HRU := Lib.hid hr
      have HB1 := Lib.hid hB1
      obtain ⟨p', hp'⟩ : ∃ p', pos + wd s pos = p' := ⟨_, rfl⟩
      rw [hp'] at HW1 hw2
      have HP' := Lib.hid hp'
      have hpp : pos < p' := by omega
      clear hit hit' hg' hsz' hr hB1 hp' hw1
      by_cases hU0 : U = 0
      · subst hU0
        obtain ⟨hpT, hA5⟩ := HI.out.u0 rfl
        subst hA5
        subst hpT
        obtain ⟨rfl, rfl, hz⟩ := HI.out.nil rfl
        clear hz
        by_cases h13 : r = 13
        · subst h13
          by_cases hd : pos + 1 < s.size
          · have y1 := x1 hd
            clear x1
            by_cases hb : B1 = 10
            · subst hb
              have HBK := Lib.hid (show brk s pos = false from brk_cr (by unfold crlf; rw [HRU.out, HB1.out]; simp [hd]))
              have HUN := Lib.hid (show un s pos = 1 from (by unfold un; rw [HRU.out, if_pos (by omega)]))
              have HWF := HW1
              have hp1 : p' = pos + 1 := by have h1 := (HAS.out (by omega)).1; have h2 := HP'.out; omega
              have hnil := (HI.out.nil rfl).2.2
              have HNL := Lib.hid (show p' = pos + (0 + 1) by omega)
              clear hnil hp1
              go_wp2_with fail
              go_roundw
              case rel => exact ⟨p', L, 0 + 1, pos, pos, cb, f6, none, 0, 0, v, S, rfl, rfl, rfl, rfl, rfl, by go_num, ⟨HWF.out, HI.out.srt, hw2, by have := HNL.out; omega, fun h => by omega, fun _ => rfl, fun _ => ⟨rfl, rfl, HNL.out⟩, fun h => absurd rfl h, hcbs, by omega, by rw [← HI.out.hf, fin_un s pos L 0 pos hlt HBK.out, HUN.out, HP'.out]⟩⟩
              case measure =>
                have h1 := HIT.out
                have h2 := HWF.out.it
                have h3 := hpp
                simp only [World.iterPos, h2, h1]
                omega
            · have tb : ((B1 : Int) == 10) = false := by simp; omega
              have HBK := Lib.hid (show brk s pos = true from brk_yes (by rw [HRU.out]; rfl) (by unfold crlf; rw [HRU.out, HB1.out]; simp [hb]))
              obtain ⟨xs, hx1, hx2⟩ := (HW1.out.alloc (Obj.cells #[.slice none 0 0, .int .i32 f6, .int .i32 pos] 38)).tab
              have HXS := Lib.hid (And.intro hx1 (And.intro hx2 ((HW1.out.alloc (Obj.cells #[.slice none 0 0, .int .i32 f6, .int .i32 pos] 38)).hle)))
              clear hx1 hx2
              go_wp2_with (at_builtin; go_must (refine wpList_append_own _ rfl _ _ 29 rfl w.heap.size 38 i38 _ 3 32 Try.underlying29 H38.out.1 H38.out.2.1 H38.out.2.2.1 H38.out.2.2.2 rfl (by decide) v L _ rfl HXS.out.1 ⟨W'.heap.size, 0, none⟩ 1 1 [.slice none 0 0, .int .i32 f6, .int .i32 pos] rfl rfl (by intro j u hu; rw [Addr.add_mid]; simpa using (Row.newArr W' 38 #[.slice none 0 0, .int .i32 f6, .int .i32 pos]).at_ (i := j) (by simpa using hu)) (by simp [Value.oneCell']) (by unfold maxLen; omega) (by omega) HXS.out.2.2 ?_; intro v' w2 hown2 hgr2 _; have HO2 := Lib.hid hown2; have HG2 := Lib.hid hgr2; clear hown2 hgr2))
              have HWF := Lib.hid ((HW1.out.alloc (Obj.cells #[.slice none 0 0, .int .i32 f6, .int .i32 pos] 38)).app (st := pos) HXS.out.1 HXS.out.2.1 HO2.out HG2.out rfl rfl HI.out.srt.len)
              go_roundw
              case rel => exact ⟨p', L + 1, 0, p', pos, 0, 0, none, 0, 0, v', S ++ [pos], rfl, rfl, rfl, rfl, rfl, rfl, ⟨HWF.out, HI.out.srt.add (by omega), hw2, by omega, fun _ => ⟨rfl, rfl⟩, fun h => by omega, fun _ => ⟨rfl, rfl, rfl⟩, fun h => absurd rfl h, by omega, by omega, by rw [← HI.out.hf, fin_brk s pos L 0 pos hlt HBK.out, HP'.out]⟩⟩
              case measure =>
                have h1 := HIT.out
                have h2 := HWF.out.it
                have h3 := hpp
                simp only [World.iterPos, h2, h1]
                omega
          · clear x1
            have HBK := Lib.hid (show brk s pos = true from brk_yes (by rw [HRU.out]; rfl) (by unfold crlf; simp [hd]))
            obtain ⟨xs, hx1, hx2⟩ := (HW1.out.alloc (Obj.cells #[.slice none 0 0, .int .i32 f6, .int .i32 pos] 38)).tab
            have HXS := Lib.hid (And.intro hx1 (And.intro hx2 ((HW1.out.alloc (Obj.cells #[.slice none 0 0, .int .i32 f6, .int .i32 pos] 38)).hle)))
            clear hx1 hx2
            go_wp2_with (at_builtin; go_must (refine wpList_append_own _ rfl _ _ 29 rfl w.heap.size 38 i38 _ 3 32 Try.underlying29 H38.out.1 H38.out.2.1 H38.out.2.2.1 H38.out.2.2.2 rfl (by decide) v L _ rfl HXS.out.1 ⟨W'.heap.size, 0, none⟩ 1 1 [.slice none 0 0, .int .i32 f6, .int .i32 pos] rfl rfl (by intro j u hu; rw [Addr.add_mid]; simpa using (Row.newArr W' 38 #[.slice none 0 0, .int .i32 f6, .int .i32 pos]).at_ (i := j) (by simpa using hu)) (by simp [Value.oneCell']) (by unfold maxLen; omega) (by omega) HXS.out.2.2 ?_; intro v' w2 hown2 hgr2 _; have HO2 := Lib.hid hown2; have HG2 := Lib.hid hgr2; clear hown2 hgr2))
            have HWF := Lib.hid ((HW1.out.alloc (Obj.cells #[.slice none 0 0, .int .i32 f6, .int .i32 pos] 38)).app (st := pos) HXS.out.1 HXS.out.2.1 HO2.out HG2.out rfl rfl HI.out.srt.len)
            go_roundw
            case rel => exact ⟨p', L + 1, 0, p', pos, 0, 0, none, 0, 0, v', S ++ [pos], rfl, rfl, rfl, rfl, rfl, rfl, ⟨HWF.out, HI.out.srt.add (by omega), hw2, by omega, fun _ => ⟨rfl, rfl⟩, fun h => by omega, fun _ => ⟨rfl, rfl, rfl⟩, fun h => absurd rfl h, by omega, by omega, by rw [← HI.out.hf, fin_brk s pos L 0 pos hlt HBK.out, HP'.out]⟩⟩
            case measure =>
              have h1 := HIT.out
              have h2 := HWF.out.it
              have h3 := hpp
              simp only [World.iterPos, h2, h1]
              omega
        clear x1
        by_cases h10 : r = 10
        · subst h10
          have HBK := Lib.hid (show brk s pos = true from brk_yes (by rw [HRU.out]; rfl) (by unfold crlf; rw [HRU.out]; rfl))
          obtain ⟨xs, hx1, hx2⟩ := (HW1.out.alloc (Obj.cells #[.slice none 0 0, .int .i32 f6, .int .i32 pos] 38)).tab
          have HXS := Lib.hid (And.intro hx1 (And.intro hx2 ((HW1.out.alloc (Obj.cells #[.slice none 0 0, .int .i32 f6, .int .i32 pos] 38)).hle)))
          clear hx1 hx2
          go_wp2_with (at_builtin; go_must (refine wpList_append_own _ rfl _ _ 29 rfl w.heap.size 38 i38 _ 3 32 Try.underlying29 H38.out.1 H38.out.2.1 H38.out.2.2.1 H38.out.2.2.2 rfl (by decide) v L _ rfl HXS.out.1 ⟨W'.heap.size, 0, none⟩ 1 1 [.slice none 0 0, .int .i32 f6, .int .i32 pos] rfl rfl (by intro j u hu; rw [Addr.add_mid]; simpa using (Row.newArr W' 38 #[.slice none 0 0, .int .i32 f6, .int .i32 pos]).at_ (i := j) (by simpa using hu)) (by simp [Value.oneCell']) (by unfold maxLen; omega) (by omega) HXS.out.2.2 ?_; intro v' w2 hown2 hgr2 _; have HO2 := Lib.hid hown2; have HG2 := Lib.hid hgr2; clear hown2 hgr2))
          have HWF := Lib.hid ((HW1.out.alloc (Obj.cells #[.slice none 0 0, .int .i32 f6, .int .i32 pos] 38)).app (st := pos) HXS.out.1 HXS.out.2.1 HO2.out HG2.out rfl rfl HI.out.srt.len)
          go_roundw
          case rel => exact ⟨p', L + 1, 0, p', pos, 0, 0, none, 0, 0, v', S ++ [pos], rfl, rfl, rfl, rfl, rfl, rfl, ⟨HWF.out, HI.out.srt.add (by omega), hw2, by omega, fun _ => ⟨rfl, rfl⟩, fun h => by omega, fun _ => ⟨rfl, rfl, rfl⟩, fun h => absurd rfl h, by omega, by omega, by rw [← HI.out.hf, fin_brk s pos L 0 pos hlt HBK.out, HP'.out]⟩⟩
          case measure =>
            have h1 := HIT.out
            have h2 := HWF.out.it
            have h3 := hpp
            simp only [World.iterPos, h2, h1]
            omega
        by_cases h8232 : r = 8232
        · subst h8232
          go_wp2_with fail
          go_loopw [5, 8] (fun s5 s8 wx => Rin w w.heap.size s p' L v S 0 s5 s8 wx) (fun _ s8 _ => 0 + 1 - (intOf s8).toNat)
          case atStart => exact ⟨_, 0, 0, [], _, rfl, rfl, by go_num, own_empty _ _ HW1.out.hle, by simp, by omega, HW1.out.alloc _⟩
          case round =>
            obtain ⟨b6, c6, cb6, cs6, wx, rfl, rfl, rfl, ho6, hcl6, hcb6, hwx⟩ := hrel
            have HO6 := Lib.hid ho6
            have HWX := Lib.hid hwx
            clear ho6 hwx
            by_cases hcc : cb6 ≤ 0
            · skip
              go_wp2_with (at_builtin; go_must (refine wpList_push_g _ rfl _ _ 32 rfl w.heap.size 21 .i32 4 Try.underlying32 info21 (by decide) _ cs6 rfl (HO6.out.alloc _) wx.heap.size 0 rfl ((Row.newArr wx 21 #[.int .i32 0]).at_ (i := 0) rfl) (by omega) (by have := HWX.out.hle; simp; omega) ?_; intro b7 c7 w7 ho7 hg7; have HO7 := Lib.hid ho7; have HG7 := Lib.hid hg7; clear ho7 hg7))
              go_roundw
              case rel => first | exact ⟨_, _, _, _, _, _, _, _, _, _, _, ⟨b7, c7, cb6 + 1, cs6 ++ [(0 : Int)], _, rfl, by simp, by go_num, by simpa using HO7.out, by simp; omega, by omega, (HWX.out.alloc _).grown5 (HO6.out.alloc _) HG7.out⟩, rfl⟩ | exact ⟨b7, c7, cb6 + 1, cs6 ++ [(0 : Int)], _, rfl, by simp, by go_num, by simpa using HO7.out, by simp; omega, by omega, (HWX.out.alloc _).grown5 (HO6.out.alloc _) HG7.out⟩
              case measure => simp [intOf]; omega
            · obtain rfl : cb6 = 0 + 1 := by omega
              have HBK := Lib.hid (show brk s pos = true from brk_yes (by rw [HRU.out]; rfl) (by unfold crlf; rw [HRU.out]; rfl))
              obtain ⟨xs, hx1, hx2⟩ := (HWX.out.alloc (Obj.cells #[.slice (some ⟨b6, 0, none⟩) cs6.length c6, .int .i32 0, .int .i32 pos] 38)).tab
              have HXS := Lib.hid (And.intro hx1 (And.intro hx2 ((HWX.out.alloc (Obj.cells #[.slice (some ⟨b6, 0, none⟩) cs6.length c6, .int .i32 0, .int .i32 pos] 38)).hle)))
              clear hx1 hx2
              go_wp2_with (at_builtin; go_must (refine wpList_append_own _ rfl _ _ 29 rfl w.heap.size 38 i38 _ 3 32 Try.underlying29 H38.out.1 H38.out.2.1 H38.out.2.2.1 H38.out.2.2.2 rfl (by decide) v L _ rfl HXS.out.1 ⟨wx.heap.size, 0, none⟩ 1 1 [.slice (some ⟨b6, 0, none⟩) cs6.length c6, .int .i32 0, .int .i32 pos] rfl rfl (by intro j u hu; rw [Addr.add_mid]; simpa using (Row.newArr wx 38 #[.slice (some ⟨b6, 0, none⟩) cs6.length c6, .int .i32 0, .int .i32 pos]).at_ (i := j) (by simpa using hu)) (by simp [Value.oneCell']) (by unfold maxLen; omega) (by omega) HXS.out.2.2 ?_; intro v' w2 hown2 hgr2 _; have HO2 := Lib.hid hown2; have HG2 := Lib.hid hgr2; clear hown2 hgr2))
              have HWF := Lib.hid ((HWX.out.alloc (Obj.cells #[.slice (some ⟨b6, 0, none⟩) cs6.length c6, .int .i32 0, .int .i32 pos] 38)).app (st := pos) HXS.out.1 HXS.out.2.1 HO2.out HG2.out rfl rfl HI.out.srt.len)
              go_roundw
              case rel => exact ⟨p', L + 1, 0, p', pos, 0, 0, none, 0, 0, v', S ++ [pos], rfl, rfl, rfl, rfl, rfl, rfl, ⟨HWF.out, HI.out.srt.add (by omega), hw2, by omega, fun _ => ⟨rfl, rfl⟩, fun h => by omega, fun _ => ⟨rfl, rfl, rfl⟩, fun h => absurd rfl h, by omega, by omega, by rw [← HI.out.hf, fin_brk s pos L 0 pos hlt HBK.out, HP'.out]⟩⟩
              case measure =>
                have h1 := HIT.out
                have h2 := HWF.out.it
                have h3 := hpp
                simp only [World.iterPos, h2, h1]
                omega
        by_cases h8233 : r = 8233
        · subst h8233
          go_wp2_with fail
          go_loopw [5, 8] (fun s5 s8 wx => Rin w w.heap.size s p' L v S 0 s5 s8 wx) (fun _ s8 _ => 0 + 1 - (intOf s8).toNat)
          case atStart => exact ⟨_, 0, 0, [], _, rfl, rfl, by go_num, own_empty _ _ HW1.out.hle, by simp, by omega, HW1.out.alloc _⟩
          case round =>
            obtain ⟨b6, c6, cb6, cs6, wx, rfl, rfl, rfl, ho6, hcl6, hcb6, hwx⟩ := hrel
            have HO6 := Lib.hid ho6
            have HWX := Lib.hid hwx
            clear ho6 hwx
            by_cases hcc : cb6 ≤ 0
            · skip
              go_wp2_with (at_builtin; go_must (refine wpList_push_g _ rfl _ _ 32 rfl w.heap.size 21 .i32 4 Try.underlying32 info21 (by decide) _ cs6 rfl (HO6.out.alloc _) wx.heap.size 0 rfl ((Row.newArr wx 21 #[.int .i32 0]).at_ (i := 0) rfl) (by omega) (by have := HWX.out.hle; simp; omega) ?_; intro b7 c7 w7 ho7 hg7; have HO7 := Lib.hid ho7; have HG7 := Lib.hid hg7; clear ho7 hg7))
              go_roundw
              case rel => first | exact ⟨_, _, _, _, _, _, _, _, _, _, _, ⟨b7, c7, cb6 + 1, cs6 ++ [(0 : Int)], _, rfl, by simp, by go_num, by simpa using HO7.out, by simp; omega, by omega, (HWX.out.alloc _).grown5 (HO6.out.alloc _) HG7.out⟩, rfl⟩ | exact ⟨b7, c7, cb6 + 1, cs6 ++ [(0 : Int)], _, rfl, by simp, by go_num, by simpa using HO7.out, by simp; omega, by omega, (HWX.out.alloc _).grown5 (HO6.out.alloc _) HG7.out⟩
              case measure => simp [intOf]; omega
            · obtain rfl : cb6 = 0 + 1 := by omega
              have HBK := Lib.hid (show brk s pos = true from brk_yes (by rw [HRU.out]; rfl) (by unfold crlf; rw [HRU.out]; rfl))
              obtain ⟨xs, hx1, hx2⟩ := (HWX.out.alloc (Obj.cells #[.slice (some ⟨b6, 0, none⟩) cs6.length c6, .int .i32 0, .int .i32 pos] 38)).tab
              have HXS := Lib.hid (And.intro hx1 (And.intro hx2 ((HWX.out.alloc (Obj.cells #[.slice (some ⟨b6, 0, none⟩) cs6.length c6, .int .i32 0, .int .i32 pos] 38)).hle)))
              clear hx1 hx2
              go_wp2_with (at_builtin; go_must (refine wpList_append_own _ rfl _ _ 29 rfl w.heap.size 38 i38 _ 3 32 Try.underlying29 H38.out.1 H38.out.2.1 H38.out.2.2.1 H38.out.2.2.2 rfl (by decide) v L _ rfl HXS.out.1 ⟨wx.heap.size, 0, none⟩ 1 1 [.slice (some ⟨b6, 0, none⟩) cs6.length c6, .int .i32 0, .int .i32 pos] rfl rfl (by intro j u hu; rw [Addr.add_mid]; simpa using (Row.newArr wx 38 #[.slice (some ⟨b6, 0, none⟩) cs6.length c6, .int .i32 0, .int .i32 pos]).at_ (i := j) (by simpa using hu)) (by simp [Value.oneCell']) (by unfold maxLen; omega) (by omega) HXS.out.2.2 ?_; intro v' w2 hown2 hgr2 _; have HO2 := Lib.hid hown2; have HG2 := Lib.hid hgr2; clear hown2 hgr2))
              have HWF := Lib.hid ((HWX.out.alloc (Obj.cells #[.slice (some ⟨b6, 0, none⟩) cs6.length c6, .int .i32 0, .int .i32 pos] 38)).app (st := pos) HXS.out.1 HXS.out.2.1 HO2.out HG2.out rfl rfl HI.out.srt.len)
              go_roundw
              case rel => exact ⟨p', L + 1, 0, p', pos, 0, 0, none, 0, 0, v', S ++ [pos], rfl, rfl, rfl, rfl, rfl, rfl, ⟨HWF.out, HI.out.srt.add (by omega), hw2, by omega, fun _ => ⟨rfl, rfl⟩, fun h => by omega, fun _ => ⟨rfl, rfl, rfl⟩, fun h => absurd rfl h, by omega, by omega, by rw [← HI.out.hf, fin_brk s pos L 0 pos hlt HBK.out, HP'.out]⟩⟩
              case measure =>
                have h1 := HIT.out
                have h2 := HWF.out.it
                have h3 := hpp
                simp only [World.iterPos, h2, h1]
                omega
        have t13 : ((r : Int) == 13) = false := by simp; omega
        have t10 : ((r : Int) == 10) = false := by simp; omega
        have t8232 : ((r : Int) == 8232) = false := by simp; omega
        have t8233 : ((r : Int) == 8233) = false := by simp; omega
        by_cases h127 : r ≤ 127
        · skip
          have HBK := Lib.hid (show brk s pos = false from brk_no (by rw [HRU.out]; simp [isT]; omega))
          have HUN := Lib.hid (show un s pos = 1 from (by unfold un; rw [HRU.out, if_pos (by omega)]))
          have HWF := HW1
          have hp1 : p' = pos + 1 := by have h1 := (HAS.out (by omega)).1; have h2 := HP'.out; omega
          have hnil := (HI.out.nil rfl).2.2
          have HNL := Lib.hid (show p' = pos + (0 + 1) by omega)
          clear hnil hp1
          go_wp2_with fail
          go_roundw
          case rel => exact ⟨p', L, 0 + 1, pos, pos, cb, f6, none, 0, 0, v, S, rfl, rfl, rfl, rfl, rfl, by go_num, ⟨HWF.out, HI.out.srt, hw2, by have := HNL.out; omega, fun h => by omega, fun _ => rfl, fun _ => ⟨rfl, rfl, HNL.out⟩, fun h => absurd rfl h, hcbs, by omega, by rw [← HI.out.hf, fin_un s pos L 0 pos hlt HBK.out, HUN.out, HP'.out]⟩⟩
          case measure =>
            have h1 := HIT.out
            have h2 := HWF.out.it
            have h3 := hpp
            simp only [World.iterPos, h2, h1]
            omega
        by_cases hbig : r ≤ 65535
        · skip
          go_wp2_with fail
          go_loopw [5, 8] (fun s5 s8 wx => Rin w w.heap.size s p' L v S 0 s5 s8 wx) (fun _ s8 _ => 0 + 1 - (intOf s8).toNat)
          case atStart => exact ⟨_, 0, 0, [], _, rfl, rfl, by go_num, own_empty _ _ HW1.out.hle, by simp, by omega, HW1.out.alloc _⟩
          case round =>
            obtain ⟨b6, c6, cb6, cs6, wx, rfl, rfl, rfl, ho6, hcl6, hcb6, hwx⟩ := hrel
            have HO6 := Lib.hid ho6
            have HWX := Lib.hid hwx
            clear ho6 hwx
            by_cases hcc : cb6 ≤ 0
            · skip
              go_wp2_with (at_builtin; go_must (refine wpList_push_g _ rfl _ _ 32 rfl w.heap.size 21 .i32 4 Try.underlying32 info21 (by decide) _ cs6 rfl (HO6.out.alloc _) wx.heap.size 0 rfl ((Row.newArr wx 21 #[.int .i32 0]).at_ (i := 0) rfl) (by omega) (by have := HWX.out.hle; simp; omega) ?_; intro b7 c7 w7 ho7 hg7; have HO7 := Lib.hid ho7; have HG7 := Lib.hid hg7; clear ho7 hg7))
              go_roundw
              case rel => first | exact ⟨_, _, _, _, _, _, _, _, _, _, _, ⟨b7, c7, cb6 + 1, cs6 ++ [(0 : Int)], _, rfl, by simp, by go_num, by simpa using HO7.out, by simp; omega, by omega, (HWX.out.alloc _).grown5 (HO6.out.alloc _) HG7.out⟩, rfl⟩ | exact ⟨b7, c7, cb6 + 1, cs6 ++ [(0 : Int)], _, rfl, by simp, by go_num, by simpa using HO7.out, by simp; omega, by omega, (HWX.out.alloc _).grown5 (HO6.out.alloc _) HG7.out⟩
              case measure => simp [intOf]; omega
            · obtain rfl : cb6 = 0 + 1 := by omega
              have HBK := Lib.hid (show brk s pos = false from brk_no (by rw [HRU.out]; simp [isT]; omega))
              have HUN := Lib.hid (show un s pos = 1 from (by unfold un; rw [HRU.out, if_pos (by omega)]))
              have HWF := HWX
              have hun' : 1 + pos ≤ p' := by have h1 := HUN.out; have h2 := HP'.out; omega
              go_wp2_with fail
              go_roundw
              case rel => exact ⟨p', L, 0 + 1, pos, pos, 0 + 1, _, some ⟨b6, 0, none⟩, cs6.length, c6, v, S, rfl, rfl, rfl, rfl, rfl, by go_num, ⟨HWF.out, HI.out.srt, hw2, by omega, fun h => by omega, fun _ => rfl, (fun h => by cases h), fun _ => ⟨cs6, HO6.out, hcl6, by omega, rfl⟩, by omega, by omega, by rw [← HI.out.hf, fin_un s pos L 0 pos hlt HBK.out, HUN.out, HP'.out]⟩⟩
              case measure =>
                have h1 := HIT.out
                have h2 := HWF.out.it
                have h3 := hpp
                simp only [World.iterPos, h2, h1]
                omega
        go_wp2_with fail
        go_loopw [5, 8] (fun s5 s8 wx => Rin w w.heap.size s p' L v S 0 s5 s8 wx) (fun _ s8 _ => 0 + 1 - (intOf s8).toNat)
        case atStart => exact ⟨_, 0, 0, [], _, rfl, rfl, by go_num, own_empty _ _ HW1.out.hle, by simp, by omega, HW1.out.alloc _⟩
        case round =>
          obtain ⟨b6, c6, cb6, cs6, wx, rfl, rfl, rfl, ho6, hcl6, hcb6, hwx⟩ := hrel
          have HO6 := Lib.hid ho6
          have HWX := Lib.hid hwx
          clear ho6 hwx
          by_cases hcc : cb6 ≤ 0
          · skip
            go_wp2_with (at_builtin; go_must (refine wpList_push_g _ rfl _ _ 32 rfl w.heap.size 21 .i32 4 Try.underlying32 info21 (by decide) _ cs6 rfl (HO6.out.alloc _) wx.heap.size 0 rfl ((Row.newArr wx 21 #[.int .i32 0]).at_ (i := 0) rfl) (by omega) (by have := HWX.out.hle; simp; omega) ?_; intro b7 c7 w7 ho7 hg7; have HO7 := Lib.hid ho7; have HG7 := Lib.hid hg7; clear ho7 hg7))
            go_roundw
            case rel => first | exact ⟨_, _, _, _, _, _, _, _, _, _, _, ⟨b7, c7, cb6 + 1, cs6 ++ [(0 : Int)], _, rfl, by simp, by go_num, by simpa using HO7.out, by simp; omega, by omega, (HWX.out.alloc _).grown5 (HO6.out.alloc _) HG7.out⟩, rfl⟩ | exact ⟨b7, c7, cb6 + 1, cs6 ++ [(0 : Int)], _, rfl, by simp, by go_num, by simpa using HO7.out, by simp; omega, by omega, (HWX.out.alloc _).grown5 (HO6.out.alloc _) HG7.out⟩
            case measure => simp [intOf]; omega
          · obtain rfl : cb6 = 0 + 1 := by omega
            have HBK := Lib.hid (show brk s pos = false from brk_no (by rw [HRU.out]; simp [isT]; omega))
            have HUN := Lib.hid (show un s pos = 2 from (by unfold un; rw [HRU.out, if_neg (by omega)]))
            have HWF := HWX
            have hun' : 2 + pos ≤ p' := by have h1 := HUN.out; have h2 := HP'.out; omega
            go_wp2_with fail
            go_roundw
            case rel => exact ⟨p', L, 0 + 2, pos, pos, 0 + 1, _, some ⟨b6, 0, none⟩, cs6.length, c6, v, S, rfl, rfl, rfl, rfl, rfl, by go_num, ⟨HWF.out, HI.out.srt, hw2, by omega, fun h => by omega, fun _ => rfl, (fun h => by cases h), fun _ => ⟨cs6, HO6.out, hcl6, by omega, rfl⟩, by omega, by omega, by rw [← HI.out.hf, fin_un s pos L 0 pos hlt HBK.out, HUN.out, HP'.out]⟩⟩
            case measure =>
              have h1 := HIT.out
              have h2 := HWF.out.it
              have h3 := hpp
              simp only [World.iterPos, h2, h1]
              omega
      · have tU : ((U : Int) == 0) = false := by simp; omega
        obtain rfl : T = lb := (HI.out.lbT (by omega)).symm
        rcases A5 with _ | a5
        · obtain ⟨rfl, rfl, hz⟩ := HI.out.nil rfl
          clear hz
          by_cases h13 : r = 13
          · subst h13
            by_cases hd : pos + 1 < s.size
            · have y1 := x1 hd
              clear x1
              by_cases hb : B1 = 10
              · subst hb
                have HBK := Lib.hid (show brk s pos = false from brk_cr (by unfold crlf; rw [HRU.out, HB1.out]; simp [hd]))
                have HUN := Lib.hid (show un s pos = 1 from (by unfold un; rw [HRU.out, if_pos (by omega)]))
                have HWF := HW1
                have hp1 : p' = pos + 1 := by have h1 := (HAS.out (by omega)).1; have h2 := HP'.out; omega
                have hnil := (HI.out.nil rfl).2.2
                have HNL := Lib.hid (show p' = T + (U + 1) by omega)
                clear hnil hp1
                go_wp2_with fail
                go_roundw
                case rel => exact ⟨p', L, U + 1, T, T, cb, f6, none, 0, 0, v, S, rfl, rfl, rfl, rfl, rfl, by go_num, ⟨HWF.out, HI.out.srt, hw2, by have := HNL.out; omega, fun h => by omega, fun _ => rfl, fun _ => ⟨rfl, rfl, HNL.out⟩, fun h => absurd rfl h, hcbs, by omega, by rw [← HI.out.hf, fin_un s pos L U T hlt HBK.out, HUN.out, HP'.out]⟩⟩
                case measure =>
                  have h1 := HIT.out
                  have h2 := HWF.out.it
                  have h3 := hpp
                  simp only [World.iterPos, h2, h1]
                  omega
              · have tb : ((B1 : Int) == 10) = false := by simp; omega
                have HBK := Lib.hid (show brk s pos = true from brk_yes (by rw [HRU.out]; rfl) (by unfold crlf; rw [HRU.out, HB1.out]; simp [hb]))
                obtain ⟨xs, hx1, hx2⟩ := (HW1.out.alloc (Obj.cells #[.slice none 0 0, .int .i32 f6, .int .i32 T] 38)).tab
                have HXS := Lib.hid (And.intro hx1 (And.intro hx2 ((HW1.out.alloc (Obj.cells #[.slice none 0 0, .int .i32 f6, .int .i32 T] 38)).hle)))
                clear hx1 hx2
                go_wp2_with (at_builtin; go_must (refine wpList_append_own _ rfl _ _ 29 rfl w.heap.size 38 i38 _ 3 32 Try.underlying29 H38.out.1 H38.out.2.1 H38.out.2.2.1 H38.out.2.2.2 rfl (by decide) v L _ rfl HXS.out.1 ⟨W'.heap.size, 0, none⟩ 1 1 [.slice none 0 0, .int .i32 f6, .int .i32 T] rfl rfl (by intro j u hu; rw [Addr.add_mid]; simpa using (Row.newArr W' 38 #[.slice none 0 0, .int .i32 f6, .int .i32 T]).at_ (i := j) (by simpa using hu)) (by simp [Value.oneCell']) (by unfold maxLen; omega) (by omega) HXS.out.2.2 ?_; intro v' w2 hown2 hgr2 _; have HO2 := Lib.hid hown2; have HG2 := Lib.hid hgr2; clear hown2 hgr2))
                have HWF := Lib.hid ((HW1.out.alloc (Obj.cells #[.slice none 0 0, .int .i32 f6, .int .i32 T] 38)).app (st := T) HXS.out.1 HXS.out.2.1 HO2.out HG2.out rfl rfl HI.out.srt.len)
                go_roundw
                case rel => exact ⟨p', L + 1, 0, p', T, 0, 0, none, 0, 0, v', S ++ [T], rfl, rfl, rfl, rfl, rfl, rfl, ⟨HWF.out, HI.out.srt.add (by omega), hw2, by omega, fun _ => ⟨rfl, rfl⟩, fun h => by omega, fun _ => ⟨rfl, rfl, rfl⟩, fun h => absurd rfl h, by omega, by omega, by rw [← HI.out.hf, fin_brk s pos L U T hlt HBK.out, HP'.out]⟩⟩
                case measure =>
                  have h1 := HIT.out
                  have h2 := HWF.out.it
                  have h3 := hpp
                  simp only [World.iterPos, h2, h1]
                  omega
            · clear x1
              have HBK := Lib.hid (show brk s pos = true from brk_yes (by rw [HRU.out]; rfl) (by unfold crlf; simp [hd]))
              obtain ⟨xs, hx1, hx2⟩ := (HW1.out.alloc (Obj.cells #[.slice none 0 0, .int .i32 f6, .int .i32 T] 38)).tab
              have HXS := Lib.hid (And.intro hx1 (And.intro hx2 ((HW1.out.alloc (Obj.cells #[.slice none 0 0, .int .i32 f6, .int .i32 T] 38)).hle)))
              clear hx1 hx2
              go_wp2_with (at_builtin; go_must (refine wpList_append_own _ rfl _ _ 29 rfl w.heap.size 38 i38 _ 3 32 Try.underlying29 H38.out.1 H38.out.2.1 H38.out.2.2.1 H38.out.2.2.2 rfl (by decide) v L _ rfl HXS.out.1 ⟨W'.heap.size, 0, none⟩ 1 1 [.slice none 0 0, .int .i32 f6, .int .i32 T] rfl rfl (by intro j u hu; rw [Addr.add_mid]; simpa using (Row.newArr W' 38 #[.slice none 0 0, .int .i32 f6, .int .i32 T]).at_ (i := j) (by simpa using hu)) (by simp [Value.oneCell']) (by unfold maxLen; omega) (by omega) HXS.out.2.2 ?_; intro v' w2 hown2 hgr2 _; have HO2 := Lib.hid hown2; have HG2 := Lib.hid hgr2; clear hown2 hgr2))
              have HWF := Lib.hid ((HW1.out.alloc (Obj.cells #[.slice none 0 0, .int .i32 f6, .int .i32 T] 38)).app (st := T) HXS.out.1 HXS.out.2.1 HO2.out HG2.out rfl rfl HI.out.srt.len)
              go_roundw
              case rel => exact ⟨p', L + 1, 0, p', T, 0, 0, none, 0, 0, v', S ++ [T], rfl, rfl, rfl, rfl, rfl, rfl, ⟨HWF.out, HI.out.srt.add (by omega), hw2, by omega, fun _ => ⟨rfl, rfl⟩, fun h => by omega, fun _ => ⟨rfl, rfl, rfl⟩, fun h => absurd rfl h, by omega, by omega, by rw [← HI.out.hf, fin_brk s pos L U T hlt HBK.out, HP'.out]⟩⟩
              case measure =>
                have h1 := HIT.out
                have h2 := HWF.out.it
                have h3 := hpp
                simp only [World.iterPos, h2, h1]
                omega
          clear x1
          by_cases h10 : r = 10
          · subst h10
            have HBK := Lib.hid (show brk s pos = true from brk_yes (by rw [HRU.out]; rfl) (by unfold crlf; rw [HRU.out]; rfl))
            obtain ⟨xs, hx1, hx2⟩ := (HW1.out.alloc (Obj.cells #[.slice none 0 0, .int .i32 f6, .int .i32 T] 38)).tab
            have HXS := Lib.hid (And.intro hx1 (And.intro hx2 ((HW1.out.alloc (Obj.cells #[.slice none 0 0, .int .i32 f6, .int .i32 T] 38)).hle)))
            clear hx1 hx2
            go_wp2_with (at_builtin; go_must (refine wpList_append_own _ rfl _ _ 29 rfl w.heap.size 38 i38 _ 3 32 Try.underlying29 H38.out.1 H38.out.2.1 H38.out.2.2.1 H38.out.2.2.2 rfl (by decide) v L _ rfl HXS.out.1 ⟨W'.heap.size, 0, none⟩ 1 1 [.slice none 0 0, .int .i32 f6, .int .i32 T] rfl rfl (by intro j u hu; rw [Addr.add_mid]; simpa using (Row.newArr W' 38 #[.slice none 0 0, .int .i32 f6, .int .i32 T]).at_ (i := j) (by simpa using hu)) (by simp [Value.oneCell']) (by unfold maxLen; omega) (by omega) HXS.out.2.2 ?_; intro v' w2 hown2 hgr2 _; have HO2 := Lib.hid hown2; have HG2 := Lib.hid hgr2; clear hown2 hgr2))
            have HWF := Lib.hid ((HW1.out.alloc (Obj.cells #[.slice none 0 0, .int .i32 f6, .int .i32 T] 38)).app (st := T) HXS.out.1 HXS.out.2.1 HO2.out HG2.out rfl rfl HI.out.srt.len)
            go_roundw
            case rel => exact ⟨p', L + 1, 0, p', T, 0, 0, none, 0, 0, v', S ++ [T], rfl, rfl, rfl, rfl, rfl, rfl, ⟨HWF.out, HI.out.srt.add (by omega), hw2, by omega, fun _ => ⟨rfl, rfl⟩, fun h => by omega, fun _ => ⟨rfl, rfl, rfl⟩, fun h => absurd rfl h, by omega, by omega, by rw [← HI.out.hf, fin_brk s pos L U T hlt HBK.out, HP'.out]⟩⟩
            case measure =>
              have h1 := HIT.out
              have h2 := HWF.out.it
              have h3 := hpp
              simp only [World.iterPos, h2, h1]
              omega
          by_cases h8232 : r = 8232
          · subst h8232
            go_wp2_with fail
            go_loopw [5, 8] (fun s5 s8 wx => Rin w w.heap.size s p' L v S (pos - T) s5 s8 wx) (fun _ s8 _ => (pos - T) + 1 - (intOf s8).toNat)
            case atStart => exact ⟨_, 0, pos - T, [], _, rfl, rfl, by go_num, own_empty _ _ HW1.out.hle, by simp, by omega, HW1.out.alloc _⟩
            case round =>
              obtain ⟨b6, c6, cb6, cs6, wx, rfl, rfl, rfl, ho6, hcl6, hcb6, hwx⟩ := hrel
              have HO6 := Lib.hid ho6
              have HWX := Lib.hid hwx
              clear ho6 hwx
              by_cases hcc : cb6 ≤ (pos - T)
              · skip
                go_wp2_with (at_builtin; go_must (refine wpList_push_g _ rfl _ _ 32 rfl w.heap.size 21 .i32 4 Try.underlying32 info21 (by decide) _ cs6 rfl (HO6.out.alloc _) wx.heap.size U rfl ((Row.newArr wx 21 #[.int .i32 U]).at_ (i := 0) rfl) (by omega) (by have := HWX.out.hle; simp; omega) ?_; intro b7 c7 w7 ho7 hg7; have HO7 := Lib.hid ho7; have HG7 := Lib.hid hg7; clear ho7 hg7))
                go_roundw
                case rel => first | exact ⟨_, _, _, _, _, _, _, _, _, _, _, ⟨b7, c7, cb6 + 1, cs6 ++ [(U : Int)], _, rfl, by simp, by go_num, by simpa using HO7.out, by simp; omega, by omega, (HWX.out.alloc _).grown5 (HO6.out.alloc _) HG7.out⟩, rfl⟩ | exact ⟨b7, c7, cb6 + 1, cs6 ++ [(U : Int)], _, rfl, by simp, by go_num, by simpa using HO7.out, by simp; omega, by omega, (HWX.out.alloc _).grown5 (HO6.out.alloc _) HG7.out⟩
                case measure => simp [intOf]; omega
              · obtain rfl : cb6 = (pos - T) + 1 := by omega
                have HBK := Lib.hid (show brk s pos = true from brk_yes (by rw [HRU.out]; rfl) (by unfold crlf; rw [HRU.out]; rfl))
                obtain ⟨xs, hx1, hx2⟩ := (HWX.out.alloc (Obj.cells #[.slice (some ⟨b6, 0, none⟩) cs6.length c6, .int .i32 ((pos : Int) - (T : Int)), .int .i32 T] 38)).tab
                have HXS := Lib.hid (And.intro hx1 (And.intro hx2 ((HWX.out.alloc (Obj.cells #[.slice (some ⟨b6, 0, none⟩) cs6.length c6, .int .i32 ((pos : Int) - (T : Int)), .int .i32 T] 38)).hle)))
                clear hx1 hx2
                go_wp2_with (at_builtin; go_must (refine wpList_append_own _ rfl _ _ 29 rfl w.heap.size 38 i38 _ 3 32 Try.underlying29 H38.out.1 H38.out.2.1 H38.out.2.2.1 H38.out.2.2.2 rfl (by decide) v L _ rfl HXS.out.1 ⟨wx.heap.size, 0, none⟩ 1 1 [.slice (some ⟨b6, 0, none⟩) cs6.length c6, .int .i32 ((pos : Int) - (T : Int)), .int .i32 T] rfl rfl (by intro j u hu; rw [Addr.add_mid]; simpa using (Row.newArr wx 38 #[.slice (some ⟨b6, 0, none⟩) cs6.length c6, .int .i32 ((pos : Int) - (T : Int)), .int .i32 T]).at_ (i := j) (by simpa using hu)) (by simp [Value.oneCell']) (by unfold maxLen; omega) (by omega) HXS.out.2.2 ?_; intro v' w2 hown2 hgr2 _; have HO2 := Lib.hid hown2; have HG2 := Lib.hid hgr2; clear hown2 hgr2))
                have HWF := Lib.hid ((HWX.out.alloc (Obj.cells #[.slice (some ⟨b6, 0, none⟩) cs6.length c6, .int .i32 ((pos : Int) - (T : Int)), .int .i32 T] 38)).app (st := T) HXS.out.1 HXS.out.2.1 HO2.out HG2.out rfl rfl HI.out.srt.len)
                go_roundw
                case rel => exact ⟨p', L + 1, 0, p', T, 0, 0, none, 0, 0, v', S ++ [T], rfl, rfl, rfl, rfl, rfl, rfl, ⟨HWF.out, HI.out.srt.add (by omega), hw2, by omega, fun _ => ⟨rfl, rfl⟩, fun h => by omega, fun _ => ⟨rfl, rfl, rfl⟩, fun h => absurd rfl h, by omega, by omega, by rw [← HI.out.hf, fin_brk s pos L U T hlt HBK.out, HP'.out]⟩⟩
                case measure =>
                  have h1 := HIT.out
                  have h2 := HWF.out.it
                  have h3 := hpp
                  simp only [World.iterPos, h2, h1]
                  omega
          by_cases h8233 : r = 8233
          · subst h8233
            go_wp2_with fail
            go_loopw [5, 8] (fun s5 s8 wx => Rin w w.heap.size s p' L v S (pos - T) s5 s8 wx) (fun _ s8 _ => (pos - T) + 1 - (intOf s8).toNat)
            case atStart => exact ⟨_, 0, pos - T, [], _, rfl, rfl, by go_num, own_empty _ _ HW1.out.hle, by simp, by omega, HW1.out.alloc _⟩
            case round =>
              obtain ⟨b6, c6, cb6, cs6, wx, rfl, rfl, rfl, ho6, hcl6, hcb6, hwx⟩ := hrel
              have HO6 := Lib.hid ho6
              have HWX := Lib.hid hwx
              clear ho6 hwx
              by_cases hcc : cb6 ≤ (pos - T)
              · skip
                go_wp2_with (at_builtin; go_must (refine wpList_push_g _ rfl _ _ 32 rfl w.heap.size 21 .i32 4 Try.underlying32 info21 (by decide) _ cs6 rfl (HO6.out.alloc _) wx.heap.size U rfl ((Row.newArr wx 21 #[.int .i32 U]).at_ (i := 0) rfl) (by omega) (by have := HWX.out.hle; simp; omega) ?_; intro b7 c7 w7 ho7 hg7; have HO7 := Lib.hid ho7; have HG7 := Lib.hid hg7; clear ho7 hg7))
                go_roundw
                case rel => first | exact ⟨_, _, _, _, _, _, _, _, _, _, _, ⟨b7, c7, cb6 + 1, cs6 ++ [(U : Int)], _, rfl, by simp, by go_num, by simpa using HO7.out, by simp; omega, by omega, (HWX.out.alloc _).grown5 (HO6.out.alloc _) HG7.out⟩, rfl⟩ | exact ⟨b7, c7, cb6 + 1, cs6 ++ [(U : Int)], _, rfl, by simp, by go_num, by simpa using HO7.out, by simp; omega, by omega, (HWX.out.alloc _).grown5 (HO6.out.alloc _) HG7.out⟩
                case measure => simp [intOf]; omega
              · obtain rfl : cb6 = (pos - T) + 1 := by omega
                have HBK := Lib.hid (show brk s pos = true from brk_yes (by rw [HRU.out]; rfl) (by unfold crlf; rw [HRU.out]; rfl))
                obtain ⟨xs, hx1, hx2⟩ := (HWX.out.alloc (Obj.cells #[.slice (some ⟨b6, 0, none⟩) cs6.length c6, .int .i32 ((pos : Int) - (T : Int)), .int .i32 T] 38)).tab
                have HXS := Lib.hid (And.intro hx1 (And.intro hx2 ((HWX.out.alloc (Obj.cells #[.slice (some ⟨b6, 0, none⟩) cs6.length c6, .int .i32 ((pos : Int) - (T : Int)), .int .i32 T] 38)).hle)))
                clear hx1 hx2
                go_wp2_with (at_builtin; go_must (refine wpList_append_own _ rfl _ _ 29 rfl w.heap.size 38 i38 _ 3 32 Try.underlying29 H38.out.1 H38.out.2.1 H38.out.2.2.1 H38.out.2.2.2 rfl (by decide) v L _ rfl HXS.out.1 ⟨wx.heap.size, 0, none⟩ 1 1 [.slice (some ⟨b6, 0, none⟩) cs6.length c6, .int .i32 ((pos : Int) - (T : Int)), .int .i32 T] rfl rfl (by intro j u hu; rw [Addr.add_mid]; simpa using (Row.newArr wx 38 #[.slice (some ⟨b6, 0, none⟩) cs6.length c6, .int .i32 ((pos : Int) - (T : Int)), .int .i32 T]).at_ (i := j) (by simpa using hu)) (by simp [Value.oneCell']) (by unfold maxLen; omega) (by omega) HXS.out.2.2 ?_; intro v' w2 hown2 hgr2 _; have HO2 := Lib.hid hown2; have HG2 := Lib.hid hgr2; clear hown2 hgr2))
                have HWF := Lib.hid ((HWX.out.alloc (Obj.cells #[.slice (some ⟨b6, 0, none⟩) cs6.length c6, .int .i32 ((pos : Int) - (T : Int)), .int .i32 T] 38)).app (st := T) HXS.out.1 HXS.out.2.1 HO2.out HG2.out rfl rfl HI.out.srt.len)
                go_roundw
                case rel => exact ⟨p', L + 1, 0, p', T, 0, 0, none, 0, 0, v', S ++ [T], rfl, rfl, rfl, rfl, rfl, rfl, ⟨HWF.out, HI.out.srt.add (by omega), hw2, by omega, fun _ => ⟨rfl, rfl⟩, fun h => by omega, fun _ => ⟨rfl, rfl, rfl⟩, fun h => absurd rfl h, by omega, by omega, by rw [← HI.out.hf, fin_brk s pos L U T hlt HBK.out, HP'.out]⟩⟩
                case measure =>
                  have h1 := HIT.out
                  have h2 := HWF.out.it
                  have h3 := hpp
                  simp only [World.iterPos, h2, h1]
                  omega
          have t13 : ((r : Int) == 13) = false := by simp; omega
          have t10 : ((r : Int) == 10) = false := by simp; omega
          have t8232 : ((r : Int) == 8232) = false := by simp; omega
          have t8233 : ((r : Int) == 8233) = false := by simp; omega
          by_cases h127 : r ≤ 127
          · skip
            have HBK := Lib.hid (show brk s pos = false from brk_no (by rw [HRU.out]; simp [isT]; omega))
            have HUN := Lib.hid (show un s pos = 1 from (by unfold un; rw [HRU.out, if_pos (by omega)]))
            have HWF := HW1
            have hp1 : p' = pos + 1 := by have h1 := (HAS.out (by omega)).1; have h2 := HP'.out; omega
            have hnil := (HI.out.nil rfl).2.2
            have HNL := Lib.hid (show p' = T + (U + 1) by omega)
            clear hnil hp1
            go_wp2_with fail
            go_roundw
            case rel => exact ⟨p', L, U + 1, T, T, cb, f6, none, 0, 0, v, S, rfl, rfl, rfl, rfl, rfl, by go_num, ⟨HWF.out, HI.out.srt, hw2, by have := HNL.out; omega, fun h => by omega, fun _ => rfl, fun _ => ⟨rfl, rfl, HNL.out⟩, fun h => absurd rfl h, hcbs, by omega, by rw [← HI.out.hf, fin_un s pos L U T hlt HBK.out, HUN.out, HP'.out]⟩⟩
            case measure =>
              have h1 := HIT.out
              have h2 := HWF.out.it
              have h3 := hpp
              simp only [World.iterPos, h2, h1]
              omega
          by_cases hbig : r ≤ 65535
          · skip
            go_wp2_with fail
            go_loopw [5, 8] (fun s5 s8 wx => Rin w w.heap.size s p' L v S (pos - T) s5 s8 wx) (fun _ s8 _ => (pos - T) + 1 - (intOf s8).toNat)
            case atStart => exact ⟨_, 0, pos - T, [], _, rfl, rfl, by go_num, own_empty _ _ HW1.out.hle, by simp, by omega, HW1.out.alloc _⟩
            case round =>
              obtain ⟨b6, c6, cb6, cs6, wx, rfl, rfl, rfl, ho6, hcl6, hcb6, hwx⟩ := hrel
              have HO6 := Lib.hid ho6
              have HWX := Lib.hid hwx
              clear ho6 hwx
              by_cases hcc : cb6 ≤ (pos - T)
              · skip
                go_wp2_with (at_builtin; go_must (refine wpList_push_g _ rfl _ _ 32 rfl w.heap.size 21 .i32 4 Try.underlying32 info21 (by decide) _ cs6 rfl (HO6.out.alloc _) wx.heap.size U rfl ((Row.newArr wx 21 #[.int .i32 U]).at_ (i := 0) rfl) (by omega) (by have := HWX.out.hle; simp; omega) ?_; intro b7 c7 w7 ho7 hg7; have HO7 := Lib.hid ho7; have HG7 := Lib.hid hg7; clear ho7 hg7))
                go_roundw
                case rel => first | exact ⟨_, _, _, _, _, _, _, _, _, _, _, ⟨b7, c7, cb6 + 1, cs6 ++ [(U : Int)], _, rfl, by simp, by go_num, by simpa using HO7.out, by simp; omega, by omega, (HWX.out.alloc _).grown5 (HO6.out.alloc _) HG7.out⟩, rfl⟩ | exact ⟨b7, c7, cb6 + 1, cs6 ++ [(U : Int)], _, rfl, by simp, by go_num, by simpa using HO7.out, by simp; omega, by omega, (HWX.out.alloc _).grown5 (HO6.out.alloc _) HG7.out⟩
                case measure => simp [intOf]; omega
              · obtain rfl : cb6 = (pos - T) + 1 := by omega
                have HBK := Lib.hid (show brk s pos = false from brk_no (by rw [HRU.out]; simp [isT]; omega))
                have HUN := Lib.hid (show un s pos = 1 from (by unfold un; rw [HRU.out, if_pos (by omega)]))
                have HWF := HWX
                have hun' : 1 + pos ≤ p' := by have h1 := HUN.out; have h2 := HP'.out; omega
                go_wp2_with fail
                go_roundw
                case rel => exact ⟨p', L, U + 1, T, T, (pos - T) + 1, _, some ⟨b6, 0, none⟩, cs6.length, c6, v, S, rfl, rfl, rfl, rfl, rfl, by go_num, ⟨HWF.out, HI.out.srt, hw2, by omega, fun h => by omega, fun _ => rfl, (fun h => by cases h), fun _ => ⟨cs6, HO6.out, hcl6, by omega, rfl⟩, by omega, by omega, by rw [← HI.out.hf, fin_un s pos L U T hlt HBK.out, HUN.out, HP'.out]⟩⟩
                case measure =>
                  have h1 := HIT.out
                  have h2 := HWF.out.it
                  have h3 := hpp
                  simp only [World.iterPos, h2, h1]
                  omega
          go_wp2_with fail
          go_loopw [5, 8] (fun s5 s8 wx => Rin w w.heap.size s p' L v S (pos - T) s5 s8 wx) (fun _ s8 _ => (pos - T) + 1 - (intOf s8).toNat)
          case atStart => exact ⟨_, 0, pos - T, [], _, rfl, rfl, by go_num, own_empty _ _ HW1.out.hle, by simp, by omega, HW1.out.alloc _⟩
          case round =>
            obtain ⟨b6, c6, cb6, cs6, wx, rfl, rfl, rfl, ho6, hcl6, hcb6, hwx⟩ := hrel
            have HO6 := Lib.hid ho6
            have HWX := Lib.hid hwx
            clear ho6 hwx
            by_cases hcc : cb6 ≤ (pos - T)
            · skip
              go_wp2_with (at_builtin; go_must (refine wpList_push_g _ rfl _ _ 32 rfl w.heap.size 21 .i32 4 Try.underlying32 info21 (by decide) _ cs6 rfl (HO6.out.alloc _) wx.heap.size U rfl ((Row.newArr wx 21 #[.int .i32 U]).at_ (i := 0) rfl) (by omega) (by have := HWX.out.hle; simp; omega) ?_; intro b7 c7 w7 ho7 hg7; have HO7 := Lib.hid ho7; have HG7 := Lib.hid hg7; clear ho7 hg7))
              go_roundw
              case rel => first | exact ⟨_, _, _, _, _, _, _, _, _, _, _, ⟨b7, c7, cb6 + 1, cs6 ++ [(U : Int)], _, rfl, by simp, by go_num, by simpa using HO7.out, by simp; omega, by omega, (HWX.out.alloc _).grown5 (HO6.out.alloc _) HG7.out⟩, rfl⟩ | exact ⟨b7, c7, cb6 + 1, cs6 ++ [(U : Int)], _, rfl, by simp, by go_num, by simpa using HO7.out, by simp; omega, by omega, (HWX.out.alloc _).grown5 (HO6.out.alloc _) HG7.out⟩
              case measure => simp [intOf]; omega
            · obtain rfl : cb6 = (pos - T) + 1 := by omega
              have HBK := Lib.hid (show brk s pos = false from brk_no (by rw [HRU.out]; simp [isT]; omega))
              have HUN := Lib.hid (show un s pos = 2 from (by unfold un; rw [HRU.out, if_neg (by omega)]))
              have HWF := HWX
              have hun' : 2 + pos ≤ p' := by have h1 := HUN.out; have h2 := HP'.out; omega
              go_wp2_with fail
              go_roundw
              case rel => exact ⟨p', L, U + 2, T, T, (pos - T) + 1, _, some ⟨b6, 0, none⟩, cs6.length, c6, v, S, rfl, rfl, rfl, rfl, rfl, by go_num, ⟨HWF.out, HI.out.srt, hw2, by omega, fun h => by omega, fun _ => rfl, (fun h => by cases h), fun _ => ⟨cs6, HO6.out, hcl6, by omega, rfl⟩, by omega, by omega, by rw [← HI.out.hf, fin_un s pos L U T hlt HBK.out, HUN.out, HP'.out]⟩⟩
              case measure =>
                have h1 := HIT.out
                have h2 := HWF.out.it
                have h3 := hpp
                simp only [World.iterPos, h2, h1]
                omega
        · obtain ⟨cs, ho5, hcl, hcb, hcn⟩ := HI.out.own (by simp)
          obtain ⟨b5, rfl⟩ : ∃ b, a5 = ⟨b, 0, none⟩ := by
            rcases ho5.2 with ⟨h, _⟩ | ⟨g, cap, cur, h, _⟩
            · cases h
            · injection h with h; injection h with h; exact ⟨g, h⟩
          subst hcn
          have HO5 := Lib.hid ho5
          clear ho5
          by_cases h13 : r = 13
          · subst h13
            by_cases hd : pos + 1 < s.size
            · have y1 := x1 hd
              clear x1
              by_cases hb : B1 = 10
              · subst hb
                go_wp2_with fail
                go_loopw [5, 8] (fun s5 s8 wx => Rin w w.heap.size s p' L v S (pos - T) s5 s8 wx) (fun _ s8 _ => (pos - T) + 1 - (intOf s8).toNat)
                case atStart => exact ⟨b5, c5, cb, cs, _, rfl, rfl, rfl, own_kept_it HO5.out HI.out.wd HG1.out, hcl, by omega, HW1.out⟩
                case round =>
                  obtain ⟨b6, c6, cb6, cs6, wx, rfl, rfl, rfl, ho6, hcl6, hcb6, hwx⟩ := hrel
                  have HO6 := Lib.hid ho6
                  have HWX := Lib.hid hwx
                  clear ho6 hwx
                  by_cases hcc : cb6 ≤ (pos - T)
                  · skip
                    go_wp2_with (at_builtin; go_must (refine wpList_push_g _ rfl _ _ 32 rfl w.heap.size 21 .i32 4 Try.underlying32 info21 (by decide) _ cs6 rfl (HO6.out.alloc _) wx.heap.size U rfl ((Row.newArr wx 21 #[.int .i32 U]).at_ (i := 0) rfl) (by omega) (by have := HWX.out.hle; simp; omega) ?_; intro b7 c7 w7 ho7 hg7; have HO7 := Lib.hid ho7; have HG7 := Lib.hid hg7; clear ho7 hg7))
                    go_roundw
                    case rel => first | exact ⟨_, _, _, _, _, _, _, _, _, _, _, ⟨b7, c7, cb6 + 1, cs6 ++ [(U : Int)], _, rfl, by simp, by go_num, by simpa using HO7.out, by simp; omega, by omega, (HWX.out.alloc _).grown5 (HO6.out.alloc _) HG7.out⟩, rfl⟩ | exact ⟨b7, c7, cb6 + 1, cs6 ++ [(U : Int)], _, rfl, by simp, by go_num, by simpa using HO7.out, by simp; omega, by omega, (HWX.out.alloc _).grown5 (HO6.out.alloc _) HG7.out⟩
                    case measure => simp [intOf]; omega
                  · obtain rfl : cb6 = (pos - T) + 1 := by omega
                    have HBK := Lib.hid (show brk s pos = false from brk_cr (by unfold crlf; rw [HRU.out, HB1.out]; simp [hd]))
                    have HUN := Lib.hid (show un s pos = 1 from (by unfold un; rw [HRU.out, if_pos (by omega)]))
                    have HWF := HWX
                    have hun' : 1 + pos ≤ p' := by have h1 := HUN.out; have h2 := HP'.out; omega
                    go_wp2_with fail
                    go_roundw
                    case rel => exact ⟨p', L, U + 1, T, T, (pos - T) + 1, _, some ⟨b6, 0, none⟩, cs6.length, c6, v, S, rfl, rfl, rfl, rfl, rfl, by go_num, ⟨HWF.out, HI.out.srt, hw2, by omega, fun h => by omega, fun _ => rfl, (fun h => by cases h), fun _ => ⟨cs6, HO6.out, hcl6, by omega, rfl⟩, by omega, by omega, by rw [← HI.out.hf, fin_un s pos L U T hlt HBK.out, HUN.out, HP'.out]⟩⟩
                    case measure =>
                      have h1 := HIT.out
                      have h2 := HWF.out.it
                      have h3 := hpp
                      simp only [World.iterPos, h2, h1]
                      omega
              · have tb : ((B1 : Int) == 10) = false := by simp; omega
                go_wp2_with fail
                go_loopw [5, 8] (fun s5 s8 wx => Rin w w.heap.size s p' L v S (pos - T) s5 s8 wx) (fun _ s8 _ => (pos - T) + 1 - (intOf s8).toNat)
                case atStart => exact ⟨b5, c5, cb, cs, _, rfl, rfl, rfl, own_kept_it HO5.out HI.out.wd HG1.out, hcl, by omega, HW1.out⟩
                case round =>
                  obtain ⟨b6, c6, cb6, cs6, wx, rfl, rfl, rfl, ho6, hcl6, hcb6, hwx⟩ := hrel
                  have HO6 := Lib.hid ho6
                  have HWX := Lib.hid hwx
                  clear ho6 hwx
                  by_cases hcc : cb6 ≤ (pos - T)
                  · skip
                    go_wp2_with (at_builtin; go_must (refine wpList_push_g _ rfl _ _ 32 rfl w.heap.size 21 .i32 4 Try.underlying32 info21 (by decide) _ cs6 rfl (HO6.out.alloc _) wx.heap.size U rfl ((Row.newArr wx 21 #[.int .i32 U]).at_ (i := 0) rfl) (by omega) (by have := HWX.out.hle; simp; omega) ?_; intro b7 c7 w7 ho7 hg7; have HO7 := Lib.hid ho7; have HG7 := Lib.hid hg7; clear ho7 hg7))
                    go_roundw
                    case rel => first | exact ⟨_, _, _, _, _, _, _, _, _, _, _, ⟨b7, c7, cb6 + 1, cs6 ++ [(U : Int)], _, rfl, by simp, by go_num, by simpa using HO7.out, by simp; omega, by omega, (HWX.out.alloc _).grown5 (HO6.out.alloc _) HG7.out⟩, rfl⟩ | exact ⟨b7, c7, cb6 + 1, cs6 ++ [(U : Int)], _, rfl, by simp, by go_num, by simpa using HO7.out, by simp; omega, by omega, (HWX.out.alloc _).grown5 (HO6.out.alloc _) HG7.out⟩
                    case measure => simp [intOf]; omega
                  · obtain rfl : cb6 = (pos - T) + 1 := by omega
                    have HBK := Lib.hid (show brk s pos = true from brk_yes (by rw [HRU.out]; rfl) (by unfold crlf; rw [HRU.out, HB1.out]; simp [hb]))
                    obtain ⟨xs, hx1, hx2⟩ := (HWX.out.alloc (Obj.cells #[.slice (some ⟨b6, 0, none⟩) cs6.length c6, .int .i32 f6, .int .i32 T] 38)).tab
                    have HXS := Lib.hid (And.intro hx1 (And.intro hx2 ((HWX.out.alloc (Obj.cells #[.slice (some ⟨b6, 0, none⟩) cs6.length c6, .int .i32 f6, .int .i32 T] 38)).hle)))
                    clear hx1 hx2
                    go_wp2_with (at_builtin; go_must (refine wpList_append_own _ rfl _ _ 29 rfl w.heap.size 38 i38 _ 3 32 Try.underlying29 H38.out.1 H38.out.2.1 H38.out.2.2.1 H38.out.2.2.2 rfl (by decide) v L _ rfl HXS.out.1 ⟨wx.heap.size, 0, none⟩ 1 1 [.slice (some ⟨b6, 0, none⟩) cs6.length c6, .int .i32 f6, .int .i32 T] rfl rfl (by intro j u hu; rw [Addr.add_mid]; simpa using (Row.newArr wx 38 #[.slice (some ⟨b6, 0, none⟩) cs6.length c6, .int .i32 f6, .int .i32 T]).at_ (i := j) (by simpa using hu)) (by simp [Value.oneCell']) (by unfold maxLen; omega) (by omega) HXS.out.2.2 ?_; intro v' w2 hown2 hgr2 _; have HO2 := Lib.hid hown2; have HG2 := Lib.hid hgr2; clear hown2 hgr2))
                    have HWF := Lib.hid ((HWX.out.alloc (Obj.cells #[.slice (some ⟨b6, 0, none⟩) cs6.length c6, .int .i32 f6, .int .i32 T] 38)).app (st := T) HXS.out.1 HXS.out.2.1 HO2.out HG2.out rfl rfl HI.out.srt.len)
                    go_roundw
                    case rel => exact ⟨p', L + 1, 0, p', T, 0, 0, none, 0, 0, v', S ++ [T], rfl, rfl, rfl, rfl, rfl, rfl, ⟨HWF.out, HI.out.srt.add (by omega), hw2, by omega, fun _ => ⟨rfl, rfl⟩, fun h => by omega, fun _ => ⟨rfl, rfl, rfl⟩, fun h => absurd rfl h, by omega, by omega, by rw [← HI.out.hf, fin_brk s pos L U T hlt HBK.out, HP'.out]⟩⟩
                    case measure =>
                      have h1 := HIT.out
                      have h2 := HWF.out.it
                      have h3 := hpp
                      simp only [World.iterPos, h2, h1]
                      omega
            · clear x1
              go_wp2_with fail
              go_loopw [5, 8] (fun s5 s8 wx => Rin w w.heap.size s p' L v S (pos - T) s5 s8 wx) (fun _ s8 _ => (pos - T) + 1 - (intOf s8).toNat)
              case atStart => exact ⟨b5, c5, cb, cs, _, rfl, rfl, rfl, own_kept_it HO5.out HI.out.wd HG1.out, hcl, by omega, HW1.out⟩
              case round =>
                obtain ⟨b6, c6, cb6, cs6, wx, rfl, rfl, rfl, ho6, hcl6, hcb6, hwx⟩ := hrel
                have HO6 := Lib.hid ho6
                have HWX := Lib.hid hwx
                clear ho6 hwx
                by_cases hcc : cb6 ≤ (pos - T)
                · skip
                  go_wp2_with (at_builtin; go_must (refine wpList_push_g _ rfl _ _ 32 rfl w.heap.size 21 .i32 4 Try.underlying32 info21 (by decide) _ cs6 rfl (HO6.out.alloc _) wx.heap.size U rfl ((Row.newArr wx 21 #[.int .i32 U]).at_ (i := 0) rfl) (by omega) (by have := HWX.out.hle; simp; omega) ?_; intro b7 c7 w7 ho7 hg7; have HO7 := Lib.hid ho7; have HG7 := Lib.hid hg7; clear ho7 hg7))
                  go_roundw
                  case rel => first | exact ⟨_, _, _, _, _, _, _, _, _, _, _, ⟨b7, c7, cb6 + 1, cs6 ++ [(U : Int)], _, rfl, by simp, by go_num, by simpa using HO7.out, by simp; omega, by omega, (HWX.out.alloc _).grown5 (HO6.out.alloc _) HG7.out⟩, rfl⟩ | exact ⟨b7, c7, cb6 + 1, cs6 ++ [(U : Int)], _, rfl, by simp, by go_num, by simpa using HO7.out, by simp; omega, by omega, (HWX.out.alloc _).grown5 (HO6.out.alloc _) HG7.out⟩
                  case measure => simp [intOf]; omega
                · obtain rfl : cb6 = (pos - T) + 1 := by omega
                  have HBK := Lib.hid (show brk s pos = true from brk_yes (by rw [HRU.out]; rfl) (by unfold crlf; simp [hd]))
                  obtain ⟨xs, hx1, hx2⟩ := (HWX.out.alloc (Obj.cells #[.slice (some ⟨b6, 0, none⟩) cs6.length c6, .int .i32 f6, .int .i32 T] 38)).tab
                  have HXS := Lib.hid (And.intro hx1 (And.intro hx2 ((HWX.out.alloc (Obj.cells #[.slice (some ⟨b6, 0, none⟩) cs6.length c6, .int .i32 f6, .int .i32 T] 38)).hle)))
                  clear hx1 hx2
                  go_wp2_with (at_builtin; go_must (refine wpList_append_own _ rfl _ _ 29 rfl w.heap.size 38 i38 _ 3 32 Try.underlying29 H38.out.1 H38.out.2.1 H38.out.2.2.1 H38.out.2.2.2 rfl (by decide) v L _ rfl HXS.out.1 ⟨wx.heap.size, 0, none⟩ 1 1 [.slice (some ⟨b6, 0, none⟩) cs6.length c6, .int .i32 f6, .int .i32 T] rfl rfl (by intro j u hu; rw [Addr.add_mid]; simpa using (Row.newArr wx 38 #[.slice (some ⟨b6, 0, none⟩) cs6.length c6, .int .i32 f6, .int .i32 T]).at_ (i := j) (by simpa using hu)) (by simp [Value.oneCell']) (by unfold maxLen; omega) (by omega) HXS.out.2.2 ?_; intro v' w2 hown2 hgr2 _; have HO2 := Lib.hid hown2; have HG2 := Lib.hid hgr2; clear hown2 hgr2))
                  have HWF := Lib.hid ((HWX.out.alloc (Obj.cells #[.slice (some ⟨b6, 0, none⟩) cs6.length c6, .int .i32 f6, .int .i32 T] 38)).app (st := T) HXS.out.1 HXS.out.2.1 HO2.out HG2.out rfl rfl HI.out.srt.len)
                  go_roundw
                  case rel => exact ⟨p', L + 1, 0, p', T, 0, 0, none, 0, 0, v', S ++ [T], rfl, rfl, rfl, rfl, rfl, rfl, ⟨HWF.out, HI.out.srt.add (by omega), hw2, by omega, fun _ => ⟨rfl, rfl⟩, fun h => by omega, fun _ => ⟨rfl, rfl, rfl⟩, fun h => absurd rfl h, by omega, by omega, by rw [← HI.out.hf, fin_brk s pos L U T hlt HBK.out, HP'.out]⟩⟩
                  case measure =>
                    have h1 := HIT.out
                    have h2 := HWF.out.it
                    have h3 := hpp
                    simp only [World.iterPos, h2, h1]
                    omega
          clear x1
          by_cases h10 : r = 10
          · subst h10
            go_wp2_with fail
            go_loopw [5, 8] (fun s5 s8 wx => Rin w w.heap.size s p' L v S (pos - T) s5 s8 wx) (fun _ s8 _ => (pos - T) + 1 - (intOf s8).toNat)
            case atStart => exact ⟨b5, c5, cb, cs, _, rfl, rfl, rfl, own_kept_it HO5.out HI.out.wd HG1.out, hcl, by omega, HW1.out⟩
            case round =>
              obtain ⟨b6, c6, cb6, cs6, wx, rfl, rfl, rfl, ho6, hcl6, hcb6, hwx⟩ := hrel
              have HO6 := Lib.hid ho6
              have HWX := Lib.hid hwx
              clear ho6 hwx
              by_cases hcc : cb6 ≤ (pos - T)
              · skip
                go_wp2_with (at_builtin; go_must (refine wpList_push_g _ rfl _ _ 32 rfl w.heap.size 21 .i32 4 Try.underlying32 info21 (by decide) _ cs6 rfl (HO6.out.alloc _) wx.heap.size U rfl ((Row.newArr wx 21 #[.int .i32 U]).at_ (i := 0) rfl) (by omega) (by have := HWX.out.hle; simp; omega) ?_; intro b7 c7 w7 ho7 hg7; have HO7 := Lib.hid ho7; have HG7 := Lib.hid hg7; clear ho7 hg7))
                go_roundw
                case rel => first | exact ⟨_, _, _, _, _, _, _, _, _, _, _, ⟨b7, c7, cb6 + 1, cs6 ++ [(U : Int)], _, rfl, by simp, by go_num, by simpa using HO7.out, by simp; omega, by omega, (HWX.out.alloc _).grown5 (HO6.out.alloc _) HG7.out⟩, rfl⟩ | exact ⟨b7, c7, cb6 + 1, cs6 ++ [(U : Int)], _, rfl, by simp, by go_num, by simpa using HO7.out, by simp; omega, by omega, (HWX.out.alloc _).grown5 (HO6.out.alloc _) HG7.out⟩
                case measure => simp [intOf]; omega
              · obtain rfl : cb6 = (pos - T) + 1 := by omega
                have HBK := Lib.hid (show brk s pos = true from brk_yes (by rw [HRU.out]; rfl) (by unfold crlf; rw [HRU.out]; rfl))
                obtain ⟨xs, hx1, hx2⟩ := (HWX.out.alloc (Obj.cells #[.slice (some ⟨b6, 0, none⟩) cs6.length c6, .int .i32 f6, .int .i32 T] 38)).tab
                have HXS := Lib.hid (And.intro hx1 (And.intro hx2 ((HWX.out.alloc (Obj.cells #[.slice (some ⟨b6, 0, none⟩) cs6.length c6, .int .i32 f6, .int .i32 T] 38)).hle)))
                clear hx1 hx2
                go_wp2_with (at_builtin; go_must (refine wpList_append_own _ rfl _ _ 29 rfl w.heap.size 38 i38 _ 3 32 Try.underlying29 H38.out.1 H38.out.2.1 H38.out.2.2.1 H38.out.2.2.2 rfl (by decide) v L _ rfl HXS.out.1 ⟨wx.heap.size, 0, none⟩ 1 1 [.slice (some ⟨b6, 0, none⟩) cs6.length c6, .int .i32 f6, .int .i32 T] rfl rfl (by intro j u hu; rw [Addr.add_mid]; simpa using (Row.newArr wx 38 #[.slice (some ⟨b6, 0, none⟩) cs6.length c6, .int .i32 f6, .int .i32 T]).at_ (i := j) (by simpa using hu)) (by simp [Value.oneCell']) (by unfold maxLen; omega) (by omega) HXS.out.2.2 ?_; intro v' w2 hown2 hgr2 _; have HO2 := Lib.hid hown2; have HG2 := Lib.hid hgr2; clear hown2 hgr2))
                have HWF := Lib.hid ((HWX.out.alloc (Obj.cells #[.slice (some ⟨b6, 0, none⟩) cs6.length c6, .int .i32 f6, .int .i32 T] 38)).app (st := T) HXS.out.1 HXS.out.2.1 HO2.out HG2.out rfl rfl HI.out.srt.len)
                go_roundw
                case rel => exact ⟨p', L + 1, 0, p', T, 0, 0, none, 0, 0, v', S ++ [T], rfl, rfl, rfl, rfl, rfl, rfl, ⟨HWF.out, HI.out.srt.add (by omega), hw2, by omega, fun _ => ⟨rfl, rfl⟩, fun h => by omega, fun _ => ⟨rfl, rfl, rfl⟩, fun h => absurd rfl h, by omega, by omega, by rw [← HI.out.hf, fin_brk s pos L U T hlt HBK.out, HP'.out]⟩⟩
                case measure =>
                  have h1 := HIT.out
                  have h2 := HWF.out.it
                  have h3 := hpp
                  simp only [World.iterPos, h2, h1]
                  omega
          by_cases h8232 : r = 8232
          · subst h8232
            go_wp2_with fail
            go_loopw [5, 8] (fun s5 s8 wx => Rin w w.heap.size s p' L v S (pos - T) s5 s8 wx) (fun _ s8 _ => (pos - T) + 1 - (intOf s8).toNat)
            case atStart => exact ⟨b5, c5, cb, cs, _, rfl, rfl, rfl, own_kept_it HO5.out HI.out.wd HG1.out, hcl, by omega, HW1.out⟩
            case round =>
              obtain ⟨b6, c6, cb6, cs6, wx, rfl, rfl, rfl, ho6, hcl6, hcb6, hwx⟩ := hrel
              have HO6 := Lib.hid ho6
              have HWX := Lib.hid hwx
              clear ho6 hwx
              by_cases hcc : cb6 ≤ (pos - T)
              · skip
                go_wp2_with (at_builtin; go_must (refine wpList_push_g _ rfl _ _ 32 rfl w.heap.size 21 .i32 4 Try.underlying32 info21 (by decide) _ cs6 rfl (HO6.out.alloc _) wx.heap.size U rfl ((Row.newArr wx 21 #[.int .i32 U]).at_ (i := 0) rfl) (by omega) (by have := HWX.out.hle; simp; omega) ?_; intro b7 c7 w7 ho7 hg7; have HO7 := Lib.hid ho7; have HG7 := Lib.hid hg7; clear ho7 hg7))
                go_roundw
                case rel => first | exact ⟨_, _, _, _, _, _, _, _, _, _, _, ⟨b7, c7, cb6 + 1, cs6 ++ [(U : Int)], _, rfl, by simp, by go_num, by simpa using HO7.out, by simp; omega, by omega, (HWX.out.alloc _).grown5 (HO6.out.alloc _) HG7.out⟩, rfl⟩ | exact ⟨b7, c7, cb6 + 1, cs6 ++ [(U : Int)], _, rfl, by simp, by go_num, by simpa using HO7.out, by simp; omega, by omega, (HWX.out.alloc _).grown5 (HO6.out.alloc _) HG7.out⟩
                case measure => simp [intOf]; omega
              · obtain rfl : cb6 = (pos - T) + 1 := by omega
                have HBK := Lib.hid (show brk s pos = true from brk_yes (by rw [HRU.out]; rfl) (by unfold crlf; rw [HRU.out]; rfl))
                obtain ⟨xs, hx1, hx2⟩ := (HWX.out.alloc (Obj.cells #[.slice (some ⟨b6, 0, none⟩) cs6.length c6, .int .i32 f6, .int .i32 T] 38)).tab
                have HXS := Lib.hid (And.intro hx1 (And.intro hx2 ((HWX.out.alloc (Obj.cells #[.slice (some ⟨b6, 0, none⟩) cs6.length c6, .int .i32 f6, .int .i32 T] 38)).hle)))
                clear hx1 hx2
                go_wp2_with (at_builtin; go_must (refine wpList_append_own _ rfl _ _ 29 rfl w.heap.size 38 i38 _ 3 32 Try.underlying29 H38.out.1 H38.out.2.1 H38.out.2.2.1 H38.out.2.2.2 rfl (by decide) v L _ rfl HXS.out.1 ⟨wx.heap.size, 0, none⟩ 1 1 [.slice (some ⟨b6, 0, none⟩) cs6.length c6, .int .i32 f6, .int .i32 T] rfl rfl (by intro j u hu; rw [Addr.add_mid]; simpa using (Row.newArr wx 38 #[.slice (some ⟨b6, 0, none⟩) cs6.length c6, .int .i32 f6, .int .i32 T]).at_ (i := j) (by simpa using hu)) (by simp [Value.oneCell']) (by unfold maxLen; omega) (by omega) HXS.out.2.2 ?_; intro v' w2 hown2 hgr2 _; have HO2 := Lib.hid hown2; have HG2 := Lib.hid hgr2; clear hown2 hgr2))
                have HWF := Lib.hid ((HWX.out.alloc (Obj.cells #[.slice (some ⟨b6, 0, none⟩) cs6.length c6, .int .i32 f6, .int .i32 T] 38)).app (st := T) HXS.out.1 HXS.out.2.1 HO2.out HG2.out rfl rfl HI.out.srt.len)
                go_roundw
                case rel => exact ⟨p', L + 1, 0, p', T, 0, 0, none, 0, 0, v', S ++ [T], rfl, rfl, rfl, rfl, rfl, rfl, ⟨HWF.out, HI.out.srt.add (by omega), hw2, by omega, fun _ => ⟨rfl, rfl⟩, fun h => by omega, fun _ => ⟨rfl, rfl, rfl⟩, fun h => absurd rfl h, by omega, by omega, by rw [← HI.out.hf, fin_brk s pos L U T hlt HBK.out, HP'.out]⟩⟩
                case measure =>
                  have h1 := HIT.out
                  have h2 := HWF.out.it
                  have h3 := hpp
                  simp only [World.iterPos, h2, h1]
                  omega
          by_cases h8233 : r = 8233
          · subst h8233
            go_wp2_with fail
            go_loopw [5, 8] (fun s5 s8 wx => Rin w w.heap.size s p' L v S (pos - T) s5 s8 wx) (fun _ s8 _ => (pos - T) + 1 - (intOf s8).toNat)
            case atStart => exact ⟨b5, c5, cb, cs, _, rfl, rfl, rfl, own_kept_it HO5.out HI.out.wd HG1.out, hcl, by omega, HW1.out⟩
            case round =>
              obtain ⟨b6, c6, cb6, cs6, wx, rfl, rfl, rfl, ho6, hcl6, hcb6, hwx⟩ := hrel
              have HO6 := Lib.hid ho6
              have HWX := Lib.hid hwx
              clear ho6 hwx
              by_cases hcc : cb6 ≤ (pos - T)
              · skip
                go_wp2_with (at_builtin; go_must (refine wpList_push_g _ rfl _ _ 32 rfl w.heap.size 21 .i32 4 Try.underlying32 info21 (by decide) _ cs6 rfl (HO6.out.alloc _) wx.heap.size U rfl ((Row.newArr wx 21 #[.int .i32 U]).at_ (i := 0) rfl) (by omega) (by have := HWX.out.hle; simp; omega) ?_; intro b7 c7 w7 ho7 hg7; have HO7 := Lib.hid ho7; have HG7 := Lib.hid hg7; clear ho7 hg7))
                go_roundw
                case rel => first | exact ⟨_, _, _, _, _, _, _, _, _, _, _, ⟨b7, c7, cb6 + 1, cs6 ++ [(U : Int)], _, rfl, by simp, by go_num, by simpa using HO7.out, by simp; omega, by omega, (HWX.out.alloc _).grown5 (HO6.out.alloc _) HG7.out⟩, rfl⟩ | exact ⟨b7, c7, cb6 + 1, cs6 ++ [(U : Int)], _, rfl, by simp, by go_num, by simpa using HO7.out, by simp; omega, by omega, (HWX.out.alloc _).grown5 (HO6.out.alloc _) HG7.out⟩
                case measure => simp [intOf]; omega
              · obtain rfl : cb6 = (pos - T) + 1 := by omega
                have HBK := Lib.hid (show brk s pos = true from brk_yes (by rw [HRU.out]; rfl) (by unfold crlf; rw [HRU.out]; rfl))
                obtain ⟨xs, hx1, hx2⟩ := (HWX.out.alloc (Obj.cells #[.slice (some ⟨b6, 0, none⟩) cs6.length c6, .int .i32 f6, .int .i32 T] 38)).tab
                have HXS := Lib.hid (And.intro hx1 (And.intro hx2 ((HWX.out.alloc (Obj.cells #[.slice (some ⟨b6, 0, none⟩) cs6.length c6, .int .i32 f6, .int .i32 T] 38)).hle)))
                clear hx1 hx2
                go_wp2_with (at_builtin; go_must (refine wpList_append_own _ rfl _ _ 29 rfl w.heap.size 38 i38 _ 3 32 Try.underlying29 H38.out.1 H38.out.2.1 H38.out.2.2.1 H38.out.2.2.2 rfl (by decide) v L _ rfl HXS.out.1 ⟨wx.heap.size, 0, none⟩ 1 1 [.slice (some ⟨b6, 0, none⟩) cs6.length c6, .int .i32 f6, .int .i32 T] rfl rfl (by intro j u hu; rw [Addr.add_mid]; simpa using (Row.newArr wx 38 #[.slice (some ⟨b6, 0, none⟩) cs6.length c6, .int .i32 f6, .int .i32 T]).at_ (i := j) (by simpa using hu)) (by simp [Value.oneCell']) (by unfold maxLen; omega) (by omega) HXS.out.2.2 ?_; intro v' w2 hown2 hgr2 _; have HO2 := Lib.hid hown2; have HG2 := Lib.hid hgr2; clear hown2 hgr2))
                have HWF := Lib.hid ((HWX.out.alloc (Obj.cells #[.slice (some ⟨b6, 0, none⟩) cs6.length c6, .int .i32 f6, .int .i32 T] 38)).app (st := T) HXS.out.1 HXS.out.2.1 HO2.out HG2.out rfl rfl HI.out.srt.len)
                go_roundw
                case rel => exact ⟨p', L + 1, 0, p', T, 0, 0, none, 0, 0, v', S ++ [T], rfl, rfl, rfl, rfl, rfl, rfl, ⟨HWF.out, HI.out.srt.add (by omega), hw2, by omega, fun _ => ⟨rfl, rfl⟩, fun h => by omega, fun _ => ⟨rfl, rfl, rfl⟩, fun h => absurd rfl h, by omega, by omega, by rw [← HI.out.hf, fin_brk s pos L U T hlt HBK.out, HP'.out]⟩⟩
                case measure =>
                  have h1 := HIT.out
                  have h2 := HWF.out.it
                  have h3 := hpp
                  simp only [World.iterPos, h2, h1]
                  omega
          have t13 : ((r : Int) == 13) = false := by simp; omega
          have t10 : ((r : Int) == 10) = false := by simp; omega
          have t8232 : ((r : Int) == 8232) = false := by simp; omega
          have t8233 : ((r : Int) == 8233) = false := by simp; omega
          by_cases h127 : r ≤ 127
          · skip
            go_wp2_with fail
            go_loopw [5, 8] (fun s5 s8 wx => Rin w w.heap.size s p' L v S (pos - T) s5 s8 wx) (fun _ s8 _ => (pos - T) + 1 - (intOf s8).toNat)
            case atStart => exact ⟨b5, c5, cb, cs, _, rfl, rfl, rfl, own_kept_it HO5.out HI.out.wd HG1.out, hcl, by omega, HW1.out⟩
            case round =>
              obtain ⟨b6, c6, cb6, cs6, wx, rfl, rfl, rfl, ho6, hcl6, hcb6, hwx⟩ := hrel
              have HO6 := Lib.hid ho6
              have HWX := Lib.hid hwx
              clear ho6 hwx
              by_cases hcc : cb6 ≤ (pos - T)
              · skip
                go_wp2_with (at_builtin; go_must (refine wpList_push_g _ rfl _ _ 32 rfl w.heap.size 21 .i32 4 Try.underlying32 info21 (by decide) _ cs6 rfl (HO6.out.alloc _) wx.heap.size U rfl ((Row.newArr wx 21 #[.int .i32 U]).at_ (i := 0) rfl) (by omega) (by have := HWX.out.hle; simp; omega) ?_; intro b7 c7 w7 ho7 hg7; have HO7 := Lib.hid ho7; have HG7 := Lib.hid hg7; clear ho7 hg7))
                go_roundw
                case rel => first | exact ⟨_, _, _, _, _, _, _, _, _, _, _, ⟨b7, c7, cb6 + 1, cs6 ++ [(U : Int)], _, rfl, by simp, by go_num, by simpa using HO7.out, by simp; omega, by omega, (HWX.out.alloc _).grown5 (HO6.out.alloc _) HG7.out⟩, rfl⟩ | exact ⟨b7, c7, cb6 + 1, cs6 ++ [(U : Int)], _, rfl, by simp, by go_num, by simpa using HO7.out, by simp; omega, by omega, (HWX.out.alloc _).grown5 (HO6.out.alloc _) HG7.out⟩
                case measure => simp [intOf]; omega
              · obtain rfl : cb6 = (pos - T) + 1 := by omega
                have HBK := Lib.hid (show brk s pos = false from brk_no (by rw [HRU.out]; simp [isT]; omega))
                have HUN := Lib.hid (show un s pos = 1 from (by unfold un; rw [HRU.out, if_pos (by omega)]))
                have HWF := HWX
                have hun' : 1 + pos ≤ p' := by have h1 := HUN.out; have h2 := HP'.out; omega
                go_wp2_with fail
                go_roundw
                case rel => exact ⟨p', L, U + 1, T, T, (pos - T) + 1, _, some ⟨b6, 0, none⟩, cs6.length, c6, v, S, rfl, rfl, rfl, rfl, rfl, by go_num, ⟨HWF.out, HI.out.srt, hw2, by omega, fun h => by omega, fun _ => rfl, (fun h => by cases h), fun _ => ⟨cs6, HO6.out, hcl6, by omega, rfl⟩, by omega, by omega, by rw [← HI.out.hf, fin_un s pos L U T hlt HBK.out, HUN.out, HP'.out]⟩⟩
                case measure =>
                  have h1 := HIT.out
                  have h2 := HWF.out.it
                  have h3 := hpp
                  simp only [World.iterPos, h2, h1]
                  omega
          by_cases hbig : r ≤ 65535
          · skip
            go_wp2_with fail
            go_loopw [5, 8] (fun s5 s8 wx => Rin w w.heap.size s p' L v S (pos - T) s5 s8 wx) (fun _ s8 _ => (pos - T) + 1 - (intOf s8).toNat)
            case atStart => exact ⟨b5, c5, cb, cs, _, rfl, rfl, rfl, own_kept_it HO5.out HI.out.wd HG1.out, hcl, by omega, HW1.out⟩
            case round =>
              obtain ⟨b6, c6, cb6, cs6, wx, rfl, rfl, rfl, ho6, hcl6, hcb6, hwx⟩ := hrel
              have HO6 := Lib.hid ho6
              have HWX := Lib.hid hwx
              clear ho6 hwx
              by_cases hcc : cb6 ≤ (pos - T)
              · skip
                go_wp2_with (at_builtin; go_must (refine wpList_push_g _ rfl _ _ 32 rfl w.heap.size 21 .i32 4 Try.underlying32 info21 (by decide) _ cs6 rfl (HO6.out.alloc _) wx.heap.size U rfl ((Row.newArr wx 21 #[.int .i32 U]).at_ (i := 0) rfl) (by omega) (by have := HWX.out.hle; simp; omega) ?_; intro b7 c7 w7 ho7 hg7; have HO7 := Lib.hid ho7; have HG7 := Lib.hid hg7; clear ho7 hg7))
                go_roundw
                case rel => first | exact ⟨_, _, _, _, _, _, _, _, _, _, _, ⟨b7, c7, cb6 + 1, cs6 ++ [(U : Int)], _, rfl, by simp, by go_num, by simpa using HO7.out, by simp; omega, by omega, (HWX.out.alloc _).grown5 (HO6.out.alloc _) HG7.out⟩, rfl⟩ | exact ⟨b7, c7, cb6 + 1, cs6 ++ [(U : Int)], _, rfl, by simp, by go_num, by simpa using HO7.out, by simp; omega, by omega, (HWX.out.alloc _).grown5 (HO6.out.alloc _) HG7.out⟩
                case measure => simp [intOf]; omega
              · obtain rfl : cb6 = (pos - T) + 1 := by omega
                have HBK := Lib.hid (show brk s pos = false from brk_no (by rw [HRU.out]; simp [isT]; omega))
                have HUN := Lib.hid (show un s pos = 1 from (by unfold un; rw [HRU.out, if_pos (by omega)]))
                have HWF := HWX
                have hun' : 1 + pos ≤ p' := by have h1 := HUN.out; have h2 := HP'.out; omega
                go_wp2_with fail
                go_roundw
                case rel => exact ⟨p', L, U + 1, T, T, (pos - T) + 1, _, some ⟨b6, 0, none⟩, cs6.length, c6, v, S, rfl, rfl, rfl, rfl, rfl, by go_num, ⟨HWF.out, HI.out.srt, hw2, by omega, fun h => by omega, fun _ => rfl, (fun h => by cases h), fun _ => ⟨cs6, HO6.out, hcl6, by omega, rfl⟩, by omega, by omega, by rw [← HI.out.hf, fin_un s pos L U T hlt HBK.out, HUN.out, HP'.out]⟩⟩
                case measure =>
                  have h1 := HIT.out
                  have h2 := HWF.out.it
                  have h3 := hpp
                  simp only [World.iterPos, h2, h1]
                  omega
          go_wp2_with fail
          go_loopw [5, 8] (fun s5 s8 wx => Rin w w.heap.size s p' L v S (pos - T) s5 s8 wx) (fun _ s8 _ => (pos - T) + 1 - (intOf s8).toNat)
          case atStart => exact ⟨b5, c5, cb, cs, _, rfl, rfl, rfl, own_kept_it HO5.out HI.out.wd HG1.out, hcl, by omega, HW1.out⟩
          case round =>
            obtain ⟨b6, c6, cb6, cs6, wx, rfl, rfl, rfl, ho6, hcl6, hcb6, hwx⟩ := hrel
            have HO6 := Lib.hid ho6
            have HWX := Lib.hid hwx
            clear ho6 hwx
            by_cases hcc : cb6 ≤ (pos - T)
            · skip
              go_wp2_with (at_builtin; go_must (refine wpList_push_g _ rfl _ _ 32 rfl w.heap.size 21 .i32 4 Try.underlying32 info21 (by decide) _ cs6 rfl (HO6.out.alloc _) wx.heap.size U rfl ((Row.newArr wx 21 #[.int .i32 U]).at_ (i := 0) rfl) (by omega) (by have := HWX.out.hle; simp; omega) ?_; intro b7 c7 w7 ho7 hg7; have HO7 := Lib.hid ho7; have HG7 := Lib.hid hg7; clear ho7 hg7))
              go_roundw
              case rel => first | exact ⟨_, _, _, _, _, _, _, _, _, _, _, ⟨b7, c7, cb6 + 1, cs6 ++ [(U : Int)], _, rfl, by simp, by go_num, by simpa using HO7.out, by simp; omega, by omega, (HWX.out.alloc _).grown5 (HO6.out.alloc _) HG7.out⟩, rfl⟩ | exact ⟨b7, c7, cb6 + 1, cs6 ++ [(U : Int)], _, rfl, by simp, by go_num, by simpa using HO7.out, by simp; omega, by omega, (HWX.out.alloc _).grown5 (HO6.out.alloc _) HG7.out⟩
              case measure => simp [intOf]; omega
            · obtain rfl : cb6 = (pos - T) + 1 := by omega
              have HBK := Lib.hid (show brk s pos = false from brk_no (by rw [HRU.out]; simp [isT]; omega))
              have HUN := Lib.hid (show un s pos = 2 from (by unfold un; rw [HRU.out, if_neg (by omega)]))
              have HWF := HWX
              have hun' : 2 + pos ≤ p' := by have h1 := HUN.out; have h2 := HP'.out; omega
              go_wp2_with fail
              go_roundw
              case rel => exact ⟨p', L, U + 2, T, T, (pos - T) + 1, _, some ⟨b6, 0, none⟩, cs6.length, c6, v, S, rfl, rfl, rfl, rfl, rfl, by go_num, ⟨HWF.out, HI.out.srt, hw2, by omega, fun h => by omega, fun _ => rfl, (fun h => by cases h), fun _ => ⟨cs6, HO6.out, hcl6, by omega, rfl⟩, by omega, by omega, by rw [← HI.out.hf, fin_un s pos L U T hlt HBK.out, HUN.out, HP'.out]⟩⟩
              case measure =>
                have h1 := HIT.out
                have h2 := HWF.out.it
                have h3 := hpp
                simp only [World.iterPos, h2, h1]
                omega
    · have hnx := fun ty => next_end (P := Try.prog) hit hlt ty
      have hfe := HI.out.hf
      rw [fin_end s pos L U T hlt] at hfe
      have HFE := Lib.hid hfe
      clear hit hfe
      obtain rfl : pos = s.size := by omega
      have HW1 := Lib.hid HI.out.wd
      by_cases hU0 : U = 0
      · subst hU0
        obtain ⟨hpT, hA5⟩ := HI.out.u0 rfl
        subst hA5
        subst hpT
        obtain ⟨rfl, rfl, hz⟩ := HI.out.nil rfl
        have HNL := Lib.hid hz
        clear hz hlt
        obtain ⟨xs, hx1, hx2⟩ := (HW1.out.alloc (Obj.cells #[.slice none 0 0, .int .i32 f6, .int .i32 s.size] 38)).tab
        have HXS := Lib.hid (And.intro hx1 (And.intro hx2 ((HW1.out.alloc (Obj.cells #[.slice none 0 0, .int .i32 f6, .int .i32 s.size] 38)).hle)))
        clear hx1 hx2
        go_wp2_with (at_builtin; go_must (refine wpList_append_own _ rfl _ _ 29 rfl w.heap.size 38 i38 _ 3 32 Try.underlying29 H38.out.1 H38.out.2.1 H38.out.2.2.1 H38.out.2.2.2 rfl (by decide) v L _ rfl HXS.out.1 ⟨wr.heap.size, 0, none⟩ 1 1 [.slice none 0 0, .int .i32 f6, .int .i32 s.size] rfl rfl (by intro j u hu; rw [Addr.add_mid]; simpa using (Row.newArr wr 38 #[.slice none 0 0, .int .i32 f6, .int .i32 s.size]).at_ (i := j) (by simpa using hu)) (by simp [Value.oneCell']) (by unfold maxLen; omega) (by omega) HXS.out.2.2 ?_; intro v' w2 hown2 hgr2 _; have HO2 := Lib.hid hown2; have HG2 := Lib.hid hgr2; clear hown2 hgr2))
        have HWF := Lib.hid ((HW1.out.alloc (Obj.cells #[.slice none 0 0, .int .i32 f6, .int .i32 s.size] 38)).app (st := s.size) HXS.out.1 HXS.out.2.1 HO2.out HG2.out rfl rfl HI.out.srt.len)
        refine bodyPost_ret (v := v') (by simp [results, Try.results9, go_sem]) rfl ?_
        exact mk_tabs (U := 0) (T := s.size) HFE.out.symm HWF.out HI.out.srt (by omega) HO2.out (.inl ⟨rfl, rfl, rfl, by have := HNL.out; omega⟩)
      · have tU : ((U : Int) == 0) = false := by simp; omega
        obtain rfl : T = lb := (HI.out.lbT (by omega)).symm
        rcases A5 with _ | a5
        · obtain ⟨rfl, rfl, hz⟩ := HI.out.nil rfl
          have HNL := Lib.hid hz
          clear hz hlt
          obtain ⟨xs, hx1, hx2⟩ := (HW1.out.alloc (Obj.cells #[.slice none 0 0, .int .i32 f6, .int .i32 T] 38)).tab
          have HXS := Lib.hid (And.intro hx1 (And.intro hx2 ((HW1.out.alloc (Obj.cells #[.slice none 0 0, .int .i32 f6, .int .i32 T] 38)).hle)))
          clear hx1 hx2
          go_wp2_with (at_builtin; go_must (refine wpList_append_own _ rfl _ _ 29 rfl w.heap.size 38 i38 _ 3 32 Try.underlying29 H38.out.1 H38.out.2.1 H38.out.2.2.1 H38.out.2.2.2 rfl (by decide) v L _ rfl HXS.out.1 ⟨wr.heap.size, 0, none⟩ 1 1 [.slice none 0 0, .int .i32 f6, .int .i32 T] rfl rfl (by intro j u hu; rw [Addr.add_mid]; simpa using (Row.newArr wr 38 #[.slice none 0 0, .int .i32 f6, .int .i32 T]).at_ (i := j) (by simpa using hu)) (by simp [Value.oneCell']) (by unfold maxLen; omega) (by omega) HXS.out.2.2 ?_; intro v' w2 hown2 hgr2 _; have HO2 := Lib.hid hown2; have HG2 := Lib.hid hgr2; clear hown2 hgr2))
          have HWF := Lib.hid ((HW1.out.alloc (Obj.cells #[.slice none 0 0, .int .i32 f6, .int .i32 T] 38)).app (st := T) HXS.out.1 HXS.out.2.1 HO2.out HG2.out rfl rfl HI.out.srt.len)
          refine bodyPost_ret (v := v') (by simp [results, Try.results9, go_sem]) rfl ?_
          exact mk_tabs (U := U) (T := T) HFE.out.symm HWF.out HI.out.srt (by omega) HO2.out (.inl ⟨rfl, rfl, rfl, by have := HNL.out; omega⟩)
        · obtain ⟨cs, ho5, hcl, hcb, hcn⟩ := HI.out.own (by simp)
          obtain ⟨b5, rfl⟩ : ∃ b, a5 = ⟨b, 0, none⟩ := by
            rcases ho5.2 with ⟨h, _⟩ | ⟨g, cap, cur, h, _⟩
            · cases h
            · injection h with h; injection h with h; exact ⟨g, h⟩
          subst hcn
          have HO5 := Lib.hid ho5
          clear ho5 hlt
          go_wp2_with fail
          go_loopw [5, 8] (fun s5 s8 wx => Rin2 w w.heap.size s s.size L v S (s.size - T) cb U s5 s8 wx) (fun _ s8 _ => (s.size - T) + 1 - (intOf s8).toNat)
          case atStart => exact ⟨b5, c5, cb, cs, _, rfl, rfl, rfl, HO5.out, hcl, by omega, by omega, fun h => by omega, HW1.out⟩
          case round =>
            obtain ⟨b6, c6, cb6, cs6, wx, rfl, rfl, rfl, ho6, hcl6, hcb6, hcc0, hds, hwx⟩ := hrel
            have HO6 := Lib.hid ho6
            have HWX := Lib.hid hwx
            have HDD := Lib.hid hds
            clear ho6 hwx hds
            by_cases hcc : cb6 ≤ (s.size - T)
            · skip
              go_wp2_with (at_builtin; go_must (refine wpList_push_g _ rfl _ _ 32 rfl w.heap.size 21 .i32 4 Try.underlying32 info21 (by decide) _ cs6 rfl (HO6.out.alloc _) wx.heap.size U rfl ((Row.newArr wx 21 #[.int .i32 U]).at_ (i := 0) rfl) (by omega) (by have := HWX.out.hle; simp; omega) ?_; intro b7 c7 w7 ho7 hg7; have HO7 := Lib.hid ho7; have HG7 := Lib.hid hg7; clear ho7 hg7))
              go_roundw
              case rel => first | exact ⟨_, _, _, _, _, _, _, _, _, _, _, ⟨b7, c7, cb6 + 1, cs6 ++ [(U : Int)], _, rfl, by simp, by go_num, by simpa using HO7.out, by simp; omega, by omega, by omega, fun _ => ⟨cs6, rfl⟩, (HWX.out.alloc _).grown5 (HO6.out.alloc _) HG7.out⟩, rfl⟩ | exact ⟨b7, c7, cb6 + 1, cs6 ++ [(U : Int)], _, rfl, by simp, by go_num, by simpa using HO7.out, by simp; omega, by omega, by omega, fun _ => ⟨cs6, rfl⟩, (HWX.out.alloc _).grown5 (HO6.out.alloc _) HG7.out⟩
              case measure => simp [intOf]; omega
            · obtain rfl : cb6 = (s.size - T) + 1 := by omega
              obtain ⟨ds, hds⟩ := HDD.out (by omega)
              have HDS := Lib.hid hds
              have HLA := Lib.hid (own_last HO6.out hds)
              clear hds
              obtain ⟨xs, hx1, hx2⟩ := (HWX.out.alloc (Obj.cells #[.slice (some ⟨b6, 0, none⟩) cs6.length c6, .int .i32 f6, .int .i32 T] 38)).tab
              have HXS := Lib.hid (And.intro hx1 (And.intro hx2 ((HWX.out.alloc (Obj.cells #[.slice (some ⟨b6, 0, none⟩) cs6.length c6, .int .i32 f6, .int .i32 T] 38)).hle)))
              clear hx1 hx2
              go_wp2_with (at_builtin; go_must (refine wpList_append_own _ rfl _ _ 29 rfl w.heap.size 38 i38 _ 3 32 Try.underlying29 H38.out.1 H38.out.2.1 H38.out.2.2.1 H38.out.2.2.2 rfl (by decide) v L _ rfl HXS.out.1 ⟨wx.heap.size, 0, none⟩ 1 1 [.slice (some ⟨b6, 0, none⟩) cs6.length c6, .int .i32 f6, .int .i32 T] rfl rfl (by intro j u hu; rw [Addr.add_mid]; simpa using (Row.newArr wx 38 #[.slice (some ⟨b6, 0, none⟩) cs6.length c6, .int .i32 f6, .int .i32 T]).at_ (i := j) (by simpa using hu)) (by simp [Value.oneCell']) (by unfold maxLen; omega) (by omega) HXS.out.2.2 ?_; intro v' w2 hown2 hgr2 _; have HO2 := Lib.hid hown2; have HG2 := Lib.hid hgr2; clear hown2 hgr2))
              have HWF := Lib.hid ((HWX.out.alloc (Obj.cells #[.slice (some ⟨b6, 0, none⟩) cs6.length c6, .int .i32 f6, .int .i32 T] 38)).app (st := T) HXS.out.1 HXS.out.2.1 HO2.out HG2.out rfl rfl HI.out.srt.len)
              refine bodyPost_ret (v := v') (by simp [results, Try.results9, go_sem]) rfl ?_
              exact mk_tabs (U := U) (T := T) HFE.out.symm HWF.out HI.out.srt (by omega) HO2.out (.inr ⟨b6, ds.length, rfl, HLA.out.1, HLA.out.2.1, by have := HLA.out.1; omega, (own_last (own_kept38 (HO6.out.alloc _) HXS.out.1 HG2.out) HDS.out).2.2⟩)
end Go.Proofs.Ytdajemigdciphaa.LoB
