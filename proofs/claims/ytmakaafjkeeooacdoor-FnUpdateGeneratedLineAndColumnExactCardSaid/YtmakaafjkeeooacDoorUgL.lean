/- FnUpdateGeneratedLineAndColumnExact: words for the law. -/
import Derived.Test.YtmakaafjkeeooacDoorRows
import Derived.Test.YtmakaafjkeeooacDoorMem
import Derived.Test.YtmakaafjkeeooacDoorSl
import Derived.Test.YtmakaafjkeeooacDoorUgH
import Derived.Test.YtmakaafjkeeooacDoorUgI
import Derived.Test.YtmakaafjkeeooacDoorUgK
import Derived.LaidMore
import Derived.Deep.DeepCutAuto
import Derived.WalkKit
import Derived.ProofKit
import Derived.OpenShut
import Derived.Below
import Derived.WalkLawsBesides
import Derived.Lib.Hide
import Derived.Outline
import Derived.RegionTactic
import Derived.Deep.QuietTactic
import Derived.BigQuiet
import Derived.WalkSpells
import Derived.Deep.OwnRows
import Derived.IntWalk
import Derived.Deep.DeepMust
namespace Go.Proofs.YtmakaafjkeeooacDoor.UgL
open Go.RowKit Mem Sl
set_option linter.unusedVariables false
open Own Vq Dec Lin Str Prn Owg UgA UgB UgC UgD UgE UgF UgG UgJ UgK UgP Args Go.ChangeShapes Go.WideShapes Go.ChangeAt

theorem gB64 : Tryd.prog.globalNamed "github.com/evanw/esbuild/internal/sourcemap.base64" = some 0 := by kernel_rfl
theorem tB64 : (Tryd.prog.globals[0]?).map (·.type) = some 22 := by kernel_rfl
theorem b64_of_laid {W : World} (h : laidMetH Tryd.prog [("github.com/evanw/esbuild/internal/sourcemap.base64", Rows.laid_github_com_evanw_esbuild_internal_sourcemap_base64)] W) : B64 W.heap.size W := by
  rw [MakeChecks.laidMetH_plain _ _ _ (by kernel_rfl)] at h
  obtain ⟨ps, ⟨g, t, cs, fuel, p, q, hg, ht, hvar, hd, _, _⟩, _, _⟩ := h
  obtain rfl := Option.some.inj (gB64.symm.trans hg)
  obtain rfl := Option.some.inj (tB64.symm.trans ht)
  have hlaid : (Rows.laid_github_com_evanw_esbuild_internal_sourcemap_base64 : DataW Unit) = .slice (lits .u8 b64) [] := by rfl
  rw [hlaid] at hd
  obtain ⟨A, c, hcs, hi⟩ := Vars.ints_of_laid Tryd.underlying22 Tryd.underlying5 (by kernel_rfl) hd (by simp [b64])
  have hc := World.var?_cell hg hvar 0
  obtain ⟨l⟩ := cs
  simp only at hcs
  subst hcs
  have hlt := Vars.var_lt hg hvar
  obtain ⟨h1, h2, h3, h4, h5, h6⟩ := hi
  obtain ⟨b, off, rfl, hb, hcell⟩ := h6 (by rw [b64_len] at h1; omega)
  refine ⟨Nat.le_refl _, by omega, b, off, c, hb, by simpa [b64_len] using hc, fun i hi => hcell i (by rw [b64_len]; exact hi)⟩
theorem of_laid {W : World} (h : laidMetH Tryd.prog Rows.fnUpdateGeneratedLineAndColumnExactRow.laid W) : B64 W.heap.size W := b64_of_laid h
theorem bd_later {w w' : World} {B C j : Nat} {q v : Value} {zs : List Int} {l g a o c upd col : Int} {hp : Bool} (h : Bd w B j q v zs l g a o c upd col hp) (hb : Below C w w') (hC : w.heap.size ≤ C) : Bd w' B j q v zs l g a o c upd col hp :=
  ⟨h.row.below hb (Nat.lt_of_lt_of_le h.row.lt hC), h.own.later hb hC, h.hj⟩
/-- A clone of bytes: it reads as the same numbers and lies in a new block. -/
def Cl (w : World) (n : Nat) (zs : List Int) (e : Ending) (w' : World) : Prop := ∃ A' c', e = .returned (.slice A' n c') ∧ IsInts .u8 w' A' n c' zs ∧ Below w.heap.size w w' ∧ ∀ b off, A' = some ⟨b, off, none⟩ → w.heap.size ≤ b
theorem cl_any {w : World} {A : Option Addr} {n c : Nat} {zs : List Int} {e : Ending} {w' : World} (h : IsInts .u8 w A n c zs) (hc : Cloned .u8 5 w A n zs e w') : Cl w n zs e w' := by
  obtain ⟨v, rfl, h1⟩ := hc
  obtain ⟨h2, h3, h4, h5, h6, h7⟩ := h
  rcases h1 with ⟨rfl, rfl, rfl⟩ | ⟨_, rfl, h8, h9, _⟩
  · have hc := h6 rfl
    obtain rfl : n = 0 := by omega
    subst hc
    exact ⟨none, 0, rfl, ⟨h2, h3, h4, h5, h6, h7⟩, Below.refl _ _, fun b off h => by cases h⟩
  · subst h4
    exact ⟨_, _, rfl, ints_of_row h8 (by omega) h5, h9, fun b off h => by injection h with h; injection h with h1 _; omega⟩
theorem by_bytesOf (zs : List Int) (h : ∀ z ∈ zs, (Lit.int .u8 z).wf = true) (j : Nat) (hj : j < zs.length) : ((by_ (bytesOf zs) j : Nat) : Int) = zs.getD j 0 := by
  have hs : j < (bytesOf zs).size := by rw [bytesOf_size]; exact hj
  have h1 := nums_at (bytesOf zs) j hs
  rw [nums_bytesOf zs h] at h1
  rw [h1, by_at _ _ hs]
/-- A clone of bytes, read as a text. -/
def Ct (w : World) (n : Nat) (s : ByteArray) (e : Ending) (w' : World) : Prop := ∃ A', e = .returned (.slice A' n n) ∧ Tx w' A' n n s ∧ Below w.heap.size w w'
theorem ct_any {w : World} {A : Option Addr} {n c : Nat} {zs : List Int} {e : Ending} {w' : World} (h : IsInts .u8 w A n c zs) (hc : Cloned .u8 5 w A n zs e w') : Ct w n (bytesOf zs) e w' := by
  obtain ⟨v, rfl, h1⟩ := hc
  obtain ⟨h2, h3, h4, h5, h6, h7⟩ := h
  rcases h1 with ⟨rfl, rfl, rfl⟩ | ⟨_, rfl, h8, h9, h10⟩
  · have hc := h6 rfl
    obtain rfl : n = 0 := by omega
    exact ⟨none, rfl, ⟨by rw [bytesOf_size]; exact h4, Nat.le_refl _, Nat.zero_le _, fun h => absurd h (by omega)⟩, Below.refl _ _⟩
  · subst h4
    refine ⟨_, rfl, ⟨bytesOf_size zs, Nat.le_refl _, by omega, fun hp => ⟨_, rfl, by omega, fun j hj => ?_⟩⟩, h9⟩
    rw [by_bytesOf zs h5 j hj]
    exact h8.at_ (iv_at .u8 zs j hj)
/-- The thin door to updateGeneratedLineAndColumn. -/
theorem ten10 (p : Addr) (A : Option Addr) (n : Nat) (w : World) (Q : World → Prop) (h : Calls Tryd.prog 21 #[.pointer (some p), .slice A n n] w fun e w' => e = .returned (.tuple #[]) ∧ Q w') : Calls Tryd.prog 10 #[.pointer (some p), .slice A n n] w fun e w' => e = .returned (.tuple #[]) ∧ Q w' := by
  have H := Lib.hid h
  clear h
  go_enter Tryd.func10, Tryd.ntmps10
  go_wp2_with (go_at_call 21; (with_reducible refine H.out.mono ?_); rintro e w1 ⟨rfl, hq⟩; have HQ := Lib.hid hq; clear hq)
  go_end0
  exact ⟨rfl, HQ.out⟩
theorem outB_wf (hp : Bool) (cv : Int) : ∀ L, ∀ z ∈ outB hp cv L, (Lit.int .u8 z).wf = true := by
  have hseg : ∀ g a o c, ∀ z ∈ seg4 g a o c, (Lit.int .u8 z).wf = true := by
    intro g a o c z hz
    unfold seg4 at hz
    simp only [List.mem_append] at hz
    rcases hz with hz | hz | hz | hz <;> exact code_wf _ z hz
  intro L
  induction L with
  | zero =>
    intro z hz
    unfold outB at hz
    cases hp
    · simp at hz
    · exact hseg _ _ _ _ z (by simpa using hz)
  | succ L ih =>
    intro z hz
    rw [outB] at hz
    rcases List.mem_append.1 hz with hz | hz
    · rcases List.mem_append.1 hz with hz | hz
      · exact ih z hz
      · cases hp
        · simp at hz
        · simp only [if_true] at hz
          rcases List.mem_append.1 hz with hz | hz
          · by_cases h0 : L = 0
            · rw [if_pos h0] at hz
              obtain rfl := List.mem_singleton.1 hz
              decide
            · rw [if_neg h0] at hz
              cases hz
          · exact hseg _ _ _ _ z hz
    · obtain rfl := List.mem_singleton.1 hz
      decide
theorem outB_pre (hp : Bool) (cv : Int) : ∀ L, (outB hp cv 0).length ≤ (outB hp cv L).length ∧ ∀ i, i < (outB hp cv 0).length → (outB hp cv L).getD i 0 = (outB hp cv 0).getD i 0
  | 0 => ⟨Nat.le_refl _, fun _ _ => rfl⟩
  | L + 1 => by
    obtain ⟨h1, h2⟩ := outB_pre hp cv L
    obtain ⟨X, hX⟩ : ∃ X, outB hp cv (L + 1) = outB hp cv L ++ X := ⟨_, by rw [outB, List.append_assoc]⟩
    rw [hX]
    refine ⟨?_, fun i hi => ?_⟩
    · rw [List.length_append]
      omega
    · rw [← h2 i hi, List.getD, List.getD, List.getElem?_append_left (by omega)]
theorem outB_lenm (hp : Bool) (cv : Int) (h : Sm cv) (L : Nat) (hL : L ≤ 1048576) : (outB hp cv L).length ≤ 40000000 := by
  have := outB_len hp cv h L
  omega
theorem no_at (cv : Int) (L i : Nat) (h : i < L) : (outB false cv L).getD i 0 = 59 := by
  rw [outB_no, List.getD, List.getElem?_replicate, if_pos h]
  rfl
theorem no_len (cv : Int) (L : Nat) : (outB false cv L).length = L := by rw [outB_no, List.length_replicate]
section
variable (cv : Int) (j : Nat)
def sS (cv : Int) : Nat := (outB true cv 0).length + 1
def sV (cv : Int) (t : Nat) : Nat := if t = 0 then vlqOf (-cv) else 0
def sP (cv : Int) (t : Nat) : Nat := if t = 0 then sS cv else sS cv + (code (vlqOf (-cv))).length + (t - 1)
theorem yes_drop : (outB true cv (j + 1)).drop (sS cv) = code (vlqOf (-cv)) ++ ([65, 65, 65, 59] ++ rep5 j) := by
  rw [outB_yes, ← List.append_assoc, List.drop_left' (by unfold sS outB; simp), seg_back]
  simp
theorem yes_44 : (outB true cv (j + 1)).getD (outB true cv 0).length 0 = 44 := by
  rw [outB_yes, List.getD, List.getElem?_append_right (by unfold outB; simp)]
  unfold outB
  simp
theorem yes_len : (outB true cv (j + 1)).length = sP cv 4 + 1 + 5 * j := by
  have h := congrArg List.length (yes_drop cv j)
  have h2 : sS cv ≤ (outB true cv (j + 1)).length := by rw [outB_yes]; unfold sS outB; simp
  rw [List.length_drop] at h
  simp only [List.length_append, List.length_cons, List.length_nil, rep5_len] at h
  unfold sP
  simp
  omega
theorem yes_get (i : Nat) : (outB true cv (j + 1)).getD (sS cv + i) 0 = (code (vlqOf (-cv)) ++ ([65, 65, 65, 59] ++ rep5 j)).getD i 0 := by
  rw [← yes_drop, List.getD, List.getD, List.getElem?_drop]
theorem ch_ne : ∀ d : Nat, d < 64 → ch d ≠ 59 ∧ ch d ≠ 44 := by
  have h : (List.range 64).all (fun d => ch d != 59 && ch d != 44) = true := by decide
  intro d hd
  have := List.all_eq_true.1 h d (List.mem_range.2 hd)
  simpa using this
theorem code_ne (n : Nat) : ∀ z ∈ code n, z ≠ 44 ∧ z ≠ 59 := by
  intro z hz
  simp only [code, List.mem_map] at hz
  obtain ⟨d, hd, rfl⟩ := hz
  exact ⟨(ch_ne d (vq_lt n d hd)).2, (ch_ne d (vq_lt n d hd)).1⟩
theorem yes_mark (i : Nat) (h0 : sS cv ≤ i) (h1 : i < sP cv 4) : (outB true cv (j + 1)).getD i 0 ≠ 44 ∧ (outB true cv (j + 1)).getD i 0 ≠ 59 := by
  obtain ⟨k, rfl⟩ : ∃ k, i = sS cv + k := ⟨i - sS cv, by omega⟩
  rw [yes_get]
  unfold sP at h1
  simp at h1
  by_cases hk : k < (code (vlqOf (-cv))).length
  · have hm : (code (vlqOf (-cv)) ++ ([65, 65, 65, 59] ++ rep5 j)).getD k 0 ∈ code (vlqOf (-cv)) := by
      rw [List.getD, List.getElem?_append_left hk, List.getElem?_eq_getElem hk]
      exact List.getElem_mem _
    exact code_ne _ _ hm
  · rw [List.getD, List.getElem?_append_right (by omega)]
    generalize hm : k - (code (vlqOf (-cv))).length = m
    have hm3 : m < 3 := by omega
    have e : m = 0 ∨ m = 1 ∨ m = 2 := by omega
    rcases e with rfl | rfl | rfl <;> simp
theorem yes_end : (outB true cv (j + 1)).getD (sP cv 4) 0 = 59 := by
  rw [show sP cv 4 = sS cv + ((code (vlqOf (-cv))).length + 3) by unfold sP; simp; omega, yes_get, List.getD, List.getElem?_append_right (by omega)]
  simp
theorem yes_rep (t i : Nat) (ht : t < j) (hi : i < 5) : (outB true cv (j + 1)).getD (sP cv 4 + 1 + (5 * t + i)) 0 = five.getD i 0 := by
  rw [show sP cv 4 + 1 + (5 * t + i) = sS cv + ((code (vlqOf (-cv))).length + (4 + (5 * t + i))) by unfold sP; simp; omega, yes_get, List.getD, List.getElem?_append_right (by omega)]
  rw [show (code (vlqOf (-cv))).length + (4 + (5 * t + i)) - (code (vlqOf (-cv))).length = 4 + (5 * t + i) by omega, List.getElem?_append_right (by simp)]
  rw [← rep5_at j t i ht hi, List.getD]
  simp
theorem yes_seg (hcv : Sm cv) : Sg (outB true cv (j + 1)) (sP cv) (sV cv) := by
  refine ⟨fun t ht => ?_, fun t ht => ?_, fun t => ?_⟩
  · by_cases h0 : t = 0
    · subst h0
      exact ⟨_, yes_drop cv j⟩
    · have hP : sP cv t = sS cv + ((code (vlqOf (-cv))).length + (t - 1)) := by unfold sP; rw [if_neg h0]; omega
      have hV : sV cv t = 0 := by unfold sV; rw [if_neg h0]
      rw [hP, hV]
      have hd : (outB true cv (j + 1)).drop (sS cv + ((code (vlqOf (-cv))).length + (t - 1))) = ([65, 65, 65, 59] ++ rep5 j).drop (t - 1) := by
        rw [← List.drop_drop, yes_drop, ← List.drop_drop, List.drop_left]
      unfold At
      rw [hd, show code 0 = [65] from code0]
      have e : t = 1 ∨ t = 2 ∨ t = 3 := by omega
      rcases e with rfl | rfl | rfl <;> exact ⟨_, rfl⟩
  · have hV : ∀ t, 0 < t → (code (sV cv t)).length = 1 := fun t h => by
      unfold sV
      rw [if_neg (by omega), show code 0 = [65] from code0]
      rfl
    by_cases h0 : t = 0
    · subst h0
      unfold sP sV
      simp
    · rw [hV t (by omega)]
      unfold sP
      rw [if_neg (by omega), if_neg h0]
      omega
  · unfold sV
    split
    · exact vlqOf_ltw (by have := hcv.2; omega) (by have := hcv.1; omega)
    · omega
end
end Go.Proofs.YtmakaafjkeeooacDoor.UgL
