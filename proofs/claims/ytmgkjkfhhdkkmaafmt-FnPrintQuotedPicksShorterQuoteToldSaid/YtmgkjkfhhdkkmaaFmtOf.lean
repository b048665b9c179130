/- FnPrintQuotedPicksShorterQuote: what the laid tables give. -/
import Derived.Test.YtmgkjkfhhdkkmaaFmtRows
import Derived.Test.YtmgkjkfhhdkkmaaFmtMem
import Derived.Test.YtmgkjkfhhdkkmaaFmtSl
import Derived.Test.YtmgkjkfhhdkkmaaFmtPqC
import Derived.Test.YtmgkjkfhhdkkmaaFmtStep
import Derived.Test.YtmgkjkfhhdkkmaaFmtVars
import Derived.Test.YtmgkjkfhhdkkmaaFmtTie
import Derived.Lib.LaidU8
import Derived.ChangeArms
import Derived.WalkKit
import Derived.ProofKit
import Derived.OpenShut
import Derived.Below
import Derived.WalkLawsBesides
import Derived.Lib.Hide
import Derived.Outline
import Derived.RegionTactic
import Derived.Deep.QuietTactic
import Derived.BigQuiet
import Derived.WalkSpells
import Derived.Deep.OwnRows
import Derived.IntWalk
import Derived.Deep.DeepMust
namespace Go.Proofs.YtmgkjkfhhdkkmaaFmt.Of
open Go.RowKit Mem Sl
set_option linter.unusedVariables false
open Vars PqC Lib
def AFT : List Int := [0, 1, 2, 3, 4, 5, 6, 7, 8, 9, 10, 11, 12, 13, 14, 15, 16, 17, 18, 19, 20, 21, 22, 23, 24, 25, 26, 27, 28, 29, 30, 31, 32, 33, 34, 35, 36, 37, 38, 39, 40, 41, 42, 43, 44, 45, 46, 47, 48, 49, 50, 51, 52, 53, 54, 55, 56, 57, 58, 59, 60, 61, 62, 63, 64, 97, 98, 99, 100, 101, 102, 103, 104, 105, 106, 107, 108, 109, 110, 111, 112, 113, 114, 115, 116, 117, 118, 119, 120, 121, 122, 91, 92, 93, 94, 95, 96, 65, 66, 67, 68, 69, 70, 71, 72, 73, 74, 8490, 76, 77, 78, 79, 80, 81, 82, 383, 84, 85, 86, 87, 88, 89, 90, 123, 124, 125, 126, 127]
def COT : List (Int × Int) := [(75, 107), (83, 115), (107, 8490), (115, 383), (181, 924), (197, 229), (223, 7838), (229, 8491), (304, 304), (305, 305), (383, 83), (452, 453), (453, 454), (454, 452), (455, 456), (456, 457), (457, 455), (458, 459), (459, 460), (460, 458), (497, 498), (498, 499), (499, 497), (837, 921), (912, 8147), (914, 946), (917, 949), (920, 952), (921, 953), (922, 954), (924, 956), (928, 960), (929, 961), (931, 962), (934, 966), (937, 969), (944, 8163), (946, 976), (949, 1013), (952, 977), (953, 8126), (954, 1008), (956, 181), (960, 982), (961, 1009), (962, 963), (963, 931), (966, 981), (969, 8486), (976, 914), (977, 1012), (981, 934), (982, 928), (1008, 922), (1009, 929), (1012, 920), (1013, 917), (1042, 1074), (1044, 1076), (1054, 1086), (1057, 1089), (1058, 1090), (1066, 1098), (1074, 7296), (1076, 7297), (1086, 7298), (1089, 7299), (1090, 7300), (1098, 7302), (1122, 1123), (1123, 7303), (7296, 1042), (7297, 1044), (7298, 1054), (7299, 1057), (7300, 7301), (7301, 1058), (7302, 1066), (7303, 1122), (7304, 42570), (7776, 7777), (7777, 7835), (7835, 7776), (7838, 223), (8126, 837), (8147, 912), (8163, 944), (8486, 937), (8490, 75), (8491, 197), (42570, 42571), (42571, 7304), (64261, 64262), (64262, 64261)]
def orbData : DataW Unit := .slice (COT.map fun z => .agg ([z.1, z.2].map fun x => .lit (.int .u16 x))) []

theorem afT {w : World} (h : VarReads Tryf.prog w "unicode.asciiFold" (tabData .u16 AFT)) (i : Nat) (hi : i < 128) : w.cell? ⟨2, i, none⟩ = some (.int .u16 (AFT.getD i 0)) := by
  obtain ⟨g, t, cs, fuel, p, hg, hty, hvar, hd⟩ := h
  have n2 : Tryf.prog.globalNamed "unicode.asciiFold" = some 2 := by kernel_rfl
  have y2 : (Tryf.prog.globals[2]?).map (·.type) = some 80 := by kernel_rfl
  obtain rfl := Option.some.inj (n2.symm.trans hg)
  obtain rfl := Option.some.inj (y2.symm.trans hty)
  have hcs := cells_of_tab Tryf.underlying80 Tryf.underlying33 (by kernel_rfl) (by kernel_rfl) hd
  rw [World.var?_cell hg hvar i, ← Array.getElem?_toList, hcs, List.getElem?_map]
  have hl : AFT.length = 128 := rfl
  simp [List.getD, hi, hl]
theorem orb {w : World} (h : VarReads Tryf.prog w "unicode.caseOrbit" orbData) : ∃ b off cc, w.cell? ⟨3, 0, none⟩ = some (.slice (some ⟨b, off, none⟩) 94 cc) ∧ b < w.heap.size ∧ ∀ i, i < 94 → w.cell? ⟨b, off + 2 * i, none⟩ = some (.int .u16 (COT.getD i (0, 0)).1) ∧ w.cell? ⟨b, off + (2 * i + 1), none⟩ = some (.int .u16 (COT.getD i (0, 0)).2) := by
  obtain ⟨g, t, cs, fuel, p, hg, hty, hvar, hd⟩ := h
  have n2 : Tryf.prog.globalNamed "unicode.caseOrbit" = some 3 := by kernel_rfl
  have y2 : (Tryf.prog.globals[3]?).map (·.type) = some 81 := by kernel_rfl
  obtain rfl := Option.some.inj (n2.symm.trans hg)
  obtain rfl := Option.some.inj (y2.symm.trans hty)
  have hcl : COT.length = 94 := rfl
  rcases DataW.trod_slice Tryf.underlying81 hd with ⟨_, hx'⟩ | ⟨a', len, cap, el, rs, m, rfl, hc0, hx', _, hlc, _, hel, helem, hsp, _⟩
  · cases hx'
  have e0 : orbData = (.slice (el.map (·.1)) (rs.map (·.1)) : DataW Unit) := congrArg Prod.fst hx'
  unfold orbData at e0
  simp only [DataW.slice.injEq] at e0
  obtain ⟨eE, eR⟩ := e0
  have hlen : len = 94 := by
    have := congrArg List.length eE
    simp [hcl] at this
    omega
  subst hlen
  have c83 : Tryf.prog.cellsOf 83 = 2 := by kernel_rfl
  have hrange : ∀ i, i < 94 → ∀ j, j < 2 → w.cell? ((a'.add (i * 2)).add j) = some (.int .u16 ([(COT.getD i (0, 0)).1, (COT.getD i (0, 0)).2].getD j 0)) := by
    intro i hi j hj
    have h1 := helem i hi
    rw [c83] at h1
    obtain ⟨b, hb⟩ : ∃ b, el[i]? = some b := ⟨el[i]'(by omega), List.getElem?_eq_getElem (by omega)⟩
    rw [hb] at h1
    obtain ⟨ce, hce, hte⟩ := Option.bind_eq_some_iff.1 h1
    have hb1 : b.1 = .agg ([(COT.getD i (0, 0)).1, (COT.getD i (0, 0)).2].map fun z => .lit (.int .u16 z)) := by
      have := congrArg (·[i]?) eE
      simp only [List.getElem?_map, hb, Option.map_some] at this
      rw [List.getElem?_eq_getElem (by rw [hcl]; exact hi)] at this
      simp only [Option.map_some, Option.some.injEq] at this
      rw [← this, List.getD, List.getElem?_eq_getElem (by rw [hcl]; exact hi)]
      rfl
    have hcs := ints_of_struct (p := b.2) Tryf.underlying83 (fun q f hq => by
      match q, hq with
      | 0, hq => simp at hq; subst hq; exact ⟨Tryf.underlying33, rfl, by kernel_rfl⟩
      | 1, hq => simp at hq; subst hq; exact ⟨Tryf.underlying33, rfl, by kernel_rfl⟩
      | q + 2, hq => simp at hq) (by rw [c83]; rfl) (by rw [← hb1]; exact hte)
    obtain ⟨_, _, hcc⟩ := World.cells?_some hce
    rw [hcc j hj, hcs]
    match j, hj with
    | 0, _ => rfl
    | 1, _ => rfl
  obtain ⟨R, oR, sR⟩ := a'
  obtain rfl : sR = none := by
    have h00 := hrange 0 (by omega) 0 (by omega)
    have : (Addr.add (Addr.add ⟨R, oR, sR⟩ (0 * 2)) 0) = ⟨R, oR, sR⟩ := by simp [Addr.add]
    rw [this] at h00
    exact cell_spot h00
  have hat : ∀ i, i < 94 → w.cell? ⟨R, oR + 2 * i, none⟩ = some (.int .u16 (COT.getD i (0, 0)).1) ∧ w.cell? ⟨R, oR + (2 * i + 1), none⟩ = some (.int .u16 (COT.getD i (0, 0)).2) := by
    intro i hi
    have h0 := hrange i hi 0 (by omega)
    have h1 := hrange i hi 1 (by omega)
    rw [Addr.add_lit, Addr.add_lit] at h0 h1
    exact ⟨by rw [show oR + 2 * i = oR + i * 2 + 0 by omega]; exact h0, by rw [show oR + (2 * i + 1) = oR + i * 2 + 1 by omega]; exact h1⟩
  refine ⟨R, oR, cap, ?_, by have := Args.cell_lt (hat 0 (by omega)).1; exact this, hat⟩
  rw [World.var?_cell hg hvar 0, ← Array.getElem?_toList, hc0]
  rfl
/-- What the calls ask of the tables. -/
def Tabs (w : World) : Prop := Lib.Utf8Tabs 0 1 w ∧ 5 ≤ w.heap.size ∧ ∃ b off cc, b < w.heap.size ∧ FT w b off cc
theorem Tabs.later {w w' : World} (h : Tabs w) (hb : Below w.heap.size w w') : Tabs w' := by
  obtain ⟨h1, h2, b, off, cc, h3, h4⟩ := h
  exact ⟨Step.tabs_later h1 hb, Nat.le_trans h2 hb.size, b, off, cc, Nat.lt_of_lt_of_le h3 hb.size, h4.later hb h2 h3⟩
theorem of_laid {w : World} (hL : laidMetH Tryf.prog Rows.fnPrintQuotedPicksShorterQuoteRow.laid w) : Tabs w := by
  have hL' : laidMet Tryf.prog Rows.fnPrintQuotedPicksShorterQuoteRow.laid w := hL
  have e1 : Rows.laid_unicode_utf8_first = Lib.firstData := by kernel_rfl
  have e2 : (Rows.laid_unicode_utf8_acceptRanges : DataW Unit) = Lib.acceptData := by kernel_rfl
  have e3 : (Rows.laid_unicode_asciiFold : DataW Unit) = tabData .u16 AFT := by kernel_rfl
  have e4 : (Rows.laid_unicode_caseOrbit : DataW Unit) = orbData := by kernel_rfl
  have m2 : ("unicode/utf8.acceptRanges", Lib.acceptData) ∈ Rows.fnPrintQuotedPicksShorterQuoteRow.laid := by rw [← e2]; exact .head _
  have m3 : ("unicode.asciiFold", tabData .u16 AFT) ∈ Rows.fnPrintQuotedPicksShorterQuoteRow.laid := by rw [← e3]; exact .tail _ (.head _)
  have m4 : ("unicode.caseOrbit", orbData) ∈ Rows.fnPrintQuotedPicksShorterQuoteRow.laid := by rw [← e4]; exact .tail _ (.tail _ (.head _))
  have m5 : ("unicode.CaseRanges", Rows.laid_unicode_CaseRanges) ∈ Rows.fnPrintQuotedPicksShorterQuoteRow.laid := .tail _ (.tail _ (.tail _ (.head _)))
  have m1 : ("unicode/utf8.first", Lib.firstData) ∈ Rows.fnPrintQuotedPicksShorterQuoteRow.laid := by rw [← e1]; exact .tail _ (.tail _ (.tail _ (.tail _ (.head _))))
  have hu := utf8Tabs_of_reads (ρ := Tryf.lays260_ren) Tryf.lays260 ⟨by kernel_rfl, by kernel_rfl, by kernel_rfl, by kernel_rfl, by kernel_rfl, by kernel_rfl, by kernel_rfl⟩ (Lib.laidMet.reads hL' m1) (Lib.laidMet.reads hL' m2)
  have ha := afT (Lib.laidMet.reads hL' m3)
  obtain ⟨b, off, cc, o1, o2, o3⟩ := orb (Lib.laidMet.reads hL' m4)
  obtain ⟨g, t, cs, fuel, p, hg, hty, hvar, hd⟩ := Lib.laidMet.reads hL' m5
  have n4 : Tryf.prog.globalNamed "unicode.CaseRanges" = some 4 := by kernel_rfl
  obtain rfl := Option.some.inj (n4.symm.trans hg)
  have h5 := var_lt hg hvar
  refine ⟨hu, h5, b, off, cc, o2, ?_⟩
  constructor
  · exact ha 115 (by omega)
  · exact ha 116 (by omega)
  · exact ha 121 (by omega)
  · exact ha 108 (by omega)
  · exact ha 101 (by omega)
  · exact ha 83 (by omega)
  · exact ha 84 (by omega)
  · exact ha 89 (by omega)
  · exact ha 76 (by omega)
  · exact ha 69 (by omega)
  · exact o1
  · exact (o3 47 (by omega)).1
  · exact (o3 23 (by omega)).1
  · exact (o3 11 (by omega)).1
  · exact (o3 5 (by omega)).1
  · exact (o3 8 (by omega)).1
  · exact (o3 10 (by omega)).1
  · exact (o3 9 (by omega)).1
  · exact (o3 10 (by omega)).2
end Go.Proofs.YtmgkjkfhhdkkmaaFmt.Of
