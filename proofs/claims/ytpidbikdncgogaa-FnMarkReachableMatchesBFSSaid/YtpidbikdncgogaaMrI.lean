/- FnMarkReachableMatchesBFS: the files. -/
import Derived.Test.YtpidbikdncgogaaRows
import Derived.Test.YtpidbikdncgogaaMem
import Derived.Test.YtpidbikdncgogaaSl
import Derived.Test.YtpidbikdncgogaaArgn
import Derived.WalkKit
import Derived.ProofKit
import Derived.OpenShut
import Derived.Below
import Derived.WalkLawsBesides
import Derived.Lib.Hide
import Derived.Outline
import Derived.RegionTactic
import Derived.Deep.QuietTactic
import Derived.BigQuiet
import Derived.WalkSpells
import Derived.Deep.OwnRows
import Derived.IntWalk
import Derived.Deep.DeepMust
namespace Go.Proofs.Ytpidbikdncgogaa.MrI
open Go.RowKit Mem Sl
set_option linter.unusedVariables false
open Args Argn

/-- What the files say. -/
structure Dat where
  css : Nat → Int
  se : Nat → Bool
  lv : Nat → Bool
  rl : Nat → Nat
  rt : Nat → Nat → Int
  rk : Nat → Nat → Int
  rx : Nat → Nat → Bool
  pl : Nat → Nat
  ql : Nat → Nat → Nat
  qv : Nat → Nat → Nat → Int
  dl : Nat → Nat → Nat
  df : Nat → Nat → Nat → Int
  dp : Nat → Nat → Nat → Int
  cb : Nat → Nat → Bool
  ft : Nat → Nat → Bool
/-- Where the inner slices lie. -/
structure Hdr where
  RA : Nat → Option Addr
  RC : Nat → Nat
  PA : Nat → Option Addr
  PC : Nat → Nat
  QA : Nat → Nat → Option Addr
  QC : Nat → Nat → Nat
  DA : Nat → Nat → Option Addr
  DC : Nat → Nat → Nat
structure Fs (w : World) (A : Option Addr) (n : Nat) (d : Dat) (h : Hdr) : Prop where
  file : ∀ i, i < n → ∃ b o, A = some ⟨b, o, none⟩ ∧ b < w.heap.size ∧ w.cell? ⟨b, o + i * 5, none⟩ = some (.int .i32 (d.css i)) ∧ w.cell? ⟨b, o + i * 5 + 1, none⟩ = some (.bool (d.se i)) ∧ w.cell? ⟨b, o + i * 5 + 2, none⟩ = some (.bool (d.lv i)) ∧ w.cell? ⟨b, o + i * 5 + 3, none⟩ = some (.slice (h.RA i) (d.rl i) (h.RC i)) ∧ w.cell? ⟨b, o + i * 5 + 4, none⟩ = some (.slice (h.PA i) (d.pl i) (h.PC i))
  rcd : ∀ i, i < n → ∀ j, j < d.rl i → ∃ b o, h.RA i = some ⟨b, o, none⟩ ∧ b < w.heap.size ∧ w.cell? ⟨b, o + j * 3, none⟩ = some (.int .i32 (d.rt i j)) ∧ w.cell? ⟨b, o + j * 3 + 1, none⟩ = some (.int .u8 (d.rk i j)) ∧ w.cell? ⟨b, o + j * 3 + 2, none⟩ = some (.bool (d.rx i j))
  part : ∀ i, i < n → ∀ j, j < d.pl i → ∃ b o, h.PA i = some ⟨b, o, none⟩ ∧ b < w.heap.size ∧ w.cell? ⟨b, o + j * 4, none⟩ = some (.slice (h.QA i j) (d.ql i j) (h.QC i j)) ∧ w.cell? ⟨b, o + j * 4 + 1, none⟩ = some (.slice (h.DA i j) (d.dl i j) (h.DC i j)) ∧ w.cell? ⟨b, o + j * 4 + 2, none⟩ = some (.bool (d.cb i j)) ∧ w.cell? ⟨b, o + j * 4 + 3, none⟩ = some (.bool (d.ft i j))
  qr : ∀ i, i < n → ∀ j, j < d.pl i → ∀ k, k < d.ql i j → ∃ b o, h.QA i j = some ⟨b, o, none⟩ ∧ b < w.heap.size ∧ w.cell? ⟨b, o + k, none⟩ = some (.int .u32 (d.qv i j k))
  dep : ∀ i, i < n → ∀ j, j < d.pl i → ∀ k, k < d.dl i j → ∃ b o, h.DA i j = some ⟨b, o, none⟩ ∧ b < w.heap.size ∧ w.cell? ⟨b, o + k * 2, none⟩ = some (.int .u32 (d.df i j k)) ∧ w.cell? ⟨b, o + k * 2 + 1, none⟩ = some (.int .u32 (d.dp i j k))
  rle : ∀ i, i < n → d.rl i ≤ maxLen ∧ d.pl i ≤ maxLen
  ple : ∀ i, i < n → ∀ j, j < d.pl i → d.ql i j ≤ maxLen ∧ d.dl i j ≤ maxLen
/-- The numbers fit their kinds. -/
structure Wf (n : Nat) (d : Dat) : Prop where
  css : ∀ i, i < n → (Lit.int .i32 (d.css i)).wf = true
  rt : ∀ i, i < n → ∀ j, j < d.rl i → (Lit.int .i32 (d.rt i j)).wf = true
  rk : ∀ i, i < n → ∀ j, j < d.rl i → (Lit.int .u8 (d.rk i j)).wf = true
  qv : ∀ i, i < n → ∀ j, j < d.pl i → ∀ k, k < d.ql i j → (Lit.int .u32 (d.qv i j k)).wf = true
  df : ∀ i, i < n → ∀ j, j < d.pl i → ∀ k, k < d.dl i j → (Lit.int .u32 (d.df i j k)).wf = true
  dp : ∀ i, i < n → ∀ j, j < d.pl i → ∀ k, k < d.dl i j → (Lit.int .u32 (d.dp i j k)).wf = true
theorem Fs.later {w w' : World} {A : Option Addr} {n : Nat} {d : Dat} {h : Hdr} (f : Fs w A n d h) (hb : Below w.heap.size w w') : Fs w' A n d h := by
  have c : ∀ {b o v}, w.cell? ⟨b, o, none⟩ = some v → w'.cell? ⟨b, o, none⟩ = some v := fun hv => (hb.cell (p := ⟨_, _, none⟩) (cell_lt hv)).trans hv
  have z := hb.size
  refine ⟨fun i hi => ?_, fun i hi j hj => ?_, fun i hi j hj => ?_, fun i hi j hj k hk => ?_, fun i hi j hj k hk => ?_, f.rle, f.ple⟩
  · obtain ⟨b, o, h1, h2, h3, h4, h5, h6, h7⟩ := f.file i hi
    exact ⟨b, o, h1, by omega, c h3, c h4, c h5, c h6, c h7⟩
  · obtain ⟨b, o, h1, h2, h3, h4, h5⟩ := f.rcd i hi j hj
    exact ⟨b, o, h1, by omega, c h3, c h4, c h5⟩
  · obtain ⟨b, o, h1, h2, h3, h4, h5, h6⟩ := f.part i hi j hj
    exact ⟨b, o, h1, by omega, c h3, c h4, c h5, c h6⟩
  · obtain ⟨b, o, h1, h2, h3⟩ := f.qr i hi j hj k hk
    exact ⟨b, o, h1, by omega, c h3⟩
  · obtain ⟨b, o, h1, h2, h3, h4⟩ := f.dep i hi j hj k hk
    exact ⟨b, o, h1, by omega, c h3, c h4⟩
end Go.Proofs.Ytpidbikdncgogaa.MrI
