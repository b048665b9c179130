/- FnAllocateTopLevelSymbolSlotsFirstSeenOrder: zzEntries, zzBuild. -/
import Derived.Test.YtidcbknnjpecbaaRows
import Derived.Test.YtidcbknnjpecbaaMem
import Derived.Test.YtidcbknnjpecbaaSl
import Derived.Test.YtidcbknnjpecbaaAtB
import Derived.Test.YtidcbknnjpecbaaAtP
import Derived.Test.YtidcbknnjpecbaaArr
import Derived.Great.BuildSlice
import Derived.Deep.RegionLaw
import Derived.WalkKit
import Derived.ProofKit
import Derived.OpenShut
import Derived.Below
import Derived.WalkLawsBesides
import Derived.Lib.Hide
import Derived.Outline
import Derived.RegionTactic
import Derived.Deep.QuietTactic
import Derived.BigQuiet
import Derived.WalkSpells
import Derived.Deep.OwnRows
import Derived.IntWalk
import Derived.Deep.DeepMust
namespace Go.Proofs.Ytidcbknnjpecbaa.AtC
open Go.RowKit Mem Sl
set_option linter.unusedVariables false
open Args AtA AtB AtP Go.Proofs.Ytidcbknnjpecbaa.Arr

/-- The symbol of an entry. -/
def ix (z4 : List Int) (n t : Nat) : Nat := (at0 z4 t).toNat % n
def entF (z4 z5 : List Int) (n : Nat) (t j : Nat) : Int := if j = 0 then (t : Int) else if j = 1 then 0 else if j = 2 then (ix z4 n t : Int) else at0 z5 t
theorem info77 : (Try.prog.info? 77).map (fun i => (i.zero, i.size, i.bytes)) = some (some (.agg #[.int .u32 0, .int .u32 0, .int .u32 0, .int .u32 0]), 4, 16) := by kernel_rfl
theorem zero4 : ∀ j, j < 4 → (#[Value.int .u32 0, .int .u32 0, .int .u32 0, .int .u32 0] : Array Value)[j]? = some (u32s j 0) := by
  intro j hj
  have : j = 0 ∨ j = 1 ∨ j = 2 ∨ j = 3 := by omega
  rcases this with rfl | rfl | rfl | rfl <;> rfl
/-- What zzEntries leaves. -/
def Ents (w : World) (z4 z5 : List Int) (n m : Nat) (e : Ending) (w' : World) : Prop := ∃ g, e = .returned (.slice (some ⟨g, 0, none⟩) m m) ∧ Arr w' g m 4 u32s (entF z4 z5 n) ∧ Below w.heap.size w w' ∧ w.heap.size ≤ g
set_option maxHeartbeats 2000000 in
theorem ents9 (A4 A5 : Option Addr) (m c4 n5 c5 n : Nat) (z4 z5 : List Int) (w : World) (h4 : IsInts .u32 w A4 m c4 z4) (h5 : IsInts .u32 w A5 n5 c5 z5) (hm : m ≤ 4096) (hn : n ≤ 4096) (hn0 : 1 ≤ n) :
    Calls Try.prog 9 #[.int .i64 (n : Int), .slice A4 m c4, .slice A5 n5 c5] w (Ents w z4 z5 n m) := by
  have hmk := fun W => run_make_wide (P := Try.prog) 38 77 _ 4 16 _ Try.underlying38 info77 rfl .i64 .i64 m (by omega) (by omega) W
  have H4 := Lib.hid h4
  have H5 := Lib.hid h5
  have R4 := Lib.hid (fun k => h4.read k)
  clear h4 h5
  go_enter Try.func9, Try.ntmps9
  go_wp2
  go_loopw [8] (fun i wr => ∃ k : Nat, k ≤ m ∧ i = .int .i64 k ∧ Arr wr w.heap.size m 4 u32s (upto (entF z4 z5 n) k) ∧ Below w.heap.size w wr) (fun i _ => m - (intOf i).toNat)
  case atStart => exact ⟨0, Nat.zero_le _, rfl, upto_zero (arr_made w 77 _ m 4 u32s rfl zero4), (Below.refl _ _).alloc (Nat.le_refl _) _⟩
  case round =>
    obtain ⟨k, hk, rfl, harr, hbel⟩ := hrel
    by_cases hlt : k < m
    · obtain ⟨b0, o0, ha0, hb0, hc0⟩ := R4.out k hlt
      subst ha0
      have d0 := cell_later hbel hc0
      obtain ⟨x, hx⟩ : ∃ x, x = z4.getD k 0 := ⟨_, rfl⟩
      rw [← hx] at d0
      obtain ⟨x0, x1⟩ := at0_u32 H4.out.2.2.2.1 k
      have hx9 : at0 z4 k = x := hx.symm
      rw [hx9] at x0 x1
      obtain ⟨i, hi⟩ : ∃ i, i = ix z4 n k := ⟨_, rfl⟩
      have hin : i < n := by rw [hi]; exact Nat.mod_lt _ (by omega)
      have hxi : x % (n : Int) = (i : Int) := by
        rw [hi]
        unfold ix
        rw [hx9, Int.natCast_emod, Int.toNat_of_nonneg x0]
      have hnw : (n : Int) % 4294967296 = (n : Int) := by omega
      have hn1 : ¬ (n : Int) = 0 := by omega
      have HI := Lib.hid hi
      have HARR := Lib.hid harr
      have HBEL := Lib.hid hbel
      have hn2 : n ≠ 0 := by omega
      have w1 : IntKind.i64.wrap (i : Int) = (i : Int) := IntWalk.i64_in _ (by omega)
      have w2 : IntKind.u32.wrap (k : Int) = (k : Int) := IntWalk.u32_in _ (by omega)
      have w3 : IntKind.u32.wrap (n : Int) = (n : Int) := IntWalk.u32_in _ (by omega)
      have w4 : IntKind.u32.wrap (x % (n : Int)) = (i : Int) := by rw [hxi]; exact IntWalk.u32_in _ (by omega)
      clear hx hx9 hi harr hbel hc0 hb0
      go_wp2_with fail
      refine (ref14 i wr (by omega)).mono ?_
      rintro e w2 ⟨rfl, hb2⟩
      have hbel2 := HBEL.out.trans (hb2.mono HBEL.out.size)
      have harr2 := HARR.out.below hb2 HARR.out.lt
      have HW5 := Lib.hid (word10 A5 n5 c5 z5 k w2 (H5.out.later hbel2) (by omega))
      obtain ⟨y, hy⟩ : ∃ y, y = at0 z5 k := ⟨_, rfl⟩
      have HY := Lib.hid hy
      rw [← hy] at HW5
      have e0 : w2.cell? ⟨w.heap.size, k * 4, none⟩ = some (.int .u32 _) := harr2.cell k 0 hlt (by omega)
      have e1 : w2.cell? ⟨w.heap.size, k * 4 + 1, none⟩ = some (.int .u32 _) := harr2.cell k 1 hlt (by omega)
      have e2 : w2.cell? ⟨w.heap.size, k * 4 + 2, none⟩ = some (.int .u32 _) := harr2.cell k 2 hlt (by omega)
      have e3 : w2.cell? ⟨w.heap.size, k * 4 + 3, none⟩ = some (.int .u32 _) := harr2.cell k 3 hlt (by omega)
      have fz := harr2.frozen
      have hset := ((((harr2.set (j := 0) hlt (by omega) (k : Int)).set (j := 1) hlt (by omega) 0).set (j := 2) hlt (by omega) (i : Int)).set (j := 3) hlt (by omega) y).congr (F' := upto (entF z4 z5 n) (k + 1)) (by
        intro k' l hk' hl
        have e : l = 0 ∨ l = 1 ∨ l = 2 ∨ l = 3 := by omega
        by_cases hkk : k' = k
        · subst hkk
          rcases e with rfl | rfl | rfl | rfl <;> simp [upd, upto, entF, hy, HI.out]
        · have : (k' < k + 1) = (k' < k) := by apply propext; omega
          simp [upd, upto, hkk, this])
      have HS := Lib.hid hset
      have HB := Lib.hid ((((hbel2.setCell (p := ⟨w.heap.size, k * 4, none⟩) (Nat.le_refl _) (.int .u32 (k : Int))).setCell (p := ⟨w.heap.size, k * 4 + 1, none⟩) (Nat.le_refl _) (.int .u32 0)).setCell (p := ⟨w.heap.size, k * 4 + 2, none⟩) (Nat.le_refl _) (.int .u32 (i : Int))).setCell (p := ⟨w.heap.size, k * 4 + 3, none⟩) (Nat.le_refl _) (.int .u32 y))
      clear hset harr2 hbel2 hb2 hy
      go_wp2_with (go_at_call 10; (with_reducible refine HW5.out.mono ?_); rintro e w9 ⟨rfl, rfl⟩)
      go_roundw
      case rel => exact ⟨k + 1, by omega, by go_num, HS.out, HB.out⟩
      case measure => simp [intOf]; omega
    · obtain rfl : k = m := by omega
      have HS := Lib.hid (upto_all harr)
      have HB := Lib.hid hbel
      clear harr hbel
      go_wp2_with fail
      go_ret
      exact ⟨_, rfl, HS.out, HB.out, Nat.le_refl _⟩

/-- The cells of a symbol. -/
def symV (j : Nat) (x : Int) : Value := if j = 0 then .pointer none else if j = 1 then .string ByteArray.empty else if j = 7 then .int .u16 x else if j = 8 then .int .u8 x else if j = 9 then .int .u8 x else .int .u32 x
def symF (K F : List Int) (i j : Nat) : Int := if j = 2 then 4294967295 else if j = 3 then 4294967295 else if j = 7 then flv F i else if j = 8 then kdv K i else 0
theorem info69 : (Try.prog.info? 69).map (fun i => (i.zero, i.size, i.bytes)) = some (some (.agg #[.pointer none, .string ByteArray.empty, .int .u32 0, .int .u32 0, .int .u32 0, .int .u32 0, .int .u32 0, .int .u16 0, .int .u8 0, .int .u8 0]), 10, 48) := by kernel_rfl
theorem zero10 : ∀ j, j < 10 → (#[Value.pointer none, .string ByteArray.empty, .int .u32 0, .int .u32 0, .int .u32 0, .int .u32 0, .int .u32 0, .int .u16 0, .int .u8 0, .int .u8 0] : Array Value)[j]? = some (symV j 0) := by
  intro j hj
  have : j = 0 ∨ j = 1 ∨ j = 2 ∨ j = 3 ∨ j = 4 ∨ j = 5 ∨ j = 6 ∨ j = 7 ∨ j = 8 ∨ j = 9 := by omega
  rcases this with rfl | rfl | rfl | rfl | rfl | rfl | rfl | rfl | rfl | rfl <;> rfl
/-- The symbols lie in block g, their slice in block q. -/
structure Syms (w : World) (q g n : Nat) (K F : List Int) : Prop where
  row : Row w q 59 [.slice (some ⟨g, 0, none⟩) n n]
  arr : Arr w g n 10 symV (symF K F)
def Bld (w : World) (n : Nat) (K F : List Int) (e : Ending) (w' : World) : Prop := ∃ q g, e = .returned (.agg #[.slice (some ⟨q, 0, none⟩) 1 1]) ∧ Syms w' q g n K F ∧ Below w.heap.size w w' ∧ w.heap.size ≤ q ∧ w.heap.size ≤ g
theorem sym_upd {K F : List Int} {n k : Nat} (w : World) (g : Nat) (h : Arr w g n 10 symV (upd (upd (upd (upd (upto (symF K F) k) k 2 4294967295) k 3 4294967295) k 8 (kdv K k)) k 7 (flv F k))) : Arr w g n 10 symV (upto (symF K F) (k + 1)) := by
  refine h.congr ?_
  intro k' l hk' hl
  by_cases hkk : k' = k
  · subst hkk
    have e : l = 0 ∨ l = 1 ∨ l = 2 ∨ l = 3 ∨ l = 4 ∨ l = 5 ∨ l = 6 ∨ l = 7 ∨ l = 8 ∨ l = 9 := by omega
    rcases e with rfl | rfl | rfl | rfl | rfl | rfl | rfl | rfl | rfl | rfl <;> simp [upd, upto, symF]
  · have : (k' < k + 1) = (k' < k) := by apply propext; omega
    simp [upd, upto, hkk, this]

theorem _root_.Go.Proofs.Ytidcbknnjpecbaa.Arr.Arr.far_ {w : World} {g n s : Nat} {V : Nat → Int → Value} {F : Nat → Nat → Int} (h : Arr w g n s V F) {p : Addr} (hp : g ≠ p.block) (u : Value) : Arr (w.setCell p u) g n s V F := by
  have hb := Below.heap_setCell w p u g hp
  refine ⟨by simpa using h.lt, fun k l hk hl => ?_, fun o => ?_⟩
  · rw [← h.cell k l hk hl]; simp [World.cell?, hb]
  · rw [← h.frozen o]; simp [World.frozen?, hb]
set_option maxRecDepth 100000 in
set_option maxHeartbeats 4000000 in
theorem bld6 (A0 A1 : Option Addr) (n c0 n1 c1 : Nat) (z0 z1 : List Int) (w : World) (h0 : IsInts .u8 w A0 n c0 z0) (h1 : IsInts .u8 w A1 n1 c1 z1) (hn : n ≤ 4096) :
    Calls Try.prog 6 #[.slice A0 n c0, .slice A1 n1 c1, .slice none 0 0, .int .u32 0, .slice none 0 0, .bool false] w (Bld w n z0 z1) := by
  have hmk := fun W => run_make_wide (P := Try.prog) 59 69 _ 10 48 _ Try.underlying59 info69 rfl .i64 .i64 n (by omega) (by omega) W
  have H0 := Lib.hid h0
  have H1 := Lib.hid h1
  have R0 := Lib.hid (fun k => h0.read k)
  clear h0 h1
  go_enter Try.func6, Try.ntmps6
  go_wp2
  go_loopw [15] (fun i wr => ∃ k : Nat, k ≤ n ∧ i = .int .i64 k ∧ Row wr w.heap.size 30 [.slice none 0 0] ∧ Arr wr (w.heap.size + 1) n 10 symV (upto (symF z0 z1) k) ∧ Below w.heap.size w wr) (fun i _ => n - (intOf i).toNat)
  case atStart =>
    have h2 := arr_made (w.alloc (Obj.cells #[Value.slice none 0 0] 30)) 69 _ n 10 symV rfl zero10
    have h3 := (Row.newArr w 30 #[.slice none 0 0]).alloc (.cells (madeCells #[Value.pointer none, Value.string ByteArray.empty, Value.int IntKind.u32 0, Value.int IntKind.u32 0, Value.int IntKind.u32 0, Value.int IntKind.u32 0, Value.int IntKind.u32 0, Value.int IntKind.u16 0, Value.int IntKind.u8 0, Value.int IntKind.u8 0] (n * 10)) 69)
    refine ⟨0, Nat.zero_le _, rfl, h3, ?_, ((Below.refl _ _).alloc (Nat.le_refl _) _).alloc (by simp) _⟩
    simpa using upto_zero h2
  case round =>
    obtain ⟨k, hk, rfl, hrow, harr, hbel⟩ := hrel
    have HARR := Lib.hid harr
    have HBEL := Lib.hid hbel
    have HROW := Lib.hid hrow
    by_cases hlt : k < n
    · obtain ⟨b0, o0, ha0, hb0, hc0⟩ := R0.out k hlt
      subst ha0
      obtain ⟨x, hx⟩ : ∃ x, x = z0.getD k 0 := ⟨_, rfl⟩
      rw [← hx] at hc0
      have hx9 : at0 z0 k = x := hx.symm
      obtain ⟨y, hy⟩ : ∃ y, y = at0 z1 k := ⟨_, rfl⟩
      have HX := Lib.hid hx9
      have HY := Lib.hid hy.symm
      have HB0 := Lib.hid hb0
      have hne1 : ¬ b0 = w.heap.size + 1 := by omega
      have hne2 : ¬ w.heap.size + 1 = b0 := by omega
      have HC0 := Lib.hid hc0
      obtain ⟨x0, x1⟩ := at0_u8 H0.out.2.2.2.1 k
      obtain ⟨y0, y1⟩ := at0_u8 H1.out.2.2.2.1 k
      rw [hx9] at x0 x1
      rw [← hy] at y0 y1
      clear hx hx9 hy harr hbel hrow hc0 hb0
      by_cases hodd : at0 z0 k % 2 = 1 <;> cases hjs : jsx z1 k
      · have HKD := Lib.hid (show kdv z0 k = 18 by unfold kdv; rw [if_pos hodd])
        have HFL := Lib.hid (show flv z1 k = 0 by unfold flv; rw [hjs]; rfl)
        have htx : (x % 2 == 1) = true := by rw [← HX.out]; simp; omega
        have hty : (bits .and .u8 y 2 != 0) = false := by rw [← HY.out]; exact hjs
        clear hodd hjs
        go_wp2_with fail
        refine (inv18 wr).mono ?_
        rintro e w2 ⟨rfl, hb2⟩
        have hbel2 := HBEL.out.trans (hb2.mono HBEL.out.size)
        have harr2 := HARR.out.below hb2 HARR.out.lt
        have hrow2 := HROW.out.below hb2 HROW.out.lt
        have d0 : w2.cell? ⟨b0, o0 + k, none⟩ = some (.int .u8 x) := hbel2.cell (p := ⟨b0, o0 + k, none⟩) HB0.out |>.trans HC0.out
        have e2 : w2.cell? ⟨w.heap.size + 1, k * 10 + 2, none⟩ = some (symV 2 _) := harr2.cell k 2 hlt (by omega)
        simp only [symV, upto, Nat.lt_irrefl, if_false, Nat.reduceEqDiff] at e2
        have e3 : w2.cell? ⟨w.heap.size + 1, k * 10 + 3, none⟩ = some (symV 3 _) := harr2.cell k 3 hlt (by omega)
        simp only [symV, upto, Nat.lt_irrefl, if_false, Nat.reduceEqDiff] at e3
        have e7 : w2.cell? ⟨w.heap.size + 1, k * 10 + 7, none⟩ = some (symV 7 _) := harr2.cell k 7 hlt (by omega)
        simp only [symV, upto, Nat.lt_irrefl, if_false, Nat.reduceEqDiff, if_true] at e7
        have e8 : w2.cell? ⟨w.heap.size + 1, k * 10 + 8, none⟩ = some (symV 8 _) := harr2.cell k 8 hlt (by omega)
        simp only [symV, upto, Nat.lt_irrefl, if_false, Nat.reduceEqDiff, if_true] at e8
        have fz := harr2.frozen
        have hset := (((harr2.set (j := 2) hlt (by omega) 4294967295).set (j := 3) hlt (by omega) 4294967295).set (j := 8) hlt (by omega) (18 : Int)).congr (F' := upto (symF z0 z1) (k + 1)) (by
          intro k' l hk' hl
          by_cases hkk : k' = k
          · subst hkk
            have e : l = 0 ∨ l = 1 ∨ l = 2 ∨ l = 3 ∨ l = 4 ∨ l = 5 ∨ l = 6 ∨ l = 7 ∨ l = 8 ∨ l = 9 := by omega
            rcases e with rfl | rfl | rfl | rfl | rfl | rfl | rfl | rfl | rfl | rfl <;> simp [upd, upto, symF, HKD.out, HFL.out]
          · have : (k' < k + 1) = (k' < k) := by apply propext; omega
            simp [upd, upto, hkk, this])
        have HS := Lib.hid hset
        have HB := Lib.hid (((hbel2.setCell (p := ⟨w.heap.size + 1, k * 10 + 2, none⟩) (Nat.le_succ _) (.int .u32 4294967295)).setCell (p := ⟨w.heap.size + 1, k * 10 + 3, none⟩) (Nat.le_succ _) (.int .u32 4294967295)).setCell (p := ⟨w.heap.size + 1, k * 10 + 8, none⟩) (Nat.le_succ _) (.int .u8 18))
        have HR := Lib.hid (((hrow2.far (p := ⟨w.heap.size + 1, k * 10 + 2, none⟩) (by simp) (.int .u32 4294967295)).far (p := ⟨w.heap.size + 1, k * 10 + 3, none⟩) (by simp) (.int .u32 4294967295)).far (p := ⟨w.heap.size + 1, k * 10 + 8, none⟩) (by simp) (.int .u8 18))
        have HY20 := Lib.hid (fun (W : World) (hW : Below w.heap.size w W) => byte20 A1 n1 c1 z1 k W (H1.out.later hW) (by omega))
        have HBQ := Lib.hid ((hbel2.setCell (p := ⟨w.heap.size + 1, k * 10 + 2, none⟩) (Nat.le_succ _) (.int .u32 4294967295)).setCell (p := ⟨w.heap.size + 1, k * 10 + 3, none⟩) (Nat.le_succ _) (.int .u32 4294967295))
        rw [HY.out] at HY20
        clear hset harr2 hbel2 hb2 hrow2
        go_wp2_with (first | (go_at_call 19; (with_reducible refine (link19 _ _).mono ?_); rintro e w9 ⟨rfl, rfl⟩) | (go_at_call 21; (with_reducible refine (nest21 _ _).mono ?_); rintro e w9 ⟨rfl, rfl⟩) | (go_at_call 20; (with_reducible refine (HY20.out _ HBQ.out).mono ?_); rintro e w9 ⟨rfl, rfl⟩))
        go_roundw
        case rel => exact ⟨k + 1, by omega, by go_num, HR.out, HS.out, HB.out⟩
        case measure => simp [intOf]; omega
      · have HKD := Lib.hid (show kdv z0 k = 18 by unfold kdv; rw [if_pos hodd])
        have HFL := Lib.hid (show flv z1 k = 2 by unfold flv; rw [hjs]; rfl)
        have htx : (x % 2 == 1) = true := by rw [← HX.out]; simp; omega
        have hty : (bits .and .u8 y 2 != 0) = true := by rw [← HY.out]; exact hjs
        clear hodd hjs
        go_wp2_with fail
        refine (inv18 wr).mono ?_
        rintro e w2 ⟨rfl, hb2⟩
        have hbel2 := HBEL.out.trans (hb2.mono HBEL.out.size)
        have harr2 := HARR.out.below hb2 HARR.out.lt
        have hrow2 := HROW.out.below hb2 HROW.out.lt
        have d0 : w2.cell? ⟨b0, o0 + k, none⟩ = some (.int .u8 x) := hbel2.cell (p := ⟨b0, o0 + k, none⟩) HB0.out |>.trans HC0.out
        have e2 : w2.cell? ⟨w.heap.size + 1, k * 10 + 2, none⟩ = some (symV 2 _) := harr2.cell k 2 hlt (by omega)
        simp only [symV, upto, Nat.lt_irrefl, if_false, Nat.reduceEqDiff] at e2
        have e3 : w2.cell? ⟨w.heap.size + 1, k * 10 + 3, none⟩ = some (symV 3 _) := harr2.cell k 3 hlt (by omega)
        simp only [symV, upto, Nat.lt_irrefl, if_false, Nat.reduceEqDiff] at e3
        have e7 : w2.cell? ⟨w.heap.size + 1, k * 10 + 7, none⟩ = some (symV 7 _) := harr2.cell k 7 hlt (by omega)
        simp only [symV, upto, Nat.lt_irrefl, if_false, Nat.reduceEqDiff, if_true] at e7
        have e8 : w2.cell? ⟨w.heap.size + 1, k * 10 + 8, none⟩ = some (symV 8 _) := harr2.cell k 8 hlt (by omega)
        simp only [symV, upto, Nat.lt_irrefl, if_false, Nat.reduceEqDiff, if_true] at e8
        have fz := harr2.frozen
        have hset := ((((harr2.set (j := 2) hlt (by omega) 4294967295).set (j := 3) hlt (by omega) 4294967295).set (j := 8) hlt (by omega) (18 : Int)).set (j := 7) hlt (by omega) (2 : Int)).congr (F' := upto (symF z0 z1) (k + 1)) (by
          intro k' l hk' hl
          by_cases hkk : k' = k
          · subst hkk
            have e : l = 0 ∨ l = 1 ∨ l = 2 ∨ l = 3 ∨ l = 4 ∨ l = 5 ∨ l = 6 ∨ l = 7 ∨ l = 8 ∨ l = 9 := by omega
            rcases e with rfl | rfl | rfl | rfl | rfl | rfl | rfl | rfl | rfl | rfl <;> simp [upd, upto, symF, HKD.out, HFL.out]
          · have : (k' < k + 1) = (k' < k) := by apply propext; omega
            simp [upd, upto, hkk, this])
        have HS := Lib.hid hset
        have HB := Lib.hid ((((hbel2.setCell (p := ⟨w.heap.size + 1, k * 10 + 2, none⟩) (Nat.le_succ _) (.int .u32 4294967295)).setCell (p := ⟨w.heap.size + 1, k * 10 + 3, none⟩) (Nat.le_succ _) (.int .u32 4294967295)).setCell (p := ⟨w.heap.size + 1, k * 10 + 8, none⟩) (Nat.le_succ _) (.int .u8 18)).setCell (p := ⟨w.heap.size + 1, k * 10 + 7, none⟩) (Nat.le_succ _) (.int .u16 2))
        have HR := Lib.hid ((((hrow2.far (p := ⟨w.heap.size + 1, k * 10 + 2, none⟩) (by simp) (.int .u32 4294967295)).far (p := ⟨w.heap.size + 1, k * 10 + 3, none⟩) (by simp) (.int .u32 4294967295)).far (p := ⟨w.heap.size + 1, k * 10 + 8, none⟩) (by simp) (.int .u8 18)).far (p := ⟨w.heap.size + 1, k * 10 + 7, none⟩) (by simp) (.int .u16 2))
        have HY20 := Lib.hid (fun (W : World) (hW : Below w.heap.size w W) => byte20 A1 n1 c1 z1 k W (H1.out.later hW) (by omega))
        have HBQ := Lib.hid ((hbel2.setCell (p := ⟨w.heap.size + 1, k * 10 + 2, none⟩) (Nat.le_succ _) (.int .u32 4294967295)).setCell (p := ⟨w.heap.size + 1, k * 10 + 3, none⟩) (Nat.le_succ _) (.int .u32 4294967295))
        rw [HY.out] at HY20
        clear hset harr2 hbel2 hb2 hrow2
        go_wp2_with (first | (go_at_call 19; (with_reducible refine (link19 _ _).mono ?_); rintro e w9 ⟨rfl, rfl⟩) | (go_at_call 21; (with_reducible refine (nest21 _ _).mono ?_); rintro e w9 ⟨rfl, rfl⟩) | (go_at_call 20; (with_reducible refine (HY20.out _ HBQ.out).mono ?_); rintro e w9 ⟨rfl, rfl⟩))
        go_roundw
        case rel => exact ⟨k + 1, by omega, by go_num, HR.out, HS.out, HB.out⟩
        case measure => simp [intOf]; omega
      · have HKD := Lib.hid (show kdv z0 k = 27 by unfold kdv; rw [if_neg hodd])
        have HFL := Lib.hid (show flv z1 k = 0 by unfold flv; rw [hjs]; rfl)
        have htx : (x % 2 == 1) = false := by rw [← HX.out]; simp; omega
        have hty : (bits .and .u8 y 2 != 0) = false := by rw [← HY.out]; exact hjs
        clear hodd hjs
        go_wp2_with fail
        refine (inv18 wr).mono ?_
        rintro e w2 ⟨rfl, hb2⟩
        have hbel2 := HBEL.out.trans (hb2.mono HBEL.out.size)
        have harr2 := HARR.out.below hb2 HARR.out.lt
        have hrow2 := HROW.out.below hb2 HROW.out.lt
        have d0 : w2.cell? ⟨b0, o0 + k, none⟩ = some (.int .u8 x) := hbel2.cell (p := ⟨b0, o0 + k, none⟩) HB0.out |>.trans HC0.out
        have e2 : w2.cell? ⟨w.heap.size + 1, k * 10 + 2, none⟩ = some (symV 2 _) := harr2.cell k 2 hlt (by omega)
        simp only [symV, upto, Nat.lt_irrefl, if_false, Nat.reduceEqDiff] at e2
        have e3 : w2.cell? ⟨w.heap.size + 1, k * 10 + 3, none⟩ = some (symV 3 _) := harr2.cell k 3 hlt (by omega)
        simp only [symV, upto, Nat.lt_irrefl, if_false, Nat.reduceEqDiff] at e3
        have e7 : w2.cell? ⟨w.heap.size + 1, k * 10 + 7, none⟩ = some (symV 7 _) := harr2.cell k 7 hlt (by omega)
        simp only [symV, upto, Nat.lt_irrefl, if_false, Nat.reduceEqDiff, if_true] at e7
        have e8 : w2.cell? ⟨w.heap.size + 1, k * 10 + 8, none⟩ = some (symV 8 _) := harr2.cell k 8 hlt (by omega)
        simp only [symV, upto, Nat.lt_irrefl, if_false, Nat.reduceEqDiff, if_true] at e8
        have fz := harr2.frozen
        have hset := (((harr2.set (j := 2) hlt (by omega) 4294967295).set (j := 3) hlt (by omega) 4294967295).set (j := 8) hlt (by omega) (27 : Int)).congr (F' := upto (symF z0 z1) (k + 1)) (by
          intro k' l hk' hl
          by_cases hkk : k' = k
          · subst hkk
            have e : l = 0 ∨ l = 1 ∨ l = 2 ∨ l = 3 ∨ l = 4 ∨ l = 5 ∨ l = 6 ∨ l = 7 ∨ l = 8 ∨ l = 9 := by omega
            rcases e with rfl | rfl | rfl | rfl | rfl | rfl | rfl | rfl | rfl | rfl <;> simp [upd, upto, symF, HKD.out, HFL.out]
          · have : (k' < k + 1) = (k' < k) := by apply propext; omega
            simp [upd, upto, hkk, this])
        have HS := Lib.hid hset
        have HB := Lib.hid (((hbel2.setCell (p := ⟨w.heap.size + 1, k * 10 + 2, none⟩) (Nat.le_succ _) (.int .u32 4294967295)).setCell (p := ⟨w.heap.size + 1, k * 10 + 3, none⟩) (Nat.le_succ _) (.int .u32 4294967295)).setCell (p := ⟨w.heap.size + 1, k * 10 + 8, none⟩) (Nat.le_succ _) (.int .u8 27))
        have HR := Lib.hid (((hrow2.far (p := ⟨w.heap.size + 1, k * 10 + 2, none⟩) (by simp) (.int .u32 4294967295)).far (p := ⟨w.heap.size + 1, k * 10 + 3, none⟩) (by simp) (.int .u32 4294967295)).far (p := ⟨w.heap.size + 1, k * 10 + 8, none⟩) (by simp) (.int .u8 27))
        have HY20 := Lib.hid (fun (W : World) (hW : Below w.heap.size w W) => byte20 A1 n1 c1 z1 k W (H1.out.later hW) (by omega))
        have HBQ := Lib.hid ((hbel2.setCell (p := ⟨w.heap.size + 1, k * 10 + 2, none⟩) (Nat.le_succ _) (.int .u32 4294967295)).setCell (p := ⟨w.heap.size + 1, k * 10 + 3, none⟩) (Nat.le_succ _) (.int .u32 4294967295))
        rw [HY.out] at HY20
        clear hset harr2 hbel2 hb2 hrow2
        go_wp2_with (first | (go_at_call 19; (with_reducible refine (link19 _ _).mono ?_); rintro e w9 ⟨rfl, rfl⟩) | (go_at_call 21; (with_reducible refine (nest21 _ _).mono ?_); rintro e w9 ⟨rfl, rfl⟩) | (go_at_call 20; (with_reducible refine (HY20.out _ HBQ.out).mono ?_); rintro e w9 ⟨rfl, rfl⟩))
        go_roundw
        case rel => exact ⟨k + 1, by omega, by go_num, HR.out, HS.out, HB.out⟩
        case measure => simp [intOf]; omega
      · have HKD := Lib.hid (show kdv z0 k = 27 by unfold kdv; rw [if_neg hodd])
        have HFL := Lib.hid (show flv z1 k = 2 by unfold flv; rw [hjs]; rfl)
        have htx : (x % 2 == 1) = false := by rw [← HX.out]; simp; omega
        have hty : (bits .and .u8 y 2 != 0) = true := by rw [← HY.out]; exact hjs
        clear hodd hjs
        go_wp2_with fail
        refine (inv18 wr).mono ?_
        rintro e w2 ⟨rfl, hb2⟩
        have hbel2 := HBEL.out.trans (hb2.mono HBEL.out.size)
        have harr2 := HARR.out.below hb2 HARR.out.lt
        have hrow2 := HROW.out.below hb2 HROW.out.lt
        have d0 : w2.cell? ⟨b0, o0 + k, none⟩ = some (.int .u8 x) := hbel2.cell (p := ⟨b0, o0 + k, none⟩) HB0.out |>.trans HC0.out
        have e2 : w2.cell? ⟨w.heap.size + 1, k * 10 + 2, none⟩ = some (symV 2 _) := harr2.cell k 2 hlt (by omega)
        simp only [symV, upto, Nat.lt_irrefl, if_false, Nat.reduceEqDiff] at e2
        have e3 : w2.cell? ⟨w.heap.size + 1, k * 10 + 3, none⟩ = some (symV 3 _) := harr2.cell k 3 hlt (by omega)
        simp only [symV, upto, Nat.lt_irrefl, if_false, Nat.reduceEqDiff] at e3
        have e7 : w2.cell? ⟨w.heap.size + 1, k * 10 + 7, none⟩ = some (symV 7 _) := harr2.cell k 7 hlt (by omega)
        simp only [symV, upto, Nat.lt_irrefl, if_false, Nat.reduceEqDiff, if_true] at e7
        have e8 : w2.cell? ⟨w.heap.size + 1, k * 10 + 8, none⟩ = some (symV 8 _) := harr2.cell k 8 hlt (by omega)
        simp only [symV, upto, Nat.lt_irrefl, if_false, Nat.reduceEqDiff, if_true] at e8
        have fz := harr2.frozen
        have hset := ((((harr2.set (j := 2) hlt (by omega) 4294967295).set (j := 3) hlt (by omega) 4294967295).set (j := 8) hlt (by omega) (27 : Int)).set (j := 7) hlt (by omega) (2 : Int)).congr (F' := upto (symF z0 z1) (k + 1)) (by
          intro k' l hk' hl
          by_cases hkk : k' = k
          · subst hkk
            have e : l = 0 ∨ l = 1 ∨ l = 2 ∨ l = 3 ∨ l = 4 ∨ l = 5 ∨ l = 6 ∨ l = 7 ∨ l = 8 ∨ l = 9 := by omega
            rcases e with rfl | rfl | rfl | rfl | rfl | rfl | rfl | rfl | rfl | rfl <;> simp [upd, upto, symF, HKD.out, HFL.out]
          · have : (k' < k + 1) = (k' < k) := by apply propext; omega
            simp [upd, upto, hkk, this])
        have HS := Lib.hid hset
        have HB := Lib.hid ((((hbel2.setCell (p := ⟨w.heap.size + 1, k * 10 + 2, none⟩) (Nat.le_succ _) (.int .u32 4294967295)).setCell (p := ⟨w.heap.size + 1, k * 10 + 3, none⟩) (Nat.le_succ _) (.int .u32 4294967295)).setCell (p := ⟨w.heap.size + 1, k * 10 + 8, none⟩) (Nat.le_succ _) (.int .u8 27)).setCell (p := ⟨w.heap.size + 1, k * 10 + 7, none⟩) (Nat.le_succ _) (.int .u16 2))
        have HR := Lib.hid ((((hrow2.far (p := ⟨w.heap.size + 1, k * 10 + 2, none⟩) (by simp) (.int .u32 4294967295)).far (p := ⟨w.heap.size + 1, k * 10 + 3, none⟩) (by simp) (.int .u32 4294967295)).far (p := ⟨w.heap.size + 1, k * 10 + 8, none⟩) (by simp) (.int .u8 27)).far (p := ⟨w.heap.size + 1, k * 10 + 7, none⟩) (by simp) (.int .u16 2))
        have HY20 := Lib.hid (fun (W : World) (hW : Below w.heap.size w W) => byte20 A1 n1 c1 z1 k W (H1.out.later hW) (by omega))
        have HBQ := Lib.hid ((hbel2.setCell (p := ⟨w.heap.size + 1, k * 10 + 2, none⟩) (Nat.le_succ _) (.int .u32 4294967295)).setCell (p := ⟨w.heap.size + 1, k * 10 + 3, none⟩) (Nat.le_succ _) (.int .u32 4294967295))
        rw [HY.out] at HY20
        clear hset harr2 hbel2 hb2 hrow2
        go_wp2_with (first | (go_at_call 19; (with_reducible refine (link19 _ _).mono ?_); rintro e w9 ⟨rfl, rfl⟩) | (go_at_call 21; (with_reducible refine (nest21 _ _).mono ?_); rintro e w9 ⟨rfl, rfl⟩) | (go_at_call 20; (with_reducible refine (HY20.out _ HBQ.out).mono ?_); rintro e w9 ⟨rfl, rfl⟩))
        go_roundw
        case rel => exact ⟨k + 1, by omega, by go_num, HR.out, HS.out, HB.out⟩
        case measure => simp [intOf]; omega
    · obtain rfl : k = n := by omega
      have HS := Lib.hid (upto_all harr)
      have hr2 := hrow.alloc (.cells #[.slice (some ⟨w.heap.size + 1, 0, none⟩) k k] 59)
      have c0 := hr2.at_ (i := 0) rfl
      have f0 := hr2.frozen 0
      have HQ := Lib.hid (Row.newArr wr 59 #[.slice (some ⟨w.heap.size + 1, 0, none⟩) k k])
      have HGE := Lib.hid hbel.size
      have HLT := Lib.hid hrow.lt
      clear harr hbel hrow hr2
      go_wp2_with fail
      exact bodyPost_ret (v := .agg #[.slice (some ⟨wr.heap.size, 0, none⟩) 1 1]) (by simp [results, Try.results6, go_sem, c0]) rfl ⟨_, _, rfl, ⟨HQ.out.far (by have := HLT.out; simp; omega) _, (HS.out.below ((Below.refl wr.heap.size wr).alloc (Nat.le_refl _) _) HS.out.lt).far_ (by simp) _⟩, (HBEL.out.alloc HGE.out _).setCell (Nat.le_refl _) _, HGE.out, Nat.le_succ _⟩
end Go.Proofs.Ytidcbknnjpecbaa.AtC
