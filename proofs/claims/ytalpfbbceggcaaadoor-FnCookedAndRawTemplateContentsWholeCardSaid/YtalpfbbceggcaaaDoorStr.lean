/- string(b) of a byte slice that is read. Plain. -/
import Derived.Test.YtalpfbbceggcaaaDoorSl
import Derived.Test.YtalpfbbceggcaaaDoorPrn
import Derived.Laws.BytesString
import Derived.Laws.Cells
namespace Go.Proofs.YtalpfbbceggcaaaDoor.Str
open Go.RowKit Mem Args Prn

def bytesOf (zs : List Int) : ByteArray := ⟨(zs.map fun z => UInt8.ofNat z.toNat).toArray⟩
theorem bytesOf_size (zs : List Int) : (bytesOf zs).size = zs.length := by simp [bytesOf, ByteArray.size]
theorem push_foldl : ∀ (zs : List Int) (r : ByteArray), zs.foldl (fun r n => r.push (UInt8.ofNat n.toNat)) r = ⟨r.data ++ (zs.map fun z => UInt8.ofNat z.toNat).toArray⟩
  | [], r => by cases r; simp
  | z :: zs, r => by
    rw [List.foldl_cons, push_foldl zs (r.push _)]
    cases r
    simp [ByteArray.push]
theorem foldl_bytesOf (zs : List Int) : zs.foldl (fun r n => r.push (UInt8.ofNat n.toNat)) ByteArray.empty = bytesOf zs := by
  rw [push_foldl]
  simp [bytesOf, ByteArray.empty, ByteArray.emptyWithCapacity]
  rfl
theorem nums_bytesOf (zs : List Int) (h : ∀ z ∈ zs, (Lit.int .u8 z).wf = true) : nums (bytesOf zs) = zs := by
  unfold nums bytesOf
  simp only [List.map_map]
  conv => rhs; rw [← List.map_id zs]
  apply List.map_congr_left
  intro z hz
  obtain ⟨h0, h1⟩ := bounds_u8 (h z hz)
  simp
  omega
theorem bytesOf_nums (s : ByteArray) : bytesOf (nums s) = s := by
  unfold nums bytesOf
  cases s with
  | mk d =>
    congr 1
    apply Array.ext'
    simp only [List.map_map]
    conv => rhs; rw [← List.map_id d.toList]
    apply List.map_congr_left
    intro b _
    simp
theorem bytesOf_inj {zs ys : List Int} (h : ∀ z ∈ zs, (Lit.int .u8 z).wf = true) (h' : ∀ z ∈ ys, (Lit.int .u8 z).wf = true) (e : bytesOf zs = bytesOf ys) : zs = ys := by
  rw [← nums_bytesOf zs h, ← nums_bytesOf ys h', e]
theorem run_string {P : Program} {T STR E : TypeId} (hT : P.underlying T = some (.slice E)) (hE : P.underlying E = some (.int .u8)) (hS : P.underlying STR = some .string)
    {w : World} {A : Option Addr} {n c : Nat} {zs : List Int} (h : IsInts .u8 w A n c zs) : (convert T STR (.slice A n c)).run P w = .ok (.string (bytesOf zs)) w := by
  rw [run_convert_bytes_string w T STR E A n c hT hE hS]
  obtain ⟨h1, h2, h3, h4, h5, h6⟩ := h
  cases A with
  | none =>
    have hc := h5 rfl
    obtain rfl : n = 0 := by omega
    obtain rfl : zs = [] := List.eq_nil_of_length_eq_zero h3
    simp [Conv.bytesToString, bytesOf]
    rfl
  | some a =>
    have hl : (loadCells a n).run P w = .ok (zs.map (Value.int .u8)).toArray w := by
      rcases Nat.eq_zero_or_pos n with h0 | h0
      · subst h0
        obtain rfl : zs = [] := List.eq_nil_of_length_eq_zero h3
        have := run_loadCells_list (P := P) (w := w) a [] (by simp)
        simpa using this
      · obtain ⟨b, off, ha, hb, hc⟩ := h6 (by omega)
        injection ha with ha
        subst ha
        have := run_loadCells_list (P := P) (w := w) ⟨b, off, none⟩ (zs.map (Value.int .u8)) (by
          intro j v hv
          have hj : j < zs.length := by have := (List.getElem?_eq_some_iff.1 hv).1; simpa using this
          have hadd : (⟨b, off, none⟩ : Addr).add j = ⟨b, off + j, none⟩ := by unfold Addr.add; split <;> simp_all
          rw [hadd, hc j (by omega)]
          simp [hj] at hv
          simp [List.getD, hj, hv])
        simp only [List.length_map, h3] at this
        exact this
    rw [run_bytesToString w a n c zs hl, foldl_bytesOf]
end Go.Proofs.YtalpfbbceggcaaaDoor.Str
