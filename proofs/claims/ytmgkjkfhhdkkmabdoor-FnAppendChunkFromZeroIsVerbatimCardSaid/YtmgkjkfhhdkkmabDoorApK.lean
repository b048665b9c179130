/- FnAppendChunkFromZeroIsVerbatim: zzBuildChunk. -/
import Derived.Test.YtmgkjkfhhdkkmabDoorRows
import Derived.Test.YtmgkjkfhhdkkmabDoorMem
import Derived.Test.YtmgkjkfhhdkkmabDoorSl
import Derived.Test.YtmgkjkfhhdkkmabDoorApI
import Derived.Deep.DeepCutAuto
import Derived.Deep.Cut
import Derived.WalkKit
import Derived.ProofKit
import Derived.OpenShut
import Derived.Below
import Derived.WalkLawsBesides
import Derived.Lib.Hide
import Derived.Outline
import Derived.RegionTactic
import Derived.Deep.QuietTactic
import Derived.BigQuiet
import Derived.WalkSpells
import Derived.Deep.OwnRows
import Derived.IntWalk
import Derived.Deep.DeepMust
namespace Go.Proofs.YtmgkjkfhhdkkmabDoor.ApK
open Go.RowKit Mem Sl
set_option linter.unusedVariables false
open Own Vq ApA ApB ApJ ApE ApF ApH ApI Args

def Sm (v : Int) : Prop := -4096 ≤ v ∧ v ≤ 4096
/-- The bytes of a chunk: a first segment of four numbers, perhaps behind one semicolon; the first name behind it. -/
def Chunk (D : List Int) (o : Option Nat) : Prop := ∃ pre g a b c rest, (pre = [] ∨ pre = [59]) ∧ Sm g ∧ Sm a ∧ Sm b ∧ Sm c ∧ D = pre ++ seg4 g a b c ++ rest ∧
  ∀ v, o = some v → ∃ D0 e D1, Sm e ∧ D = D0 ++ code (vlqOf e) ++ D1 ∧ D0.length = v ∧ (pre ++ seg4 g a b c).length ≤ v
theorem Chunk.more {D : List Int} {o : Option Nat} (h : Chunk D o) (X : List Int) : Chunk (D ++ X) o := by
  obtain ⟨pre, g, a, b, c, rest, h1, h2, h3, h4, h5, h6, h7⟩ := h
  refine ⟨pre, g, a, b, c, rest ++ X, h1, h2, h3, h4, h5, by rw [h6]; simp, fun v hv => ?_⟩
  obtain ⟨D0, e, D1, k1, k2, k3, k4⟩ := h7 v hv
  exact ⟨D0, e, D1 ++ X, k1, by rw [k2]; simp, k3, k4⟩
theorem Chunk.name {D : List Int} (h : Chunk D none) (e : Int) (he : Sm e) : Chunk (D ++ code (vlqOf e)) (some D.length) := by
  obtain ⟨pre, g, a, b, c, rest, h1, h2, h3, h4, h5, h6, h7⟩ := h
  refine ⟨pre, g, a, b, c, rest ++ code (vlqOf e), h1, h2, h3, h4, h5, by rw [h6]; simp, fun v hv => ?_⟩
  injection hv with hv
  subst hv
  exact ⟨D, e, [], he, by simp, rfl, by rw [h6]; simp only [List.length_append]; omega⟩
theorem chunk0 {pre : List Int} (h : pre = [] ∨ pre = [59]) {g a b c : Int} (hg : Sm g) (ha : Sm a) (hb : Sm b) (hc : Sm c) : Chunk (pre ++ seg4 g a b c) none :=
  ⟨pre, g, a, b, c, [], h, hg, ha, hb, hc, by simp, fun v hv => by cases hv⟩
/-- What holds of the bytes at the head of round k. -/
def HeadAt (k : Nat) (D : List Int) (o : Option Nat) : Prop := D.length ≤ 20 * k ∧ (∀ v, o = some v → v ≤ 20 * k) ∧ (∀ z ∈ D, (Lit.int .u8 z).wf = true) ∧ ((k = 0 ∧ D = [] ∧ o = none) ∨ (1 ≤ k ∧ Chunk D o))
/-- What zzBuildChunk leaves. -/
def Built (w : World) (e : Ending) (w' : World) : Prop := ∃ x D o sg, e = .returned (.tuple #[x, .int .i64 (fnOf o), sg]) ∧ Pc w' x D ∧ Chunk D o ∧ D.length ≤ 100000 ∧ (∀ v, o = some v → v ≤ 100000) ∧ Below w.heap.size w w'
theorem run_make_wide {P : Program} (t e : TypeId) (z : Value) (size bytes : Nat) (cs : Array Value) (ht : P.underlying t = some (.slice e)) (hinfo : (P.info? e).map (fun i => (i.zero, i.size, i.bytes)) = some (some z, size, bytes)) (hz1 : z.cells = cs)
    (kl kc : IntKind) (n : Nat) (hbytes : bytes * n ≤ 281474976710656) (h63 : n ≤ 9223372036854775807) (w : World) :
    (Instr.makeSlice t (.int kl (n : Int)) (.int kc (n : Int))).run P w = .ok (.slice (some ⟨w.heap.size, 0, none⟩) n n) (w.alloc (.cells (madeCells cs (n * size)) e)) := by
  obtain ⟨i, hi, hzz⟩ := Option.map_eq_some_iff.1 hinfo
  simp only [Prod.mk.injEq] at hzz
  obtain ⟨hz, hs, hb⟩ := hzz
  have hb' : (i.bytes : Int) * (n : Int) ≤ 281474976710656 := by
    have h : ((i.bytes * n : Nat) : Int) ≤ 281474976710656 := by rw [hb]; omega
    rwa [Int.natCast_mul] at h
  have hr := run_make (P := P) w t e i z ht hi hz kl kc n n (by omega) (Int.le_refl _) hb' (by omega)
  simp only [Int.toNat_natCast, hs, hz1] at hr
  exact hr
def mk (l : List (List Int)) : Nat → Nat → Int := fun k j => (l.getD j []).getD k 0
def upto (F : Nat → Nat → Int) (m : Nat) : Nat → Nat → Int := fun k j => if k < m then F k j else 0
theorem info49 : (Tryd.prog.info? 49).map (fun i => (i.zero, i.size, i.bytes)) = some (some (.agg #[.int .i64 0, .int .i64 0, .int .i64 0, .int .i64 0, .int .i64 0, .int .i64 0, .int .i64 0]), 7, 56) := by kernel_rfl
/-- Round k. -/
structure Rnd (w : World) (m k : Nat) (v : Value) (D : List Int) (o : Option Nat) (l c s q r t : Int) (wr : World) : Prop where
  hk : k ≤ m
  head : HeadAt k D o
  own : Own wr (w.heap.size + 1) 5 .u8 v D
  seg : ∃ xs, Row wr w.heap.size 49 xs ∧ xs.length = m * 7
  bel : Below w.heap.size w wr
  hB : w.heap.size + 1 ≤ wr.heap.size
  bl : -4096 * (k : Int) ≤ l ∧ l ≤ 4096 * (k : Int)
  bc : -4096 * (k : Int) ≤ c ∧ c ≤ 4096 * (k : Int)
  bs : -4096 * (k : Int) ≤ s ∧ s ≤ 4096 * (k : Int)
  bq : -4096 * (k : Int) ≤ q ∧ q ≤ 4096 * (k : Int)
  br : -4096 * (k : Int) ≤ r ∧ r ≤ 4096 * (k : Int)
  bt : -4096 * (k : Int) ≤ t ∧ t ≤ 4096 * (k : Int)
/-- In the midst of round k: the bytes D are in. -/
structure Mid (w : World) (m : Nat) (v : Value) (D : List Int) (wr : World) : Prop where
  own : Own wr (w.heap.size + 1) 5 .u8 v D
  seg : ∃ xs, Row wr w.heap.size 49 xs ∧ xs.length = m * 7
  bel : Below w.heap.size w wr
  hB : w.heap.size + 1 ≤ wr.heap.size
theorem Mid.push {w wr w1 : World} {m : Nat} {v v' : Value} {D D' : List Int} (h : Mid w m v D wr) (o : Obj) (ho : Own w1 (w.heap.size + 1) 5 .u8 v' D') (hb : Below (w.heap.size + 1) (wr.alloc o) w1) : Mid w m v' D' w1 := by
  obtain ⟨xs, h1, h2⟩ := h.seg
  have h3 := h.hB
  have h4 := hb.size
  exact ⟨ho, ⟨xs, (h1.alloc o).below hb (by omega), h2⟩, (h.bel.alloc h.bel.size _).trans (hb.mono (by omega)), by simp at h4; omega⟩
theorem Mid.call {w wr w1 : World} {m : Nat} {v v' : Value} {D D' : List Int} (h : Mid w m v D wr) (ho : Own w1 (w.heap.size + 1) 5 .u8 v' D') (hb : Below (w.heap.size + 1) wr w1) : Mid w m v' D' w1 := by
  obtain ⟨xs, h1, h2⟩ := h.seg
  exact ⟨ho, ⟨xs, h1.below hb (by omega), h2⟩, h.bel.trans (hb.mono (by omega)), Nat.le_trans h.hB hb.size⟩
theorem Mid.store {w wr : World} {m : Nat} {v : Value} {D : List Int} (h : Mid w m v D wr) (i : Nat) (u : Value) : Mid w m v D (wr.setCell ⟨w.heap.size, i, none⟩ u) := by
  obtain ⟨xs, h1, h2⟩ := h.seg
  exact ⟨own_set h.own h1 (by decide) i u, ⟨_, h1.set i u, by simpa using h2⟩, h.bel.setCell (Nat.le_refl _) _, by simpa using h.hB⟩
/-- What stands between two segments. -/
def SepOf (k : Nat) (sep : List Int) : Prop := sep = [] ∨ sep = [59] ∨ (sep = [44] ∧ 1 ≤ k)
theorem sep_len {k : Nat} {sep : List Int} (h : SepOf k sep) : sep.length ≤ 1 ∧ ∀ z ∈ sep, (Lit.int .u8 z).wf = true := by
  rcases h with rfl | rfl | ⟨rfl, _⟩
  · simp
  · exact ⟨by simp, fun z hz => by simp at hz; subst hz; rfl⟩
  · exact ⟨by simp, fun z hz => by simp at hz; subst hz; rfl⟩
theorem head_next {k : Nat} {D sep X Dn : List Int} {o o' : Option Nat} (h : HeadAt k D o) (hs : SepOf k sep) (hX : X.length ≤ 15) (hw : ∀ z ∈ X, (Lit.int .u8 z).wf = true) (hD : Dn = D ++ sep ++ X) (ho : ∀ v, o' = some v → v ≤ 20 * (k + 1)) (hc : Chunk Dn o') : HeadAt (k + 1) Dn o' := by
  obtain ⟨h1, h2, h3, h4⟩ := h
  obtain ⟨s1, s2⟩ := sep_len hs
  refine ⟨by rw [hD]; simp only [List.length_append]; omega, ho, ?_, .inr ⟨by omega, hc⟩⟩
  intro z hz
  rw [hD] at hz
  rcases List.mem_append.1 hz with hz | hz
  · rcases List.mem_append.1 hz with hz | hz
    · exact h3 z hz
    · exact s2 z hz
  · exact hw z hz
theorem chunk_any {k : Nat} {D : List Int} {o : Option Nat} (h : HeadAt k D o) (hk : 1 ≤ k) (X : List Int) : Chunk (D ++ X) o := by
  rcases h.2.2.2 with ⟨h0, _⟩ | ⟨_, h1⟩
  · omega
  · exact h1.more X
theorem chunk_src {k : Nat} {D sep : List Int} {o : Option Nat} (h : HeadAt k D o) (hs : SepOf k sep) {g a b c : Int} (hg : Sm g) (ha : Sm a) (hb : Sm b) (hc : Sm c) : Chunk (D ++ sep ++ seg4 g a b c) o := by
  rcases h.2.2.2 with ⟨h0, rfl, rfl⟩ | ⟨hk, h1⟩
  · rw [List.nil_append]
    refine chunk0 ?_ hg ha hb hc
    rcases hs with h | h | ⟨_, h⟩
    · exact .inl h
    · exact .inr h
    · omega
  · rw [List.append_assoc]
    exact h1.more _
theorem codes_wf {X : List Int} (h : ∃ l : List Nat, X = l.flatMap code) : ∀ z ∈ X, (Lit.int .u8 z).wf = true := by
  obtain ⟨l, rfl⟩ := h
  intro z hz
  obtain ⟨n, _, hz⟩ := List.mem_flatMap.1 hz
  exact code_wf n z hz
theorem rnd_of {w wr : World} {m k : Nat} {v : Value} {D : List Int} {o : Option Nat} {l c s q r t : Int} (hk : k ≤ m) (hh : HeadAt k D o) (hm : Mid w m v D wr) (bl : -4096 * (k : Int) ≤ l ∧ l ≤ 4096 * (k : Int)) (bc : -4096 * (k : Int) ≤ c ∧ c ≤ 4096 * (k : Int)) (bs : -4096 * (k : Int) ≤ s ∧ s ≤ 4096 * (k : Int)) (bq : -4096 * (k : Int) ≤ q ∧ q ≤ 4096 * (k : Int)) (br : -4096 * (k : Int) ≤ r ∧ r ≤ 4096 * (k : Int)) (bt : -4096 * (k : Int) ≤ t ∧ t ≤ 4096 * (k : Int)) : Rnd w m k v D o l c s q r t wr :=
  ⟨hk, hh, hm.own, hm.seg, hm.bel, hm.hB, bl, bc, bs, bq, br, bt⟩
def AtSep (w : World) (m k : Nat) (D : List Int) (x9 x11 x12 : Value) (wx : World) : Prop := ∃ (sep : List Int) (l c : Int), SepOf k sep ∧ Mid w m x9 (D ++ sep) wx ∧ x11 = .int .i64 l ∧ x12 = .int .i64 c ∧ (-4096 * (k : Int) ≤ l ∧ l ≤ 4096 * (k : Int) + 1) ∧ (-4096 * (k : Int) ≤ c ∧ c ≤ 4096 * (k : Int))

set_option maxRecDepth 100000 in
set_option maxHeartbeats 16000000 in
theorem bld8 (A : Option Addr) (n c : Nat) (zs : List Int) (A2 : Option Addr) (n2 c2 : Nat) (ks : List Int) (w : World) (hd : IsInts .i32 w A n c zs) (hk : IsInts .u8 w A2 n2 c2 ks) (h5 : 5 ≤ n) (hn : n ≤ 20480) (hn2 : n2 ≤ 65536) (hsm : ∀ z ∈ zs, Sm z) :
    Calls Tryd.prog 8 #[.slice A n c, .slice A2 n2 c2] w (Built w) := by
  obtain ⟨m, hm⟩ : ∃ m, m = n / 5 := ⟨_, rfl⟩
  have em : (n : Int) / 5 = (m : Int) := by omega
  have hm1 : 1 ≤ m ∧ m ≤ 4096 := by omega
  have HD := Lib.hid hd
  have HK := Lib.hid hk
  have HS := Lib.hid hsm
  have HM := Lib.hid hm
  have HM1 := Lib.hid hm1
  clear hd hk hsm hm hm1
  have hmk := fun W => run_make_wide (P := Tryd.prog) 28 49 _ 7 56 _ Tryd.underlying28 info49 rfl .i64 .i64 m (by have := HM1.out; omega) (by have := HM1.out; omega) W
  have hm2 := HM1.out.2
  go_enter Tryd.func8, Tryd.ntmps8
  go_wp2_with fail
  go_loopw [9, 10, 11, 12, 13, 14, 15, 16, 17] (fun x9 x10 x11 x12 x13 x14 x15 x16 x17 wr => ∃ (k : Nat) (v : Value) (D : List Int) (o : Option Nat) (l c s q r t : Int), v = x9 ∧ x10 = .int .i64 (fnOf o) ∧ x11 = .int .i64 l ∧ x12 = .int .i64 c ∧ x13 = .int .i64 s ∧ x14 = .int .i64 q ∧ x15 = .int .i64 r ∧ x16 = .int .i64 t ∧ x17 = .int .i64 (k : Int) ∧ Rnd w m k v D o l c s q r t wr) (fun _ _ _ _ _ _ _ _ x17 _ => m - (intOf x17).toNat)
  case atStart =>
    refine ⟨0, _, [], none, 0, 0, 0, 0, 0, 0, rfl, rfl, rfl, rfl, rfl, rfl, rfl, rfl, rfl, Nat.zero_le _, ⟨by simp, by simp, by simp, .inl ⟨rfl, rfl, rfl⟩⟩, own_nil _ _ _ _, ⟨_, Row.newArr w 49 _, by rw [Array.length_toList, size_madeCells]⟩, (Below.refl _ _).alloc (Nat.le_refl _) _, by simp, by omega, by omega, by omega, by omega, by omega, by omega⟩
  case round =>
    obtain ⟨k, v, D, o, l, c', s', q', r', t', rfl, rfl, rfl, rfl, rfl, rfl, rfl, rfl, rfl, hr⟩ := hrel
    have HRD := Lib.hid hr
    have hkm := hr.hk
    obtain ⟨bl0, bl1⟩ := hr.bl
    obtain ⟨bc0, bc1⟩ := hr.bc
    obtain ⟨bs0, bs1⟩ := hr.bs
    obtain ⟨bq0, bq1⟩ := hr.bq
    obtain ⟨br0, br1⟩ := hr.br
    obtain ⟨bt0, bt1⟩ := hr.bt
    clear hr hmk em
    by_cases hlt : k < m
    case neg =>
      obtain rfl : k = m := by omega
      have HF := Lib.hid (show Built w (.returned (.tuple #[v, .int .i64 (fnOf o), .slice (some ⟨w.heap.size, 0, none⟩) k k])) wr by
        obtain ⟨h1, h2, h3, h4⟩ := HRD.out.head
        have h5 := HM1.out.1
        rcases h4 with ⟨h4, _⟩ | ⟨_, h4⟩
        · omega
        · exact ⟨v, D, o, _, rfl, pc_own HRD.out.own h3, h4, by omega, fun x hx => by have := h2 x hx; omega, HRD.out.bel⟩)
      go_wp2_with fail
      go_ret3
      exact HF.out
    go_upto_if 40 with fail
    go_cut [18] (fun s18 wx => ∃ x : Int, s18 = .int .u8 x ∧ 0 ≤ x ∧ x ≤ 255 ∧ wr = wx)
    case first =>
      by_cases hk2 : k < n2
      · obtain ⟨b, off, ha, hb, hcell⟩ := HK.out.read k hk2
        subst ha
        have c1 := (HRD.out.bel.cell (p := ⟨b, off + k, none⟩) hb).trans hcell
        have hw := bounds_u8 (HK.out.wf_at k hk2)
        generalize ks.getD k 0 = x at c1 hw
        obtain ⟨hw0, hw1⟩ := hw
        go_wp2_with fail
        go_meet
        case rel => exact ⟨x, rfl, hw0, hw1, rfl⟩
      · go_wp2_with fail
        go_meet
        case rel => exact ⟨0, rfl, by omega, by omega, rfl⟩
    case rest =>
    obtain ⟨x, rfl, hx0, hx1, rfl⟩ := hcut
    obtain ⟨b1, hb1⟩ : ∃ b, (bits BinOp.and IntKind.u8 x 1 != 0) = b := ⟨_, rfl⟩
    obtain ⟨b4, hb4⟩ : ∃ b, (bits BinOp.and IntKind.u8 x 4 == 0) = b := ⟨_, rfl⟩
    obtain ⟨b2, hb2⟩ : ∃ b, (bits BinOp.and IntKind.u8 x 2 != 0) = b := ⟨_, rfl⟩
    go_upto_if 47 with fail
    have HDL := Lib.hid (show D.length ≤ 1000000000 by have := HRD.out.head.1; omega)
    have HBB := Lib.hid (show w.heap.size + 1 ≤ (wr.alloc (.cells #[.int .u8 59] 5)).heap.size by have := HRD.out.hB; simp; omega)
    go_cut [9, 11, 12] (fun s9 s11 s12 wx => AtSep w m k D s9 s11 s12 wx)
    case first =>
      cases b1
      · by_cases h0 : k = 0
        · subst h0
          go_wp2_with fail
          go_meet
          case rel => exact ⟨[], l, c', .inl rfl, by rw [List.append_nil]; exact ⟨HRD.out.own, HRD.out.seg, HRD.out.bel, HRD.out.hB⟩, rfl, rfl, by omega, by omega⟩
        · have hk0 : decide (0 < (k : Int)) = true := by simp; omega
          have HBB := Lib.hid (show w.heap.size + 1 ≤ (wr.alloc (.cells #[.int .u8 44] 5)).heap.size by have := HRD.out.hB; simp; omega)
          go_wp2_with (refine wpList_push _ rfl _ _ 23 rfl (w.heap.size + 1) 5 .u8 1 Tryd.underlying23 info5 (by decide) v D rfl (HRD.out.own.alloc _) wr.heap.size 44 rfl ((Row.newArr _ 5 _).at_ (i := 0) rfl) HDL.out HBB.out ?_; intro v1 w1 hown1 hbel1; have HMID := Lib.hid ((Mid.mk HRD.out.own HRD.out.seg HRD.out.bel HRD.out.hB).push _ hown1 hbel1); clear hown1 hbel1)
          go_meet
          case rel => exact ⟨[44], l, c', .inr (.inr ⟨rfl, by omega⟩), HMID.out, rfl, rfl, by omega, by omega⟩
      · go_wp2_with (refine wpList_push _ rfl _ _ 23 rfl (w.heap.size + 1) 5 .u8 1 Tryd.underlying23 info5 (by decide) v D rfl (HRD.out.own.alloc _) wr.heap.size 59 rfl ((Row.newArr _ 5 _).at_ (i := 0) rfl) HDL.out HBB.out ?_; intro v1 w1 hown1 hbel1; have HMID := Lib.hid ((Mid.mk HRD.out.own HRD.out.seg HRD.out.bel HRD.out.hB).push _ hown1 hbel1); clear hown1 hbel1)
        go_meet
        case rel => exact ⟨[59], l + 1, 0, .inr (.inl rfl), HMID.out, rfl, rfl, by omega, by omega⟩
    case rest =>
    obtain ⟨sep, l1, c1, hsep, hmid, rfl, rfl, hl1, hc1⟩ := hcut
    have HSEP := Lib.hid hsep
    have HMD := Lib.hid hmid
    have HM2 := HM.out
    have hkn : 5 * k + 4 < n := by omega
    clear HM2
    clear hsep hmid HDL HBB hb1
    by_cases h0 : k = 0
    · have tk0 : ((k : Int) == 0) = true := by simp [h0]
      have H0 := Lib.hid h0
      obtain rfl : o = none := by rcases HRD.out.head.2.2.2 with ⟨_, _, h⟩ | ⟨h, _⟩; exact h; omega
      have hfn : fnOf none = -1 := rfl
      clear h0 hb4
      cases b2
      · skip
        obtain ⟨db0, do0, da0, dl0, dc0⟩ := HD.out.read (5 * k) (by omega)
        have gs : Sm (zs.getD (5 * k) 0) := HS.out _ (by have hl := HD.out.2.2.1; rw [getD_at _ _ (by omega)]; exact List.getElem_mem _)
        generalize zs.getD (5 * k) 0 = g at dc0 gs
        obtain ⟨g0, g1⟩ := gs
        obtain ⟨db1, do1, da1, dl1, dc1⟩ := HD.out.read (5 * k + 1) (by omega)
        have p1s : Sm (zs.getD (5 * k + 1) 0) := HS.out _ (by have hl := HD.out.2.2.1; rw [getD_at _ _ (by omega)]; exact List.getElem_mem _)
        generalize zs.getD (5 * k + 1) 0 = p1 at dc1 p1s
        obtain ⟨p10, p11⟩ := p1s
        obtain ⟨db2, do2, da2, dl2, dc2⟩ := HD.out.read (5 * k + 2) (by omega)
        have p2s : Sm (zs.getD (5 * k + 2) 0) := HS.out _ (by have hl := HD.out.2.2.1; rw [getD_at _ _ (by omega)]; exact List.getElem_mem _)
        generalize zs.getD (5 * k + 2) 0 = p2 at dc2 p2s
        obtain ⟨p20, p21⟩ := p2s
        obtain ⟨db3, do3, da3, dl3, dc3⟩ := HD.out.read (5 * k + 3) (by omega)
        have p3s : Sm (zs.getD (5 * k + 3) 0) := HS.out _ (by have hl := HD.out.2.2.1; rw [getD_at _ _ (by omega)]; exact List.getElem_mem _)
        generalize zs.getD (5 * k + 3) 0 = p3 at dc3 p3s
        obtain ⟨p30, p31⟩ := p3s
        obtain ⟨rfl, rfl⟩ : db0 = db1 ∧ do0 = do1 := by have h9 := da0.symm.trans da1; injection h9 with h9; injection h9 with h9 h8; exact ⟨h9, h8⟩
        obtain ⟨rfl, rfl⟩ : db0 = db2 ∧ do0 = do2 := by have h9 := da0.symm.trans da2; injection h9 with h9; injection h9 with h9 h8; exact ⟨h9, h8⟩
        obtain ⟨rfl, rfl⟩ : db0 = db3 ∧ do0 = do3 := by have h9 := da0.symm.trans da3; injection h9 with h9; injection h9 with h9 h8; exact ⟨h9, h8⟩
        subst da0
        have HDL0 := Lib.hid dl0
        have HDC0 := Lib.hid dc0
        have HC0 := Lib.hid (code_le3 g g0 g1)
        have HDC1 := Lib.hid dc1
        have HC1 := Lib.hid (code_le3 p1 p10 p11)
        have HDC2 := Lib.hid dc2
        have HC2 := Lib.hid (code_le3 p2 p20 p21)
        have HDC3 := Lib.hid dc3
        have HC3 := Lib.hid (code_le3 p3 p30 p31)
        clear dl0 dc0 dl1 dc1 dl2 dc2 dl3 dc3 da1 da2 da3
        have HSL := Lib.hid (show (D ++ sep).length ≤ 20 * k + 1 by have h1 := HRD.out.head.1; rw [List.length_append]; rcases HSEP.out with rfl | rfl | ⟨rfl, _⟩ <;> simp <;> omega)
        have HMA0 := HMD
        have e0 := (HMA0.out.bel.cell (p := ⟨db0, do0 + (5 * k), none⟩) HDL0.out).trans HDC0.out
        have HLn0 := Lib.hid (show (D ++ sep).length ≤ 100000000 by have h0 := HSL.out; have hm := HM1.out;  simp only [List.length_append] at h0 ⊢; omega)
        have HE0 := Lib.hid (enc13 (w.heap.size + 1) _ (D ++ sep) g _ HMA0.out.hB HMA0.out.own HLn0.out (by omega) (by omega))
        go_upto_region 30 with (go_at_call 13; (with_reducible refine HE0.out.mono ?_); rintro e wq0 ⟨vq0, rfl, ho, hb⟩; have HMA1 := Lib.hid (HMA0.out.call ho hb); clear ho hb)
        clear HE0
        clear e0
        have e1 := (HMA1.out.bel.cell (p := ⟨db0, do0 + (5 * k + 1), none⟩) HDL0.out).trans HDC1.out
        have e2 := (HMA1.out.bel.cell (p := ⟨db0, do0 + (5 * k + 2), none⟩) HDL0.out).trans HDC2.out
        have e3 := (HMA1.out.bel.cell (p := ⟨db0, do0 + (5 * k + 3), none⟩) HDL0.out).trans HDC3.out
        have HLn1 := Lib.hid (show (D ++ sep ++ code (vlqOf g)).length ≤ 100000000 by have h0 := HSL.out; have hm := HM1.out; have hc0 := HC0.out; simp only [List.length_append] at h0 ⊢; omega)
        have HE1 := Lib.hid (enc13 (w.heap.size + 1) _ (D ++ sep ++ code (vlqOf g)) p1 _ HMA1.out.hB HMA1.out.own HLn1.out (by omega) (by omega))
        go_upto_region 34 with (go_at_call 13; (with_reducible refine HE1.out.mono ?_); rintro e wq1 ⟨vq1, rfl, ho, hb⟩; have HMA2 := Lib.hid (HMA1.out.call ho hb); clear ho hb)
        clear HE1
        have HLn2 := Lib.hid (show (D ++ sep ++ code (vlqOf g) ++ code (vlqOf p1)).length ≤ 100000000 by have h0 := HSL.out; have hm := HM1.out; have hc0 := HC0.out; have hc1 := HC1.out; simp only [List.length_append] at h0 ⊢; omega)
        have HE2 := Lib.hid (enc13 (w.heap.size + 1) _ (D ++ sep ++ code (vlqOf g) ++ code (vlqOf p1)) p2 _ HMA2.out.hB HMA2.out.own HLn2.out (by omega) (by omega))
        go_upto_region 35 with (go_at_call 13; (with_reducible refine HE2.out.mono ?_); rintro e wq2 ⟨vq2, rfl, ho, hb⟩; have HMA3 := Lib.hid (HMA2.out.call ho hb); clear ho hb)
        clear HE2
        have HLn3 := Lib.hid (show (D ++ sep ++ code (vlqOf g) ++ code (vlqOf p1) ++ code (vlqOf p2)).length ≤ 100000000 by have h0 := HSL.out; have hm := HM1.out; have hc0 := HC0.out; have hc1 := HC1.out; have hc2 := HC2.out; simp only [List.length_append] at h0 ⊢; omega)
        have HE3 := Lib.hid (enc13 (w.heap.size + 1) _ (D ++ sep ++ code (vlqOf g) ++ code (vlqOf p1) ++ code (vlqOf p2)) p3 _ HMA3.out.hB HMA3.out.own HLn3.out (by omega) (by omega))
        go_upto_region 36 with (go_at_call 13; (with_reducible refine HE3.out.mono ?_); rintro e wq3 ⟨vq3, rfl, ho, hb⟩; have HMA4 := Lib.hid (HMA3.out.call ho hb); clear ho hb)
        clear HE3
        clear e1 e2 e3
        go_upto_region 47 with fail
        obtain ⟨xs, hxs, hxl⟩ := HMA4.out.seg
        obtain ⟨y0, hy0⟩ : ∃ y, xs[k * 7]? = some y := ⟨xs[k * 7]'(by omega), List.getElem?_eq_getElem _⟩
        have r0 := hxs.at_ hy0
        have f0 := hxs.frozen (k * 7)
        obtain ⟨y1, hy1⟩ : ∃ y, xs[k * 7 + 1]? = some y := ⟨xs[k * 7 + 1]'(by omega), List.getElem?_eq_getElem _⟩
        have r1 := hxs.at_ hy1
        have f1 := hxs.frozen (k * 7 + 1)
        obtain ⟨y2, hy2⟩ : ∃ y, xs[k * 7 + 2]? = some y := ⟨xs[k * 7 + 2]'(by omega), List.getElem?_eq_getElem _⟩
        have r2 := hxs.at_ hy2
        have f2 := hxs.frozen (k * 7 + 2)
        obtain ⟨y3, hy3⟩ : ∃ y, xs[k * 7 + 3]? = some y := ⟨xs[k * 7 + 3]'(by omega), List.getElem?_eq_getElem _⟩
        have r3 := hxs.at_ hy3
        have f3 := hxs.frozen (k * 7 + 3)
        obtain ⟨y4, hy4⟩ : ∃ y, xs[k * 7 + 4]? = some y := ⟨xs[k * 7 + 4]'(by omega), List.getElem?_eq_getElem _⟩
        have r4 := hxs.at_ hy4
        have f4 := hxs.frozen (k * 7 + 4)
        obtain ⟨y5, hy5⟩ : ∃ y, xs[k * 7 + 5]? = some y := ⟨xs[k * 7 + 5]'(by omega), List.getElem?_eq_getElem _⟩
        have r5 := hxs.at_ hy5
        have f5 := hxs.frozen (k * 7 + 5)
        obtain ⟨y6, hy6⟩ : ∃ y, xs[k * 7 + 6]? = some y := ⟨xs[k * 7 + 6]'(by omega), List.getElem?_eq_getElem _⟩
        have r6 := hxs.at_ hy6
        have f6 := hxs.frozen (k * 7 + 6)
        have HXS := Lib.hid hxs
        have HXL := Lib.hid hxl
        clear hxs hxl hy0 hy1 hy2 hy3 hy4 hy5 hy6
        have HHD := Lib.hid (show HeadAt (k + 1) (D ++ sep ++ code (vlqOf g) ++ code (vlqOf p1) ++ code (vlqOf p2) ++ code (vlqOf p3)) (none) from head_next (X := code (vlqOf g) ++ code (vlqOf p1) ++ code (vlqOf p2) ++ code (vlqOf p3)) HRD.out.head HSEP.out (by have hc0 := HC0.out; have hc1 := HC1.out; have hc2 := HC2.out; have hc3 := HC3.out; (try simp only [List.length_append]); omega) (codes_wf ⟨[vlqOf g, vlqOf p1, vlqOf p2, vlqOf p3], by simp⟩) (by first | rfl | simp only [List.append_assoc]) (fun v hv => by cases hv) (by have h9 := (chunk_src HRD.out.head HSEP.out ⟨g0, g1⟩ ⟨p10, p11⟩ ⟨p20, p21⟩ ⟨p30, p31⟩); simpa only [seg4, List.append_assoc] using h9))
        go_wp2_with fail
        go_roundw
        case rel =>
          refine ⟨k + 1, _, D ++ sep ++ code (vlqOf g) ++ code (vlqOf p1) ++ code (vlqOf p2) ++ code (vlqOf p3), none, _, _, _, _, _, _, rfl, rfl, rfl, rfl, rfl, rfl, rfl, rfl, by go_num, ?_⟩
          exact rnd_of (by omega) HHD.out (((((((HMA4.out.store _ _).store _ _).store _ _).store _ _).store _ _).store _ _).store _ _) ⟨by omega, by omega⟩ ⟨by omega, by omega⟩ ⟨by omega, by omega⟩ ⟨by omega, by omega⟩ ⟨by omega, by omega⟩ ⟨by omega, by omega⟩
        case measure => simp [intOf]; omega
      · skip
        obtain ⟨db0, do0, da0, dl0, dc0⟩ := HD.out.read (5 * k) (by omega)
        have gs : Sm (zs.getD (5 * k) 0) := HS.out _ (by have hl := HD.out.2.2.1; rw [getD_at _ _ (by omega)]; exact List.getElem_mem _)
        generalize zs.getD (5 * k) 0 = g at dc0 gs
        obtain ⟨g0, g1⟩ := gs
        obtain ⟨db1, do1, da1, dl1, dc1⟩ := HD.out.read (5 * k + 1) (by omega)
        have p1s : Sm (zs.getD (5 * k + 1) 0) := HS.out _ (by have hl := HD.out.2.2.1; rw [getD_at _ _ (by omega)]; exact List.getElem_mem _)
        generalize zs.getD (5 * k + 1) 0 = p1 at dc1 p1s
        obtain ⟨p10, p11⟩ := p1s
        obtain ⟨db2, do2, da2, dl2, dc2⟩ := HD.out.read (5 * k + 2) (by omega)
        have p2s : Sm (zs.getD (5 * k + 2) 0) := HS.out _ (by have hl := HD.out.2.2.1; rw [getD_at _ _ (by omega)]; exact List.getElem_mem _)
        generalize zs.getD (5 * k + 2) 0 = p2 at dc2 p2s
        obtain ⟨p20, p21⟩ := p2s
        obtain ⟨db3, do3, da3, dl3, dc3⟩ := HD.out.read (5 * k + 3) (by omega)
        have p3s : Sm (zs.getD (5 * k + 3) 0) := HS.out _ (by have hl := HD.out.2.2.1; rw [getD_at _ _ (by omega)]; exact List.getElem_mem _)
        generalize zs.getD (5 * k + 3) 0 = p3 at dc3 p3s
        obtain ⟨p30, p31⟩ := p3s
        obtain ⟨db4, do4, da4, dl4, dc4⟩ := HD.out.read (5 * k + 4) (by omega)
        have p4s : Sm (zs.getD (5 * k + 4) 0) := HS.out _ (by have hl := HD.out.2.2.1; rw [getD_at _ _ (by omega)]; exact List.getElem_mem _)
        generalize zs.getD (5 * k + 4) 0 = p4 at dc4 p4s
        obtain ⟨p40, p41⟩ := p4s
        obtain ⟨rfl, rfl⟩ : db0 = db1 ∧ do0 = do1 := by have h9 := da0.symm.trans da1; injection h9 with h9; injection h9 with h9 h8; exact ⟨h9, h8⟩
        obtain ⟨rfl, rfl⟩ : db0 = db2 ∧ do0 = do2 := by have h9 := da0.symm.trans da2; injection h9 with h9; injection h9 with h9 h8; exact ⟨h9, h8⟩
        obtain ⟨rfl, rfl⟩ : db0 = db3 ∧ do0 = do3 := by have h9 := da0.symm.trans da3; injection h9 with h9; injection h9 with h9 h8; exact ⟨h9, h8⟩
        obtain ⟨rfl, rfl⟩ : db0 = db4 ∧ do0 = do4 := by have h9 := da0.symm.trans da4; injection h9 with h9; injection h9 with h9 h8; exact ⟨h9, h8⟩
        subst da0
        have HDL0 := Lib.hid dl0
        have HDC0 := Lib.hid dc0
        have HC0 := Lib.hid (code_le3 g g0 g1)
        have HDC1 := Lib.hid dc1
        have HC1 := Lib.hid (code_le3 p1 p10 p11)
        have HDC2 := Lib.hid dc2
        have HC2 := Lib.hid (code_le3 p2 p20 p21)
        have HDC3 := Lib.hid dc3
        have HC3 := Lib.hid (code_le3 p3 p30 p31)
        have HDC4 := Lib.hid dc4
        have HC4 := Lib.hid (code_le3 p4 p40 p41)
        clear dl0 dc0 dl1 dc1 dl2 dc2 dl3 dc3 dl4 dc4 da1 da2 da3 da4
        have HSL := Lib.hid (show (D ++ sep).length ≤ 20 * k + 1 by have h1 := HRD.out.head.1; rw [List.length_append]; rcases HSEP.out with rfl | rfl | ⟨rfl, _⟩ <;> simp <;> omega)
        have HMA0 := HMD
        have e0 := (HMA0.out.bel.cell (p := ⟨db0, do0 + (5 * k), none⟩) HDL0.out).trans HDC0.out
        have HLn0 := Lib.hid (show (D ++ sep).length ≤ 100000000 by have h0 := HSL.out; have hm := HM1.out;  simp only [List.length_append] at h0 ⊢; omega)
        have HE0 := Lib.hid (enc13 (w.heap.size + 1) _ (D ++ sep) g _ HMA0.out.hB HMA0.out.own HLn0.out (by omega) (by omega))
        go_upto_region 30 with (go_at_call 13; (with_reducible refine HE0.out.mono ?_); rintro e wq0 ⟨vq0, rfl, ho, hb⟩; have HMA1 := Lib.hid (HMA0.out.call ho hb); clear ho hb)
        clear HE0
        clear e0
        have e1 := (HMA1.out.bel.cell (p := ⟨db0, do0 + (5 * k + 1), none⟩) HDL0.out).trans HDC1.out
        have e2 := (HMA1.out.bel.cell (p := ⟨db0, do0 + (5 * k + 2), none⟩) HDL0.out).trans HDC2.out
        have e3 := (HMA1.out.bel.cell (p := ⟨db0, do0 + (5 * k + 3), none⟩) HDL0.out).trans HDC3.out
        have HLn1 := Lib.hid (show (D ++ sep ++ code (vlqOf g)).length ≤ 100000000 by have h0 := HSL.out; have hm := HM1.out; have hc0 := HC0.out; simp only [List.length_append] at h0 ⊢; omega)
        have HE1 := Lib.hid (enc13 (w.heap.size + 1) _ (D ++ sep ++ code (vlqOf g)) p1 _ HMA1.out.hB HMA1.out.own HLn1.out (by omega) (by omega))
        go_upto_region 34 with (go_at_call 13; (with_reducible refine HE1.out.mono ?_); rintro e wq1 ⟨vq1, rfl, ho, hb⟩; have HMA2 := Lib.hid (HMA1.out.call ho hb); clear ho hb)
        clear HE1
        have HLn2 := Lib.hid (show (D ++ sep ++ code (vlqOf g) ++ code (vlqOf p1)).length ≤ 100000000 by have h0 := HSL.out; have hm := HM1.out; have hc0 := HC0.out; have hc1 := HC1.out; simp only [List.length_append] at h0 ⊢; omega)
        have HE2 := Lib.hid (enc13 (w.heap.size + 1) _ (D ++ sep ++ code (vlqOf g) ++ code (vlqOf p1)) p2 _ HMA2.out.hB HMA2.out.own HLn2.out (by omega) (by omega))
        go_upto_region 35 with (go_at_call 13; (with_reducible refine HE2.out.mono ?_); rintro e wq2 ⟨vq2, rfl, ho, hb⟩; have HMA3 := Lib.hid (HMA2.out.call ho hb); clear ho hb)
        clear HE2
        have HLn3 := Lib.hid (show (D ++ sep ++ code (vlqOf g) ++ code (vlqOf p1) ++ code (vlqOf p2)).length ≤ 100000000 by have h0 := HSL.out; have hm := HM1.out; have hc0 := HC0.out; have hc1 := HC1.out; have hc2 := HC2.out; simp only [List.length_append] at h0 ⊢; omega)
        have HE3 := Lib.hid (enc13 (w.heap.size + 1) _ (D ++ sep ++ code (vlqOf g) ++ code (vlqOf p1) ++ code (vlqOf p2)) p3 _ HMA3.out.hB HMA3.out.own HLn3.out (by omega) (by omega))
        go_upto_region 36 with (go_at_call 13; (with_reducible refine HE3.out.mono ?_); rintro e wq3 ⟨vq3, rfl, ho, hb⟩; have HMA4 := Lib.hid (HMA3.out.call ho hb); clear ho hb)
        clear HE3
        clear e1 e2 e3
        obtain ⟨A4, cc4, hv4⟩ := HMA4.out.own.form
        obtain ⟨n4, hn4⟩ : ∃ n4, (D ++ sep ++ code (vlqOf g) ++ code (vlqOf p1) ++ code (vlqOf p2) ++ code (vlqOf p3)).length = n4 := ⟨_, rfl⟩
        rw [hn4] at hv4
        subst hv4
        have HN4 := Lib.hid hn4
        clear hn4
        go_upto_region 43 with fail
        have e4 := (HMA4.out.bel.cell (p := ⟨db0, do0 + (5 * k + 4), none⟩) HDL0.out).trans HDC4.out
        have HLn4 := Lib.hid (show (D ++ sep ++ code (vlqOf g) ++ code (vlqOf p1) ++ code (vlqOf p2) ++ code (vlqOf p3)).length ≤ 100000000 by have h0 := HSL.out; have hm := HM1.out; have hc0 := HC0.out; have hc1 := HC1.out; have hc2 := HC2.out; have hc3 := HC3.out; simp only [List.length_append] at h0 ⊢; omega)
        have HE4 := Lib.hid (enc13 (w.heap.size + 1) _ (D ++ sep ++ code (vlqOf g) ++ code (vlqOf p1) ++ code (vlqOf p2) ++ code (vlqOf p3)) p4 _ HMA4.out.hB HMA4.out.own HLn4.out (by omega) (by omega))
        go_upto_region 47 with (go_at_call 13; (with_reducible refine HE4.out.mono ?_); rintro e wq4 ⟨vq4, rfl, ho, hb⟩; have HMA5 := Lib.hid (HMA4.out.call ho hb); clear ho hb)
        clear HE4
        clear e4
        obtain ⟨xs, hxs, hxl⟩ := HMA5.out.seg
        obtain ⟨y0, hy0⟩ : ∃ y, xs[k * 7]? = some y := ⟨xs[k * 7]'(by omega), List.getElem?_eq_getElem _⟩
        have r0 := hxs.at_ hy0
        have f0 := hxs.frozen (k * 7)
        obtain ⟨y1, hy1⟩ : ∃ y, xs[k * 7 + 1]? = some y := ⟨xs[k * 7 + 1]'(by omega), List.getElem?_eq_getElem _⟩
        have r1 := hxs.at_ hy1
        have f1 := hxs.frozen (k * 7 + 1)
        obtain ⟨y2, hy2⟩ : ∃ y, xs[k * 7 + 2]? = some y := ⟨xs[k * 7 + 2]'(by omega), List.getElem?_eq_getElem _⟩
        have r2 := hxs.at_ hy2
        have f2 := hxs.frozen (k * 7 + 2)
        obtain ⟨y3, hy3⟩ : ∃ y, xs[k * 7 + 3]? = some y := ⟨xs[k * 7 + 3]'(by omega), List.getElem?_eq_getElem _⟩
        have r3 := hxs.at_ hy3
        have f3 := hxs.frozen (k * 7 + 3)
        obtain ⟨y4, hy4⟩ : ∃ y, xs[k * 7 + 4]? = some y := ⟨xs[k * 7 + 4]'(by omega), List.getElem?_eq_getElem _⟩
        have r4 := hxs.at_ hy4
        have f4 := hxs.frozen (k * 7 + 4)
        obtain ⟨y5, hy5⟩ : ∃ y, xs[k * 7 + 5]? = some y := ⟨xs[k * 7 + 5]'(by omega), List.getElem?_eq_getElem _⟩
        have r5 := hxs.at_ hy5
        have f5 := hxs.frozen (k * 7 + 5)
        obtain ⟨y6, hy6⟩ : ∃ y, xs[k * 7 + 6]? = some y := ⟨xs[k * 7 + 6]'(by omega), List.getElem?_eq_getElem _⟩
        have r6 := hxs.at_ hy6
        have f6 := hxs.frozen (k * 7 + 6)
        have HXS := Lib.hid hxs
        have HXL := Lib.hid hxl
        clear hxs hxl hy0 hy1 hy2 hy3 hy4 hy5 hy6
        have HHD := Lib.hid (show HeadAt (k + 1) (D ++ sep ++ code (vlqOf g) ++ code (vlqOf p1) ++ code (vlqOf p2) ++ code (vlqOf p3) ++ code (vlqOf p4)) (some n4) from head_next (X := code (vlqOf g) ++ code (vlqOf p1) ++ code (vlqOf p2) ++ code (vlqOf p3) ++ code (vlqOf p4)) HRD.out.head HSEP.out (by have hc0 := HC0.out; have hc1 := HC1.out; have hc2 := HC2.out; have hc3 := HC3.out; have hc4 := HC4.out; (try simp only [List.length_append]); omega) (codes_wf ⟨[vlqOf g, vlqOf p1, vlqOf p2, vlqOf p3, vlqOf p4], by simp⟩) (by first | rfl | simp only [List.append_assoc]) (fun v hv => by injection hv with hv; have h9 := HN4.out; have h8 := HSL.out; have hc0 := HC0.out; have hc1 := HC1.out; have hc2 := HC2.out; have hc3 := HC3.out; have hc4 := HC4.out; simp only [List.length_append] at h9 h8; omega) (by have h9 := (chunk_src HRD.out.head HSEP.out ⟨g0, g1⟩ ⟨p10, p11⟩ ⟨p20, p21⟩ ⟨p30, p31⟩).name p4 ⟨p40, p41⟩; rw [show (D ++ sep ++ seg4 g p1 p2 p3).length = n4 by rw [← HN4.out]; simp only [seg4, List.append_assoc]] at h9; simpa only [seg4, List.append_assoc] using h9))
        go_wp2_with fail
        go_roundw
        case rel =>
          refine ⟨k + 1, _, D ++ sep ++ code (vlqOf g) ++ code (vlqOf p1) ++ code (vlqOf p2) ++ code (vlqOf p3) ++ code (vlqOf p4), some n4, _, _, _, _, _, _, rfl, rfl, rfl, rfl, rfl, rfl, rfl, rfl, by go_num, ?_⟩
          exact rnd_of (by omega) HHD.out (((((((HMA5.out.store _ _).store _ _).store _ _).store _ _).store _ _).store _ _).store _ _) ⟨by omega, by omega⟩ ⟨by omega, by omega⟩ ⟨by omega, by omega⟩ ⟨by omega, by omega⟩ ⟨by omega, by omega⟩ ⟨by omega, by omega⟩
        case measure => simp [intOf]; omega
    · have tk0 : ((k : Int) == 0) = false := by simp; omega
      have H0 := Lib.hid h0
      clear h0
      cases b4
      · skip
        obtain ⟨db0, do0, da0, dl0, dc0⟩ := HD.out.read (5 * k) (by omega)
        have gs : Sm (zs.getD (5 * k) 0) := HS.out _ (by have hl := HD.out.2.2.1; rw [getD_at _ _ (by omega)]; exact List.getElem_mem _)
        generalize zs.getD (5 * k) 0 = g at dc0 gs
        obtain ⟨g0, g1⟩ := gs
        subst da0
        have HDL0 := Lib.hid dl0
        have HDC0 := Lib.hid dc0
        have HC0 := Lib.hid (code_le3 g g0 g1)
        clear dl0 dc0
        have HSL := Lib.hid (show (D ++ sep).length ≤ 20 * k + 1 by have h1 := HRD.out.head.1; rw [List.length_append]; rcases HSEP.out with rfl | rfl | ⟨rfl, _⟩ <;> simp <;> omega)
        have HMA0 := HMD
        have e0 := (HMA0.out.bel.cell (p := ⟨db0, do0 + (5 * k), none⟩) HDL0.out).trans HDC0.out
        have HLn0 := Lib.hid (show (D ++ sep).length ≤ 100000000 by have h0 := HSL.out; have hm := HM1.out;  simp only [List.length_append] at h0 ⊢; omega)
        have HE0 := Lib.hid (enc13 (w.heap.size + 1) _ (D ++ sep) g _ HMA0.out.hB HMA0.out.own HLn0.out (by omega) (by omega))
        go_upto_region 47 with (go_at_call 13; (with_reducible refine HE0.out.mono ?_); rintro e wq0 ⟨vq0, rfl, ho, hb⟩; have HMA1 := Lib.hid (HMA0.out.call ho hb); clear ho hb)
        clear HE0
        clear e0
        obtain ⟨xs, hxs, hxl⟩ := HMA1.out.seg
        obtain ⟨y0, hy0⟩ : ∃ y, xs[k * 7]? = some y := ⟨xs[k * 7]'(by omega), List.getElem?_eq_getElem _⟩
        have r0 := hxs.at_ hy0
        have f0 := hxs.frozen (k * 7)
        obtain ⟨y1, hy1⟩ : ∃ y, xs[k * 7 + 1]? = some y := ⟨xs[k * 7 + 1]'(by omega), List.getElem?_eq_getElem _⟩
        have r1 := hxs.at_ hy1
        have f1 := hxs.frozen (k * 7 + 1)
        obtain ⟨y2, hy2⟩ : ∃ y, xs[k * 7 + 2]? = some y := ⟨xs[k * 7 + 2]'(by omega), List.getElem?_eq_getElem _⟩
        have r2 := hxs.at_ hy2
        have f2 := hxs.frozen (k * 7 + 2)
        obtain ⟨y3, hy3⟩ : ∃ y, xs[k * 7 + 3]? = some y := ⟨xs[k * 7 + 3]'(by omega), List.getElem?_eq_getElem _⟩
        have r3 := hxs.at_ hy3
        have f3 := hxs.frozen (k * 7 + 3)
        obtain ⟨y4, hy4⟩ : ∃ y, xs[k * 7 + 4]? = some y := ⟨xs[k * 7 + 4]'(by omega), List.getElem?_eq_getElem _⟩
        have r4 := hxs.at_ hy4
        have f4 := hxs.frozen (k * 7 + 4)
        obtain ⟨y5, hy5⟩ : ∃ y, xs[k * 7 + 5]? = some y := ⟨xs[k * 7 + 5]'(by omega), List.getElem?_eq_getElem _⟩
        have r5 := hxs.at_ hy5
        have f5 := hxs.frozen (k * 7 + 5)
        obtain ⟨y6, hy6⟩ : ∃ y, xs[k * 7 + 6]? = some y := ⟨xs[k * 7 + 6]'(by omega), List.getElem?_eq_getElem _⟩
        have r6 := hxs.at_ hy6
        have f6 := hxs.frozen (k * 7 + 6)
        have HXS := Lib.hid hxs
        have HXL := Lib.hid hxl
        clear hxs hxl hy0 hy1 hy2 hy3 hy4 hy5 hy6
        have HHD := Lib.hid (show HeadAt (k + 1) (D ++ sep ++ code (vlqOf g)) (o) from head_next (X := code (vlqOf g)) HRD.out.head HSEP.out (by have hc0 := HC0.out; (try simp only [List.length_append]); omega) (codes_wf ⟨[vlqOf g], by simp⟩) (by first | rfl | simp only [List.append_assoc]) (fun v hv => by have h9 := HRD.out.head.2.1 v hv; omega) (by have h9 := chunk_any HRD.out.head (by have := H0.out; omega) (sep ++ code (vlqOf g)); rwa [← List.append_assoc] at h9))
        go_wp2_with fail
        go_roundw
        case rel =>
          refine ⟨k + 1, _, D ++ sep ++ code (vlqOf g), o, _, _, _, _, _, _, rfl, rfl, rfl, rfl, rfl, rfl, rfl, rfl, by go_num, ?_⟩
          exact rnd_of (by omega) HHD.out (((((((HMA1.out.store _ _).store _ _).store _ _).store _ _).store _ _).store _ _).store _ _) ⟨by omega, by omega⟩ ⟨by omega, by omega⟩ ⟨by omega, by omega⟩ ⟨by omega, by omega⟩ ⟨by omega, by omega⟩ ⟨by omega, by omega⟩
        case measure => simp [intOf]; omega
      · cases b2
        · skip
          obtain ⟨db0, do0, da0, dl0, dc0⟩ := HD.out.read (5 * k) (by omega)
          have gs : Sm (zs.getD (5 * k) 0) := HS.out _ (by have hl := HD.out.2.2.1; rw [getD_at _ _ (by omega)]; exact List.getElem_mem _)
          generalize zs.getD (5 * k) 0 = g at dc0 gs
          obtain ⟨g0, g1⟩ := gs
          obtain ⟨db1, do1, da1, dl1, dc1⟩ := HD.out.read (5 * k + 1) (by omega)
          have p1s : Sm (zs.getD (5 * k + 1) 0) := HS.out _ (by have hl := HD.out.2.2.1; rw [getD_at _ _ (by omega)]; exact List.getElem_mem _)
          generalize zs.getD (5 * k + 1) 0 = p1 at dc1 p1s
          obtain ⟨p10, p11⟩ := p1s
          obtain ⟨db2, do2, da2, dl2, dc2⟩ := HD.out.read (5 * k + 2) (by omega)
          have p2s : Sm (zs.getD (5 * k + 2) 0) := HS.out _ (by have hl := HD.out.2.2.1; rw [getD_at _ _ (by omega)]; exact List.getElem_mem _)
          generalize zs.getD (5 * k + 2) 0 = p2 at dc2 p2s
          obtain ⟨p20, p21⟩ := p2s
          obtain ⟨db3, do3, da3, dl3, dc3⟩ := HD.out.read (5 * k + 3) (by omega)
          have p3s : Sm (zs.getD (5 * k + 3) 0) := HS.out _ (by have hl := HD.out.2.2.1; rw [getD_at _ _ (by omega)]; exact List.getElem_mem _)
          generalize zs.getD (5 * k + 3) 0 = p3 at dc3 p3s
          obtain ⟨p30, p31⟩ := p3s
          obtain ⟨rfl, rfl⟩ : db0 = db1 ∧ do0 = do1 := by have h9 := da0.symm.trans da1; injection h9 with h9; injection h9 with h9 h8; exact ⟨h9, h8⟩
          obtain ⟨rfl, rfl⟩ : db0 = db2 ∧ do0 = do2 := by have h9 := da0.symm.trans da2; injection h9 with h9; injection h9 with h9 h8; exact ⟨h9, h8⟩
          obtain ⟨rfl, rfl⟩ : db0 = db3 ∧ do0 = do3 := by have h9 := da0.symm.trans da3; injection h9 with h9; injection h9 with h9 h8; exact ⟨h9, h8⟩
          subst da0
          have HDL0 := Lib.hid dl0
          have HDC0 := Lib.hid dc0
          have HC0 := Lib.hid (code_le3 g g0 g1)
          have HDC1 := Lib.hid dc1
          have HC1 := Lib.hid (code_le3 p1 p10 p11)
          have HDC2 := Lib.hid dc2
          have HC2 := Lib.hid (code_le3 p2 p20 p21)
          have HDC3 := Lib.hid dc3
          have HC3 := Lib.hid (code_le3 p3 p30 p31)
          clear dl0 dc0 dl1 dc1 dl2 dc2 dl3 dc3 da1 da2 da3
          have HSL := Lib.hid (show (D ++ sep).length ≤ 20 * k + 1 by have h1 := HRD.out.head.1; rw [List.length_append]; rcases HSEP.out with rfl | rfl | ⟨rfl, _⟩ <;> simp <;> omega)
          have HMA0 := HMD
          have e0 := (HMA0.out.bel.cell (p := ⟨db0, do0 + (5 * k), none⟩) HDL0.out).trans HDC0.out
          have HLn0 := Lib.hid (show (D ++ sep).length ≤ 100000000 by have h0 := HSL.out; have hm := HM1.out;  simp only [List.length_append] at h0 ⊢; omega)
          have HE0 := Lib.hid (enc13 (w.heap.size + 1) _ (D ++ sep) g _ HMA0.out.hB HMA0.out.own HLn0.out (by omega) (by omega))
          go_upto_region 30 with (go_at_call 13; (with_reducible refine HE0.out.mono ?_); rintro e wq0 ⟨vq0, rfl, ho, hb⟩; have HMA1 := Lib.hid (HMA0.out.call ho hb); clear ho hb)
          clear HE0
          clear e0
          have e1 := (HMA1.out.bel.cell (p := ⟨db0, do0 + (5 * k + 1), none⟩) HDL0.out).trans HDC1.out
          have e2 := (HMA1.out.bel.cell (p := ⟨db0, do0 + (5 * k + 2), none⟩) HDL0.out).trans HDC2.out
          have e3 := (HMA1.out.bel.cell (p := ⟨db0, do0 + (5 * k + 3), none⟩) HDL0.out).trans HDC3.out
          have HLn1 := Lib.hid (show (D ++ sep ++ code (vlqOf g)).length ≤ 100000000 by have h0 := HSL.out; have hm := HM1.out; have hc0 := HC0.out; simp only [List.length_append] at h0 ⊢; omega)
          have HE1 := Lib.hid (enc13 (w.heap.size + 1) _ (D ++ sep ++ code (vlqOf g)) p1 _ HMA1.out.hB HMA1.out.own HLn1.out (by omega) (by omega))
          go_upto_region 34 with (go_at_call 13; (with_reducible refine HE1.out.mono ?_); rintro e wq1 ⟨vq1, rfl, ho, hb⟩; have HMA2 := Lib.hid (HMA1.out.call ho hb); clear ho hb)
          clear HE1
          have HLn2 := Lib.hid (show (D ++ sep ++ code (vlqOf g) ++ code (vlqOf p1)).length ≤ 100000000 by have h0 := HSL.out; have hm := HM1.out; have hc0 := HC0.out; have hc1 := HC1.out; simp only [List.length_append] at h0 ⊢; omega)
          have HE2 := Lib.hid (enc13 (w.heap.size + 1) _ (D ++ sep ++ code (vlqOf g) ++ code (vlqOf p1)) p2 _ HMA2.out.hB HMA2.out.own HLn2.out (by omega) (by omega))
          go_upto_region 35 with (go_at_call 13; (with_reducible refine HE2.out.mono ?_); rintro e wq2 ⟨vq2, rfl, ho, hb⟩; have HMA3 := Lib.hid (HMA2.out.call ho hb); clear ho hb)
          clear HE2
          have HLn3 := Lib.hid (show (D ++ sep ++ code (vlqOf g) ++ code (vlqOf p1) ++ code (vlqOf p2)).length ≤ 100000000 by have h0 := HSL.out; have hm := HM1.out; have hc0 := HC0.out; have hc1 := HC1.out; have hc2 := HC2.out; simp only [List.length_append] at h0 ⊢; omega)
          have HE3 := Lib.hid (enc13 (w.heap.size + 1) _ (D ++ sep ++ code (vlqOf g) ++ code (vlqOf p1) ++ code (vlqOf p2)) p3 _ HMA3.out.hB HMA3.out.own HLn3.out (by omega) (by omega))
          go_upto_region 36 with (go_at_call 13; (with_reducible refine HE3.out.mono ?_); rintro e wq3 ⟨vq3, rfl, ho, hb⟩; have HMA4 := Lib.hid (HMA3.out.call ho hb); clear ho hb)
          clear HE3
          clear e1 e2 e3
          go_upto_region 47 with fail
          obtain ⟨xs, hxs, hxl⟩ := HMA4.out.seg
          obtain ⟨y0, hy0⟩ : ∃ y, xs[k * 7]? = some y := ⟨xs[k * 7]'(by omega), List.getElem?_eq_getElem _⟩
          have r0 := hxs.at_ hy0
          have f0 := hxs.frozen (k * 7)
          obtain ⟨y1, hy1⟩ : ∃ y, xs[k * 7 + 1]? = some y := ⟨xs[k * 7 + 1]'(by omega), List.getElem?_eq_getElem _⟩
          have r1 := hxs.at_ hy1
          have f1 := hxs.frozen (k * 7 + 1)
          obtain ⟨y2, hy2⟩ : ∃ y, xs[k * 7 + 2]? = some y := ⟨xs[k * 7 + 2]'(by omega), List.getElem?_eq_getElem _⟩
          have r2 := hxs.at_ hy2
          have f2 := hxs.frozen (k * 7 + 2)
          obtain ⟨y3, hy3⟩ : ∃ y, xs[k * 7 + 3]? = some y := ⟨xs[k * 7 + 3]'(by omega), List.getElem?_eq_getElem _⟩
          have r3 := hxs.at_ hy3
          have f3 := hxs.frozen (k * 7 + 3)
          obtain ⟨y4, hy4⟩ : ∃ y, xs[k * 7 + 4]? = some y := ⟨xs[k * 7 + 4]'(by omega), List.getElem?_eq_getElem _⟩
          have r4 := hxs.at_ hy4
          have f4 := hxs.frozen (k * 7 + 4)
          obtain ⟨y5, hy5⟩ : ∃ y, xs[k * 7 + 5]? = some y := ⟨xs[k * 7 + 5]'(by omega), List.getElem?_eq_getElem _⟩
          have r5 := hxs.at_ hy5
          have f5 := hxs.frozen (k * 7 + 5)
          obtain ⟨y6, hy6⟩ : ∃ y, xs[k * 7 + 6]? = some y := ⟨xs[k * 7 + 6]'(by omega), List.getElem?_eq_getElem _⟩
          have r6 := hxs.at_ hy6
          have f6 := hxs.frozen (k * 7 + 6)
          have HXS := Lib.hid hxs
          have HXL := Lib.hid hxl
          clear hxs hxl hy0 hy1 hy2 hy3 hy4 hy5 hy6
          have HHD := Lib.hid (show HeadAt (k + 1) (D ++ sep ++ code (vlqOf g) ++ code (vlqOf p1) ++ code (vlqOf p2) ++ code (vlqOf p3)) (o) from head_next (X := code (vlqOf g) ++ code (vlqOf p1) ++ code (vlqOf p2) ++ code (vlqOf p3)) HRD.out.head HSEP.out (by have hc0 := HC0.out; have hc1 := HC1.out; have hc2 := HC2.out; have hc3 := HC3.out; (try simp only [List.length_append]); omega) (codes_wf ⟨[vlqOf g, vlqOf p1, vlqOf p2, vlqOf p3], by simp⟩) (by first | rfl | simp only [List.append_assoc]) (fun v hv => by have h9 := HRD.out.head.2.1 v hv; omega) (by have h9 := (chunk_src HRD.out.head HSEP.out ⟨g0, g1⟩ ⟨p10, p11⟩ ⟨p20, p21⟩ ⟨p30, p31⟩); simpa only [seg4, List.append_assoc] using h9))
          go_wp2_with fail
          go_roundw
          case rel =>
            refine ⟨k + 1, _, D ++ sep ++ code (vlqOf g) ++ code (vlqOf p1) ++ code (vlqOf p2) ++ code (vlqOf p3), o, _, _, _, _, _, _, rfl, rfl, rfl, rfl, rfl, rfl, rfl, rfl, by go_num, ?_⟩
            exact rnd_of (by omega) HHD.out (((((((HMA4.out.store _ _).store _ _).store _ _).store _ _).store _ _).store _ _).store _ _) ⟨by omega, by omega⟩ ⟨by omega, by omega⟩ ⟨by omega, by omega⟩ ⟨by omega, by omega⟩ ⟨by omega, by omega⟩ ⟨by omega, by omega⟩
          case measure => simp [intOf]; omega
        · rcases o with _ | nv
          · have hfn : fnOf none = -1 := rfl
            obtain ⟨db0, do0, da0, dl0, dc0⟩ := HD.out.read (5 * k) (by omega)
            have gs : Sm (zs.getD (5 * k) 0) := HS.out _ (by have hl := HD.out.2.2.1; rw [getD_at _ _ (by omega)]; exact List.getElem_mem _)
            generalize zs.getD (5 * k) 0 = g at dc0 gs
            obtain ⟨g0, g1⟩ := gs
            obtain ⟨db1, do1, da1, dl1, dc1⟩ := HD.out.read (5 * k + 1) (by omega)
            have p1s : Sm (zs.getD (5 * k + 1) 0) := HS.out _ (by have hl := HD.out.2.2.1; rw [getD_at _ _ (by omega)]; exact List.getElem_mem _)
            generalize zs.getD (5 * k + 1) 0 = p1 at dc1 p1s
            obtain ⟨p10, p11⟩ := p1s
            obtain ⟨db2, do2, da2, dl2, dc2⟩ := HD.out.read (5 * k + 2) (by omega)
            have p2s : Sm (zs.getD (5 * k + 2) 0) := HS.out _ (by have hl := HD.out.2.2.1; rw [getD_at _ _ (by omega)]; exact List.getElem_mem _)
            generalize zs.getD (5 * k + 2) 0 = p2 at dc2 p2s
            obtain ⟨p20, p21⟩ := p2s
            obtain ⟨db3, do3, da3, dl3, dc3⟩ := HD.out.read (5 * k + 3) (by omega)
            have p3s : Sm (zs.getD (5 * k + 3) 0) := HS.out _ (by have hl := HD.out.2.2.1; rw [getD_at _ _ (by omega)]; exact List.getElem_mem _)
            generalize zs.getD (5 * k + 3) 0 = p3 at dc3 p3s
            obtain ⟨p30, p31⟩ := p3s
            obtain ⟨db4, do4, da4, dl4, dc4⟩ := HD.out.read (5 * k + 4) (by omega)
            have p4s : Sm (zs.getD (5 * k + 4) 0) := HS.out _ (by have hl := HD.out.2.2.1; rw [getD_at _ _ (by omega)]; exact List.getElem_mem _)
            generalize zs.getD (5 * k + 4) 0 = p4 at dc4 p4s
            obtain ⟨p40, p41⟩ := p4s
            obtain ⟨rfl, rfl⟩ : db0 = db1 ∧ do0 = do1 := by have h9 := da0.symm.trans da1; injection h9 with h9; injection h9 with h9 h8; exact ⟨h9, h8⟩
            obtain ⟨rfl, rfl⟩ : db0 = db2 ∧ do0 = do2 := by have h9 := da0.symm.trans da2; injection h9 with h9; injection h9 with h9 h8; exact ⟨h9, h8⟩
            obtain ⟨rfl, rfl⟩ : db0 = db3 ∧ do0 = do3 := by have h9 := da0.symm.trans da3; injection h9 with h9; injection h9 with h9 h8; exact ⟨h9, h8⟩
            obtain ⟨rfl, rfl⟩ : db0 = db4 ∧ do0 = do4 := by have h9 := da0.symm.trans da4; injection h9 with h9; injection h9 with h9 h8; exact ⟨h9, h8⟩
            subst da0
            have HDL0 := Lib.hid dl0
            have HDC0 := Lib.hid dc0
            have HC0 := Lib.hid (code_le3 g g0 g1)
            have HDC1 := Lib.hid dc1
            have HC1 := Lib.hid (code_le3 p1 p10 p11)
            have HDC2 := Lib.hid dc2
            have HC2 := Lib.hid (code_le3 p2 p20 p21)
            have HDC3 := Lib.hid dc3
            have HC3 := Lib.hid (code_le3 p3 p30 p31)
            have HDC4 := Lib.hid dc4
            have HC4 := Lib.hid (code_le3 p4 p40 p41)
            clear dl0 dc0 dl1 dc1 dl2 dc2 dl3 dc3 dl4 dc4 da1 da2 da3 da4
            have HSL := Lib.hid (show (D ++ sep).length ≤ 20 * k + 1 by have h1 := HRD.out.head.1; rw [List.length_append]; rcases HSEP.out with rfl | rfl | ⟨rfl, _⟩ <;> simp <;> omega)
            have HMA0 := HMD
            have e0 := (HMA0.out.bel.cell (p := ⟨db0, do0 + (5 * k), none⟩) HDL0.out).trans HDC0.out
            have HLn0 := Lib.hid (show (D ++ sep).length ≤ 100000000 by have h0 := HSL.out; have hm := HM1.out;  simp only [List.length_append] at h0 ⊢; omega)
            have HE0 := Lib.hid (enc13 (w.heap.size + 1) _ (D ++ sep) g _ HMA0.out.hB HMA0.out.own HLn0.out (by omega) (by omega))
            go_upto_region 30 with (go_at_call 13; (with_reducible refine HE0.out.mono ?_); rintro e wq0 ⟨vq0, rfl, ho, hb⟩; have HMA1 := Lib.hid (HMA0.out.call ho hb); clear ho hb)
            clear HE0
            clear e0
            have e1 := (HMA1.out.bel.cell (p := ⟨db0, do0 + (5 * k + 1), none⟩) HDL0.out).trans HDC1.out
            have e2 := (HMA1.out.bel.cell (p := ⟨db0, do0 + (5 * k + 2), none⟩) HDL0.out).trans HDC2.out
            have e3 := (HMA1.out.bel.cell (p := ⟨db0, do0 + (5 * k + 3), none⟩) HDL0.out).trans HDC3.out
            have HLn1 := Lib.hid (show (D ++ sep ++ code (vlqOf g)).length ≤ 100000000 by have h0 := HSL.out; have hm := HM1.out; have hc0 := HC0.out; simp only [List.length_append] at h0 ⊢; omega)
            have HE1 := Lib.hid (enc13 (w.heap.size + 1) _ (D ++ sep ++ code (vlqOf g)) p1 _ HMA1.out.hB HMA1.out.own HLn1.out (by omega) (by omega))
            go_upto_region 34 with (go_at_call 13; (with_reducible refine HE1.out.mono ?_); rintro e wq1 ⟨vq1, rfl, ho, hb⟩; have HMA2 := Lib.hid (HMA1.out.call ho hb); clear ho hb)
            clear HE1
            have HLn2 := Lib.hid (show (D ++ sep ++ code (vlqOf g) ++ code (vlqOf p1)).length ≤ 100000000 by have h0 := HSL.out; have hm := HM1.out; have hc0 := HC0.out; have hc1 := HC1.out; simp only [List.length_append] at h0 ⊢; omega)
            have HE2 := Lib.hid (enc13 (w.heap.size + 1) _ (D ++ sep ++ code (vlqOf g) ++ code (vlqOf p1)) p2 _ HMA2.out.hB HMA2.out.own HLn2.out (by omega) (by omega))
            go_upto_region 35 with (go_at_call 13; (with_reducible refine HE2.out.mono ?_); rintro e wq2 ⟨vq2, rfl, ho, hb⟩; have HMA3 := Lib.hid (HMA2.out.call ho hb); clear ho hb)
            clear HE2
            have HLn3 := Lib.hid (show (D ++ sep ++ code (vlqOf g) ++ code (vlqOf p1) ++ code (vlqOf p2)).length ≤ 100000000 by have h0 := HSL.out; have hm := HM1.out; have hc0 := HC0.out; have hc1 := HC1.out; have hc2 := HC2.out; simp only [List.length_append] at h0 ⊢; omega)
            have HE3 := Lib.hid (enc13 (w.heap.size + 1) _ (D ++ sep ++ code (vlqOf g) ++ code (vlqOf p1) ++ code (vlqOf p2)) p3 _ HMA3.out.hB HMA3.out.own HLn3.out (by omega) (by omega))
            go_upto_region 36 with (go_at_call 13; (with_reducible refine HE3.out.mono ?_); rintro e wq3 ⟨vq3, rfl, ho, hb⟩; have HMA4 := Lib.hid (HMA3.out.call ho hb); clear ho hb)
            clear HE3
            clear e1 e2 e3
            obtain ⟨A4, cc4, hv4⟩ := HMA4.out.own.form
            obtain ⟨n4, hn4⟩ : ∃ n4, (D ++ sep ++ code (vlqOf g) ++ code (vlqOf p1) ++ code (vlqOf p2) ++ code (vlqOf p3)).length = n4 := ⟨_, rfl⟩
            rw [hn4] at hv4
            subst hv4
            have HN4 := Lib.hid hn4
            clear hn4
            go_upto_region 43 with fail
            have e4 := (HMA4.out.bel.cell (p := ⟨db0, do0 + (5 * k + 4), none⟩) HDL0.out).trans HDC4.out
            have HLn4 := Lib.hid (show (D ++ sep ++ code (vlqOf g) ++ code (vlqOf p1) ++ code (vlqOf p2) ++ code (vlqOf p3)).length ≤ 100000000 by have h0 := HSL.out; have hm := HM1.out; have hc0 := HC0.out; have hc1 := HC1.out; have hc2 := HC2.out; have hc3 := HC3.out; simp only [List.length_append] at h0 ⊢; omega)
            have HE4 := Lib.hid (enc13 (w.heap.size + 1) _ (D ++ sep ++ code (vlqOf g) ++ code (vlqOf p1) ++ code (vlqOf p2) ++ code (vlqOf p3)) p4 _ HMA4.out.hB HMA4.out.own HLn4.out (by omega) (by omega))
            go_upto_region 47 with (go_at_call 13; (with_reducible refine HE4.out.mono ?_); rintro e wq4 ⟨vq4, rfl, ho, hb⟩; have HMA5 := Lib.hid (HMA4.out.call ho hb); clear ho hb)
            clear HE4
            clear e4
            obtain ⟨xs, hxs, hxl⟩ := HMA5.out.seg
            obtain ⟨y0, hy0⟩ : ∃ y, xs[k * 7]? = some y := ⟨xs[k * 7]'(by omega), List.getElem?_eq_getElem _⟩
            have r0 := hxs.at_ hy0
            have f0 := hxs.frozen (k * 7)
            obtain ⟨y1, hy1⟩ : ∃ y, xs[k * 7 + 1]? = some y := ⟨xs[k * 7 + 1]'(by omega), List.getElem?_eq_getElem _⟩
            have r1 := hxs.at_ hy1
            have f1 := hxs.frozen (k * 7 + 1)
            obtain ⟨y2, hy2⟩ : ∃ y, xs[k * 7 + 2]? = some y := ⟨xs[k * 7 + 2]'(by omega), List.getElem?_eq_getElem _⟩
            have r2 := hxs.at_ hy2
            have f2 := hxs.frozen (k * 7 + 2)
            obtain ⟨y3, hy3⟩ : ∃ y, xs[k * 7 + 3]? = some y := ⟨xs[k * 7 + 3]'(by omega), List.getElem?_eq_getElem _⟩
            have r3 := hxs.at_ hy3
            have f3 := hxs.frozen (k * 7 + 3)
            obtain ⟨y4, hy4⟩ : ∃ y, xs[k * 7 + 4]? = some y := ⟨xs[k * 7 + 4]'(by omega), List.getElem?_eq_getElem _⟩
            have r4 := hxs.at_ hy4
            have f4 := hxs.frozen (k * 7 + 4)
            obtain ⟨y5, hy5⟩ : ∃ y, xs[k * 7 + 5]? = some y := ⟨xs[k * 7 + 5]'(by omega), List.getElem?_eq_getElem _⟩
            have r5 := hxs.at_ hy5
            have f5 := hxs.frozen (k * 7 + 5)
            obtain ⟨y6, hy6⟩ : ∃ y, xs[k * 7 + 6]? = some y := ⟨xs[k * 7 + 6]'(by omega), List.getElem?_eq_getElem _⟩
            have r6 := hxs.at_ hy6
            have f6 := hxs.frozen (k * 7 + 6)
            have HXS := Lib.hid hxs
            have HXL := Lib.hid hxl
            clear hxs hxl hy0 hy1 hy2 hy3 hy4 hy5 hy6
            have HHD := Lib.hid (show HeadAt (k + 1) (D ++ sep ++ code (vlqOf g) ++ code (vlqOf p1) ++ code (vlqOf p2) ++ code (vlqOf p3) ++ code (vlqOf p4)) (some n4) from head_next (X := code (vlqOf g) ++ code (vlqOf p1) ++ code (vlqOf p2) ++ code (vlqOf p3) ++ code (vlqOf p4)) HRD.out.head HSEP.out (by have hc0 := HC0.out; have hc1 := HC1.out; have hc2 := HC2.out; have hc3 := HC3.out; have hc4 := HC4.out; (try simp only [List.length_append]); omega) (codes_wf ⟨[vlqOf g, vlqOf p1, vlqOf p2, vlqOf p3, vlqOf p4], by simp⟩) (by first | rfl | simp only [List.append_assoc]) (fun v hv => by injection hv with hv; have h9 := HN4.out; have h8 := HSL.out; have hc0 := HC0.out; have hc1 := HC1.out; have hc2 := HC2.out; have hc3 := HC3.out; have hc4 := HC4.out; simp only [List.length_append] at h9 h8; omega) (by have h9 := (chunk_src HRD.out.head HSEP.out ⟨g0, g1⟩ ⟨p10, p11⟩ ⟨p20, p21⟩ ⟨p30, p31⟩).name p4 ⟨p40, p41⟩; rw [show (D ++ sep ++ seg4 g p1 p2 p3).length = n4 by rw [← HN4.out]; simp only [seg4, List.append_assoc]] at h9; simpa only [seg4, List.append_assoc] using h9))
            go_wp2_with fail
            go_roundw
            case rel =>
              refine ⟨k + 1, _, D ++ sep ++ code (vlqOf g) ++ code (vlqOf p1) ++ code (vlqOf p2) ++ code (vlqOf p3) ++ code (vlqOf p4), some n4, _, _, _, _, _, _, rfl, rfl, rfl, rfl, rfl, rfl, rfl, rfl, by go_num, ?_⟩
              exact rnd_of (by omega) HHD.out (((((((HMA5.out.store _ _).store _ _).store _ _).store _ _).store _ _).store _ _).store _ _) ⟨by omega, by omega⟩ ⟨by omega, by omega⟩ ⟨by omega, by omega⟩ ⟨by omega, by omega⟩ ⟨by omega, by omega⟩ ⟨by omega, by omega⟩
            case measure => simp [intOf]; omega
          · have hfn : fnOf (some nv) = (nv : Int) := rfl
            obtain ⟨db0, do0, da0, dl0, dc0⟩ := HD.out.read (5 * k) (by omega)
            have gs : Sm (zs.getD (5 * k) 0) := HS.out _ (by have hl := HD.out.2.2.1; rw [getD_at _ _ (by omega)]; exact List.getElem_mem _)
            generalize zs.getD (5 * k) 0 = g at dc0 gs
            obtain ⟨g0, g1⟩ := gs
            obtain ⟨db1, do1, da1, dl1, dc1⟩ := HD.out.read (5 * k + 1) (by omega)
            have p1s : Sm (zs.getD (5 * k + 1) 0) := HS.out _ (by have hl := HD.out.2.2.1; rw [getD_at _ _ (by omega)]; exact List.getElem_mem _)
            generalize zs.getD (5 * k + 1) 0 = p1 at dc1 p1s
            obtain ⟨p10, p11⟩ := p1s
            obtain ⟨db2, do2, da2, dl2, dc2⟩ := HD.out.read (5 * k + 2) (by omega)
            have p2s : Sm (zs.getD (5 * k + 2) 0) := HS.out _ (by have hl := HD.out.2.2.1; rw [getD_at _ _ (by omega)]; exact List.getElem_mem _)
            generalize zs.getD (5 * k + 2) 0 = p2 at dc2 p2s
            obtain ⟨p20, p21⟩ := p2s
            obtain ⟨db3, do3, da3, dl3, dc3⟩ := HD.out.read (5 * k + 3) (by omega)
            have p3s : Sm (zs.getD (5 * k + 3) 0) := HS.out _ (by have hl := HD.out.2.2.1; rw [getD_at _ _ (by omega)]; exact List.getElem_mem _)
            generalize zs.getD (5 * k + 3) 0 = p3 at dc3 p3s
            obtain ⟨p30, p31⟩ := p3s
            obtain ⟨db4, do4, da4, dl4, dc4⟩ := HD.out.read (5 * k + 4) (by omega)
            have p4s : Sm (zs.getD (5 * k + 4) 0) := HS.out _ (by have hl := HD.out.2.2.1; rw [getD_at _ _ (by omega)]; exact List.getElem_mem _)
            generalize zs.getD (5 * k + 4) 0 = p4 at dc4 p4s
            obtain ⟨p40, p41⟩ := p4s
            obtain ⟨rfl, rfl⟩ : db0 = db1 ∧ do0 = do1 := by have h9 := da0.symm.trans da1; injection h9 with h9; injection h9 with h9 h8; exact ⟨h9, h8⟩
            obtain ⟨rfl, rfl⟩ : db0 = db2 ∧ do0 = do2 := by have h9 := da0.symm.trans da2; injection h9 with h9; injection h9 with h9 h8; exact ⟨h9, h8⟩
            obtain ⟨rfl, rfl⟩ : db0 = db3 ∧ do0 = do3 := by have h9 := da0.symm.trans da3; injection h9 with h9; injection h9 with h9 h8; exact ⟨h9, h8⟩
            obtain ⟨rfl, rfl⟩ : db0 = db4 ∧ do0 = do4 := by have h9 := da0.symm.trans da4; injection h9 with h9; injection h9 with h9 h8; exact ⟨h9, h8⟩
            subst da0
            have HDL0 := Lib.hid dl0
            have HDC0 := Lib.hid dc0
            have HC0 := Lib.hid (code_le3 g g0 g1)
            have HDC1 := Lib.hid dc1
            have HC1 := Lib.hid (code_le3 p1 p10 p11)
            have HDC2 := Lib.hid dc2
            have HC2 := Lib.hid (code_le3 p2 p20 p21)
            have HDC3 := Lib.hid dc3
            have HC3 := Lib.hid (code_le3 p3 p30 p31)
            have HDC4 := Lib.hid dc4
            have HC4 := Lib.hid (code_le3 p4 p40 p41)
            clear dl0 dc0 dl1 dc1 dl2 dc2 dl3 dc3 dl4 dc4 da1 da2 da3 da4
            have HSL := Lib.hid (show (D ++ sep).length ≤ 20 * k + 1 by have h1 := HRD.out.head.1; rw [List.length_append]; rcases HSEP.out with rfl | rfl | ⟨rfl, _⟩ <;> simp <;> omega)
            have HMA0 := HMD
            have e0 := (HMA0.out.bel.cell (p := ⟨db0, do0 + (5 * k), none⟩) HDL0.out).trans HDC0.out
            have HLn0 := Lib.hid (show (D ++ sep).length ≤ 100000000 by have h0 := HSL.out; have hm := HM1.out;  simp only [List.length_append] at h0 ⊢; omega)
            have HE0 := Lib.hid (enc13 (w.heap.size + 1) _ (D ++ sep) g _ HMA0.out.hB HMA0.out.own HLn0.out (by omega) (by omega))
            go_upto_region 30 with (go_at_call 13; (with_reducible refine HE0.out.mono ?_); rintro e wq0 ⟨vq0, rfl, ho, hb⟩; have HMA1 := Lib.hid (HMA0.out.call ho hb); clear ho hb)
            clear HE0
            clear e0
            have e1 := (HMA1.out.bel.cell (p := ⟨db0, do0 + (5 * k + 1), none⟩) HDL0.out).trans HDC1.out
            have e2 := (HMA1.out.bel.cell (p := ⟨db0, do0 + (5 * k + 2), none⟩) HDL0.out).trans HDC2.out
            have e3 := (HMA1.out.bel.cell (p := ⟨db0, do0 + (5 * k + 3), none⟩) HDL0.out).trans HDC3.out
            have HLn1 := Lib.hid (show (D ++ sep ++ code (vlqOf g)).length ≤ 100000000 by have h0 := HSL.out; have hm := HM1.out; have hc0 := HC0.out; simp only [List.length_append] at h0 ⊢; omega)
            have HE1 := Lib.hid (enc13 (w.heap.size + 1) _ (D ++ sep ++ code (vlqOf g)) p1 _ HMA1.out.hB HMA1.out.own HLn1.out (by omega) (by omega))
            go_upto_region 34 with (go_at_call 13; (with_reducible refine HE1.out.mono ?_); rintro e wq1 ⟨vq1, rfl, ho, hb⟩; have HMA2 := Lib.hid (HMA1.out.call ho hb); clear ho hb)
            clear HE1
            have HLn2 := Lib.hid (show (D ++ sep ++ code (vlqOf g) ++ code (vlqOf p1)).length ≤ 100000000 by have h0 := HSL.out; have hm := HM1.out; have hc0 := HC0.out; have hc1 := HC1.out; simp only [List.length_append] at h0 ⊢; omega)
            have HE2 := Lib.hid (enc13 (w.heap.size + 1) _ (D ++ sep ++ code (vlqOf g) ++ code (vlqOf p1)) p2 _ HMA2.out.hB HMA2.out.own HLn2.out (by omega) (by omega))
            go_upto_region 35 with (go_at_call 13; (with_reducible refine HE2.out.mono ?_); rintro e wq2 ⟨vq2, rfl, ho, hb⟩; have HMA3 := Lib.hid (HMA2.out.call ho hb); clear ho hb)
            clear HE2
            have HLn3 := Lib.hid (show (D ++ sep ++ code (vlqOf g) ++ code (vlqOf p1) ++ code (vlqOf p2)).length ≤ 100000000 by have h0 := HSL.out; have hm := HM1.out; have hc0 := HC0.out; have hc1 := HC1.out; have hc2 := HC2.out; simp only [List.length_append] at h0 ⊢; omega)
            have HE3 := Lib.hid (enc13 (w.heap.size + 1) _ (D ++ sep ++ code (vlqOf g) ++ code (vlqOf p1) ++ code (vlqOf p2)) p3 _ HMA3.out.hB HMA3.out.own HLn3.out (by omega) (by omega))
            go_upto_region 36 with (go_at_call 13; (with_reducible refine HE3.out.mono ?_); rintro e wq3 ⟨vq3, rfl, ho, hb⟩; have HMA4 := Lib.hid (HMA3.out.call ho hb); clear ho hb)
            clear HE3
            clear e1 e2 e3
            go_upto_region 43 with fail
            have e4 := (HMA4.out.bel.cell (p := ⟨db0, do0 + (5 * k + 4), none⟩) HDL0.out).trans HDC4.out
            have HLn4 := Lib.hid (show (D ++ sep ++ code (vlqOf g) ++ code (vlqOf p1) ++ code (vlqOf p2) ++ code (vlqOf p3)).length ≤ 100000000 by have h0 := HSL.out; have hm := HM1.out; have hc0 := HC0.out; have hc1 := HC1.out; have hc2 := HC2.out; have hc3 := HC3.out; simp only [List.length_append] at h0 ⊢; omega)
            have HE4 := Lib.hid (enc13 (w.heap.size + 1) _ (D ++ sep ++ code (vlqOf g) ++ code (vlqOf p1) ++ code (vlqOf p2) ++ code (vlqOf p3)) p4 _ HMA4.out.hB HMA4.out.own HLn4.out (by omega) (by omega))
            go_upto_region 47 with (go_at_call 13; (with_reducible refine HE4.out.mono ?_); rintro e wq4 ⟨vq4, rfl, ho, hb⟩; have HMA5 := Lib.hid (HMA4.out.call ho hb); clear ho hb)
            clear HE4
            clear e4
            obtain ⟨xs, hxs, hxl⟩ := HMA5.out.seg
            obtain ⟨y0, hy0⟩ : ∃ y, xs[k * 7]? = some y := ⟨xs[k * 7]'(by omega), List.getElem?_eq_getElem _⟩
            have r0 := hxs.at_ hy0
            have f0 := hxs.frozen (k * 7)
            obtain ⟨y1, hy1⟩ : ∃ y, xs[k * 7 + 1]? = some y := ⟨xs[k * 7 + 1]'(by omega), List.getElem?_eq_getElem _⟩
            have r1 := hxs.at_ hy1
            have f1 := hxs.frozen (k * 7 + 1)
            obtain ⟨y2, hy2⟩ : ∃ y, xs[k * 7 + 2]? = some y := ⟨xs[k * 7 + 2]'(by omega), List.getElem?_eq_getElem _⟩
            have r2 := hxs.at_ hy2
            have f2 := hxs.frozen (k * 7 + 2)
            obtain ⟨y3, hy3⟩ : ∃ y, xs[k * 7 + 3]? = some y := ⟨xs[k * 7 + 3]'(by omega), List.getElem?_eq_getElem _⟩
            have r3 := hxs.at_ hy3
            have f3 := hxs.frozen (k * 7 + 3)
            obtain ⟨y4, hy4⟩ : ∃ y, xs[k * 7 + 4]? = some y := ⟨xs[k * 7 + 4]'(by omega), List.getElem?_eq_getElem _⟩
            have r4 := hxs.at_ hy4
            have f4 := hxs.frozen (k * 7 + 4)
            obtain ⟨y5, hy5⟩ : ∃ y, xs[k * 7 + 5]? = some y := ⟨xs[k * 7 + 5]'(by omega), List.getElem?_eq_getElem _⟩
            have r5 := hxs.at_ hy5
            have f5 := hxs.frozen (k * 7 + 5)
            obtain ⟨y6, hy6⟩ : ∃ y, xs[k * 7 + 6]? = some y := ⟨xs[k * 7 + 6]'(by omega), List.getElem?_eq_getElem _⟩
            have r6 := hxs.at_ hy6
            have f6 := hxs.frozen (k * 7 + 6)
            have HXS := Lib.hid hxs
            have HXL := Lib.hid hxl
            clear hxs hxl hy0 hy1 hy2 hy3 hy4 hy5 hy6
            have HHD := Lib.hid (show HeadAt (k + 1) (D ++ sep ++ code (vlqOf g) ++ code (vlqOf p1) ++ code (vlqOf p2) ++ code (vlqOf p3) ++ code (vlqOf p4)) (some nv) from head_next (X := code (vlqOf g) ++ code (vlqOf p1) ++ code (vlqOf p2) ++ code (vlqOf p3) ++ code (vlqOf p4)) HRD.out.head HSEP.out (by have hc0 := HC0.out; have hc1 := HC1.out; have hc2 := HC2.out; have hc3 := HC3.out; have hc4 := HC4.out; (try simp only [List.length_append]); omega) (codes_wf ⟨[vlqOf g, vlqOf p1, vlqOf p2, vlqOf p3, vlqOf p4], by simp⟩) (by first | rfl | simp only [List.append_assoc]) (fun v hv => by have h9 := HRD.out.head.2.1 v hv; omega) (by have h9 := (chunk_src HRD.out.head HSEP.out ⟨g0, g1⟩ ⟨p10, p11⟩ ⟨p20, p21⟩ ⟨p30, p31⟩).more (code (vlqOf p4)); simpa only [seg4, List.append_assoc] using h9))
            go_wp2_with fail
            go_roundw
            case rel =>
              refine ⟨k + 1, _, D ++ sep ++ code (vlqOf g) ++ code (vlqOf p1) ++ code (vlqOf p2) ++ code (vlqOf p3) ++ code (vlqOf p4), some nv, _, _, _, _, _, _, rfl, rfl, rfl, rfl, rfl, rfl, rfl, rfl, by go_num, ?_⟩
              exact rnd_of (by omega) HHD.out (((((((HMA5.out.store _ _).store _ _).store _ _).store _ _).store _ _).store _ _).store _ _) ⟨by omega, by omega⟩ ⟨by omega, by omega⟩ ⟨by omega, by omega⟩ ⟨by omega, by omega⟩ ⟨by omega, by omega⟩ ⟨by omega, by omega⟩
            case measure => simp [intOf]; omega
end Go.Proofs.YtmgkjkfhhdkkmabDoor.ApK
