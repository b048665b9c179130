/-
  DERIVED: THE SHELF's CONTRACTS AT THIS DUMP, IN PLAIN WORDS (tools/lay-plain.mjs out of 'YtmgkjkfhhdkkmaaFmtShelf.lean', which tools/lay-shelf.mjs wrote): THE SAME DECLARATIONS UNDER THE SAME NAMES: 'import', 'namespace', 'open', 'def', 'theorem' AND NOTHING ELSE: no command of the shelf's: FOR A HAND-IN. Each laying: the table of numbers ('.._ren') and one theorem, a field a fact of the dump's own or the kernel's comparison; each contract: ONE APPLICATION.
-/
import Derived.Shelf.Small.Utf8
import Derived.Shelf.Strings.Fold
import Derived.Shelf.Unicode.Decode
import Derived.Shelf.Unicode.DecodeSlow
import Derived.Shelf.Unicode.DecodeAny
import Derived.Shelf.Unicode.CaseLookup
import Derived.Shelf.Unicode.CaseConvert
import Derived.Test.YtmgkjkfhhdkkmaaFmtProg
namespace Go.Proofs
open Go.Shelf
def Tryf.lays118_ren : Go.Shelf.Ren := ⟨fun | 118 => 22 | n => n, fun | 21 => 21 | 3 => 3 | 4 => 4 | n => n, fun | n => n⟩
theorem Tryf.lays118 : Go.Proofs.Lays.n118 Tryf.prog Tryf.lays118_ren := {
  mixed := by kernel_rfl
  f118 := Tryf.func22.trans (congrArg some (by kernel_rfl))
  t3 := Tryf.underlying3
  a3 := Tryf.isAgg3
  z3 := Tryf.sizeOf3
  v3 := Tryf.zeroValue3
  t4 := Tryf.underlying4
  a4 := Tryf.isAgg4
  z4 := Tryf.sizeOf4
  v4 := Tryf.zeroValue4
  t21 := Tryf.underlying21
  a21 := Tryf.isAgg21
  z21 := Tryf.sizeOf21
  v21 := Tryf.zeroValue21 }
/-- utf8.RuneLen: "RuneLen returns the number of bytes in the UTF-8 encoding of the rune. It returns -1 if the rune is not a valid value to encode in UTF-8.": IT RETURNS 'Lib.runeLen r'; the world is as it was. (LAID: no walk: one application.) -/
theorem Tryf.utf8_RuneLen (r : Int) (w : World) :
    Calls Tryf.prog 22 #[.int .i32 r] w fun e w' => e = .returned (.int .i64 (Lib.runeLen r)) ∧ w' = w := Any.utf8_RuneLen Tryf.lays118 r w
def Tryf.lays164_ren : Go.Shelf.Ren := ⟨fun | 164 => 16 | 197 => 14 | 239 => 19 | 260 => 18 | 274 => 23 | 275 => 24 | n => n, fun | 9 => 9 | 4 => 4 | 3 => 3 | 5 => 5 | 0 => 0 | 21 => 21 | 105 => 64 | 156 => 80 | 49 => 33 | 157 => 81 | 46 => 76 | 159 => 83 | 162 => 86 | 160 => 84 | 119 => 75 | 139 => 79 | 138 => 78 | 208 => 91 | 51 => 32 | 206 => 89 | n => n, fun | 11 => 2 | 12 => 3 | 13 => 4 | 3 => 0 | 4 => 1 | n => n⟩
theorem Tryf.lays164 : Go.Proofs.Lays.n164 Tryf.prog Tryf.lays164_ren := {
  mixed := by kernel_rfl
  f164 := Tryf.func16.trans (congrArg some (by kernel_rfl))
  f197 := Tryf.func14.trans (congrArg some (by kernel_rfl))
  f239 := Tryf.func19.trans (congrArg some (by kernel_rfl))
  f260 := Tryf.func18.trans (congrArg some (by kernel_rfl))
  f274 := Tryf.func23.trans (congrArg some (by kernel_rfl))
  f275 := Tryf.func24.trans (congrArg some (by kernel_rfl))
  t0 := Tryf.underlying0
  a0 := Tryf.isAgg0
  z0 := Tryf.sizeOf0
  v0 := Tryf.zeroValue0
  t3 := Tryf.underlying3
  a3 := Tryf.isAgg3
  z3 := Tryf.sizeOf3
  v3 := Tryf.zeroValue3
  t4 := Tryf.underlying4
  a4 := Tryf.isAgg4
  z4 := Tryf.sizeOf4
  v4 := Tryf.zeroValue4
  t5 := Tryf.underlying5
  a5 := Tryf.isAgg5
  z5 := Tryf.sizeOf5
  v5 := Tryf.zeroValue5
  t9 := Tryf.underlying9
  a9 := Tryf.isAgg9
  z9 := Tryf.sizeOf9
  v9 := Tryf.zeroValue9
  t21 := Tryf.underlying21
  a21 := Tryf.isAgg21
  z21 := Tryf.sizeOf21
  v21 := Tryf.zeroValue21
  t46 := Tryf.underlying76
  a46 := Tryf.isAgg76
  z46 := Tryf.sizeOf76
  v46 := Tryf.zeroValue76
  t49 := Tryf.underlying33
  a49 := Tryf.isAgg33
  z49 := Tryf.sizeOf33
  v49 := Tryf.zeroValue33
  t51 := Tryf.underlying32
  a51 := Tryf.isAgg32
  z51 := Tryf.sizeOf32
  v51 := Tryf.zeroValue32
  t105 := Tryf.underlying64
  a105 := Tryf.isAgg64
  z105 := Tryf.sizeOf64
  v105 := Tryf.zeroValue64
  t119 := Tryf.underlying75
  a119 := Tryf.isAgg75
  z119 := Tryf.sizeOf75
  t138 := Tryf.underlying78
  a138 := Tryf.isAgg78
  z138 := Tryf.sizeOf78
  v138 := Tryf.zeroValue78
  t139 := Tryf.underlying79
  a139 := Tryf.isAgg79
  z139 := Tryf.sizeOf79
  v139 := Tryf.zeroValue79
  t156 := Tryf.underlying80
  a156 := Tryf.isAgg80
  z156 := Tryf.sizeOf80
  t157 := Tryf.underlying81
  a157 := Tryf.isAgg81
  z157 := Tryf.sizeOf81
  v157 := Tryf.zeroValue81
  t159 := Tryf.underlying83
  a159 := Tryf.isAgg83
  z159 := Tryf.sizeOf83
  v159 := Tryf.zeroValue83
  t160 := Tryf.underlying84
  a160 := Tryf.isAgg84
  z160 := Tryf.sizeOf84
  v160 := Tryf.zeroValue84
  t162 := Tryf.underlying86
  a162 := Tryf.isAgg86
  z162 := Tryf.sizeOf86
  v162 := Tryf.zeroValue86
  t206 := Tryf.underlying89
  a206 := Tryf.isAgg89
  z206 := Tryf.sizeOf89
  v206 := Tryf.zeroValue89
  t208 := Tryf.underlying91
  a208 := Tryf.isAgg91
  z208 := Tryf.sizeOf91
  v208 := Tryf.zeroValue91
  g3 := by kernel_rfl
  g4 := by kernel_rfl
  g11 := by kernel_rfl
  g12 := by kernel_rfl
  g13 := by kernel_rfl }
open Go.RowKit Go.Lib in
theorem Tryf.strings_EqualFold (s t : ByteArray) (w : World) (hs : s.size < 4294967281) (has : ∀ (j : Nat) b, s.data.toList[j]? = some b → b.toNat < 128) (hat : ∀ (j : Nat) b, t.data.toList[j]? = some b → b.toNat < 128) :
    Calls Tryf.prog 16 #[.string s, .string t] w fun e w' => e = .returned (.bool (Lib.equalFold s.data.toList t.data.toList)) ∧ w' = w := Any.strings_EqualFold Tryf.lays164 s t w hs has hat
def Tryf.lays197_ren : Go.Shelf.Ren := ⟨fun | 197 => 14 | 260 => 18 | n => n, fun | 9 => 9 | 21 => 21 | 3 => 3 | 4 => 4 | 5 => 5 | 105 => 64 | 119 => 75 | 0 => 0 | 46 => 76 | 139 => 79 | 138 => 78 | n => n, fun | 3 => 0 | 4 => 1 | n => n⟩
theorem Tryf.lays197 : Go.Proofs.Lays.n197 Tryf.prog Tryf.lays197_ren := {
  mixed := by kernel_rfl
  f197 := Tryf.func14.trans (congrArg some (by kernel_rfl))
  f260 := Tryf.func18.trans (congrArg some (by kernel_rfl))
  t0 := Tryf.underlying0
  a0 := Tryf.isAgg0
  z0 := Tryf.sizeOf0
  v0 := Tryf.zeroValue0
  t3 := Tryf.underlying3
  a3 := Tryf.isAgg3
  z3 := Tryf.sizeOf3
  v3 := Tryf.zeroValue3
  t4 := Tryf.underlying4
  a4 := Tryf.isAgg4
  z4 := Tryf.sizeOf4
  v4 := Tryf.zeroValue4
  t5 := Tryf.underlying5
  a5 := Tryf.isAgg5
  z5 := Tryf.sizeOf5
  v5 := Tryf.zeroValue5
  t9 := Tryf.underlying9
  a9 := Tryf.isAgg9
  z9 := Tryf.sizeOf9
  v9 := Tryf.zeroValue9
  t21 := Tryf.underlying21
  a21 := Tryf.isAgg21
  z21 := Tryf.sizeOf21
  v21 := Tryf.zeroValue21
  t46 := Tryf.underlying76
  a46 := Tryf.isAgg76
  z46 := Tryf.sizeOf76
  v46 := Tryf.zeroValue76
  t105 := Tryf.underlying64
  a105 := Tryf.isAgg64
  z105 := Tryf.sizeOf64
  v105 := Tryf.zeroValue64
  t119 := Tryf.underlying75
  a119 := Tryf.isAgg75
  z119 := Tryf.sizeOf75
  t138 := Tryf.underlying78
  a138 := Tryf.isAgg78
  z138 := Tryf.sizeOf78
  v138 := Tryf.zeroValue78
  t139 := Tryf.underlying79
  a139 := Tryf.isAgg79
  z139 := Tryf.sizeOf79
  v139 := Tryf.zeroValue79
  g3 := by kernel_rfl
  g4 := by kernel_rfl }
open Go.RowKit Go.Lib in
/-- unicode/utf8.DecodeRuneInString: "DecodeRuneInString is like DecodeRune but its input is a string.": ("DecodeRune unpacks the first UTF-8 encoding in p and returns the rune and its width in bytes."): WHERE s BEGINS WITH AN ASCII BYTE x: (x, 1). (LAID: no walk: one application.) -/
theorem Tryf.utf8_DecodeRuneInString_ascii (s : ByteArray) (x : UInt8) (w : World) (h0 : s.data.toList[0]? = some x) (hx : x.toNat < 128) :
    Calls Tryf.prog 14 #[.string s] w fun e w' => e = .returned (.tuple #[.int .i32 x.toNat, .int .i64 1]) ∧ w' = w := Any.utf8_DecodeRuneInString_ascii Tryf.lays197 s x w h0 hx
def Tryf.lays260_ren : Go.Shelf.Ren := ⟨fun | 260 => 18 | n => n, fun | 9 => 9 | 21 => 21 | 3 => 3 | 4 => 4 | 5 => 5 | 119 => 75 | 0 => 0 | 46 => 76 | 139 => 79 | 138 => 78 | n => n, fun | 3 => 0 | 4 => 1 | n => n⟩
theorem Tryf.lays260 : Go.Proofs.Lays.n260 Tryf.prog Tryf.lays260_ren := {
  mixed := by kernel_rfl
  f260 := Tryf.func18.trans (congrArg some (by kernel_rfl))
  t0 := Tryf.underlying0
  a0 := Tryf.isAgg0
  z0 := Tryf.sizeOf0
  v0 := Tryf.zeroValue0
  t3 := Tryf.underlying3
  a3 := Tryf.isAgg3
  z3 := Tryf.sizeOf3
  v3 := Tryf.zeroValue3
  t4 := Tryf.underlying4
  a4 := Tryf.isAgg4
  z4 := Tryf.sizeOf4
  v4 := Tryf.zeroValue4
  t5 := Tryf.underlying5
  a5 := Tryf.isAgg5
  z5 := Tryf.sizeOf5
  v5 := Tryf.zeroValue5
  t9 := Tryf.underlying9
  a9 := Tryf.isAgg9
  z9 := Tryf.sizeOf9
  v9 := Tryf.zeroValue9
  t21 := Tryf.underlying21
  a21 := Tryf.isAgg21
  z21 := Tryf.sizeOf21
  v21 := Tryf.zeroValue21
  t46 := Tryf.underlying76
  a46 := Tryf.isAgg76
  z46 := Tryf.sizeOf76
  v46 := Tryf.zeroValue76
  t119 := Tryf.underlying75
  a119 := Tryf.isAgg75
  z119 := Tryf.sizeOf75
  t138 := Tryf.underlying78
  a138 := Tryf.isAgg78
  z138 := Tryf.sizeOf78
  v138 := Tryf.zeroValue78
  t139 := Tryf.underlying79
  a139 := Tryf.isAgg79
  z139 := Tryf.sizeOf79
  v139 := Tryf.zeroValue79
  g3 := by kernel_rfl
  g4 := by kernel_rfl }
open Go.RowKit Go.Lib in
theorem Tryf.utf8_decodeRuneInStringSlow (s : ByteArray) (w : World) (hT : Lib.Utf8Tabs 0 1 w) :
    Calls Tryf.prog 18 #[.string s] w fun e w' => e = .returned (.tuple #[.int .i32 (Lib.decodeGo s).1, .int .i64 (Lib.decodeGo s).2]) ∧ Below w.heap.size w w' := Any.utf8_decodeRuneInStringSlow Tryf.lays260 s w hT
open Go.RowKit Go.Lib in
/-- **unicode/utf8.DecodeRuneInString AT EVERY STRING.** (LAID: no walk: one application.) -/
theorem Tryf.utf8_DecodeRuneInString (s : ByteArray) (w : World) (hT : Lib.Utf8Tabs 0 1 w) :
    Calls Tryf.prog 14 #[.string s] w fun e w' => e = .returned (.tuple #[.int .i32 (Lib.decodeGo s).1, .int .i64 (Lib.decodeGo s).2]) ∧ Below w.heap.size w w' := Any.utf8_DecodeRuneInString Tryf.lays197 s w hT
def Tryf.lays274_ren : Go.Shelf.Ren := ⟨fun | 274 => 23 | n => n, fun | 21 => 21 | 162 => 86 | 160 => 84 | 3 => 3 | 4 => 4 | 46 => 76 | 0 => 0 | 208 => 91 | 51 => 32 | 206 => 89 | n => n, fun | n => n⟩
theorem Tryf.lays274 : Go.Proofs.Lays.n274 Tryf.prog Tryf.lays274_ren := {
  mixed := by kernel_rfl
  f274 := Tryf.func23.trans (congrArg some (by kernel_rfl))
  t0 := Tryf.underlying0
  a0 := Tryf.isAgg0
  z0 := Tryf.sizeOf0
  v0 := Tryf.zeroValue0
  t3 := Tryf.underlying3
  a3 := Tryf.isAgg3
  z3 := Tryf.sizeOf3
  v3 := Tryf.zeroValue3
  t4 := Tryf.underlying4
  a4 := Tryf.isAgg4
  z4 := Tryf.sizeOf4
  v4 := Tryf.zeroValue4
  t21 := Tryf.underlying21
  a21 := Tryf.isAgg21
  z21 := Tryf.sizeOf21
  v21 := Tryf.zeroValue21
  t46 := Tryf.underlying76
  a46 := Tryf.isAgg76
  z46 := Tryf.sizeOf76
  v46 := Tryf.zeroValue76
  t51 := Tryf.underlying32
  a51 := Tryf.isAgg32
  z51 := Tryf.sizeOf32
  v51 := Tryf.zeroValue32
  t160 := Tryf.underlying84
  a160 := Tryf.isAgg84
  z160 := Tryf.sizeOf84
  v160 := Tryf.zeroValue84
  t162 := Tryf.underlying86
  a162 := Tryf.isAgg86
  z162 := Tryf.sizeOf86
  v162 := Tryf.zeroValue86
  t208 := Tryf.underlying91
  a208 := Tryf.isAgg91
  z208 := Tryf.sizeOf91
  v208 := Tryf.zeroValue91 }
open Go.RowKit Go.Lib in
theorem Tryf.unicode_lookupCaseRange (T : Array CaseRow) (R oR cap : Nat) (r : Int) (w : World) (hT : CaseTab R oR T w) (hok : CaseOk T) (hn : T.size ≤ 1000000000) :
    Calls Tryf.prog 23 #[.int .i32 r, .slice (some ⟨R, oR, none⟩) T.size cap] w fun e w' =>
      e = .returned (match lookupIdx T r (T.size + 1) 0 T.size with | some i => .pointer (some ⟨R, oR + i * 5, none⟩) | none => .pointer none) ∧ w' = w := Any.unicode_lookupCaseRange Tryf.lays274 T R oR cap r w hT hok hn
def Tryf.lays275_ren : Go.Shelf.Ren := ⟨fun | 275 => 24 | n => n, fun | 3 => 3 | 21 => 21 | 160 => 84 | 0 => 0 | 208 => 91 | 206 => 89 | 4 => 4 | 51 => 32 | n => n, fun | n => n⟩
theorem Tryf.lays275 : Go.Proofs.Lays.n275 Tryf.prog Tryf.lays275_ren := {
  mixed := by kernel_rfl
  f275 := Tryf.func24.trans (congrArg some (by kernel_rfl))
  t0 := Tryf.underlying0
  a0 := Tryf.isAgg0
  z0 := Tryf.sizeOf0
  v0 := Tryf.zeroValue0
  t3 := Tryf.underlying3
  a3 := Tryf.isAgg3
  z3 := Tryf.sizeOf3
  v3 := Tryf.zeroValue3
  t4 := Tryf.underlying4
  a4 := Tryf.isAgg4
  z4 := Tryf.sizeOf4
  v4 := Tryf.zeroValue4
  t21 := Tryf.underlying21
  a21 := Tryf.isAgg21
  z21 := Tryf.sizeOf21
  v21 := Tryf.zeroValue21
  t51 := Tryf.underlying32
  a51 := Tryf.isAgg32
  z51 := Tryf.sizeOf32
  v51 := Tryf.zeroValue32
  t160 := Tryf.underlying84
  a160 := Tryf.isAgg84
  z160 := Tryf.sizeOf84
  v160 := Tryf.zeroValue84
  t206 := Tryf.underlying89
  a206 := Tryf.isAgg89
  z206 := Tryf.sizeOf89
  v206 := Tryf.zeroValue89
  t208 := Tryf.underlying91
  a208 := Tryf.isAgg91
  z208 := Tryf.sizeOf91
  v208 := Tryf.zeroValue91 }
open Go.RowKit Go.Lib in
theorem Tryf.unicode_convertCase (c : Nat) (hc : c < 3) (r : Int) (A o : Nat) (x : CaseRow) (w : World) (hlo : (x.1 : Int) ≤ r) (hhi : r ≤ (x.2.1 : Int)) (hH : x.2.1 < 2147483647) (c0 : w.cell? ⟨A, o, none⟩ = some (.int .u32 x.1)) (cD : w.cell? ⟨A, o + 2 + c, none⟩ = some (.int .i32 (x.delta c))) :
    Calls Tryf.prog 24 #[.int .i64 c, .int .i32 r, .pointer (some ⟨A, o, none⟩)] w fun e w' => e = .returned (.int .i32 (wrap32 (convertR c r x))) ∧ ∃ q, w' = w.drewN q := Any.unicode_convertCase Tryf.lays275 c hc r A o x w hlo hhi hH c0 cD
end Go.Proofs
