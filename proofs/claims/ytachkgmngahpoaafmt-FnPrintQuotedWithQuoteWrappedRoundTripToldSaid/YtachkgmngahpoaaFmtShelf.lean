/-
  DERIVED: THE SHELF's CONTRACTS AT THIS DUMP, IN PLAIN WORDS (tools/lay-plain.mjs out of 'YtachkgmngahpoaaFmtShelf.lean', which tools/lay-shelf.mjs wrote): THE SAME DECLARATIONS UNDER THE SAME NAMES: 'import', 'namespace', 'open', 'def', 'theorem' AND NOTHING ELSE: no command of the shelf's: FOR A HAND-IN. Each laying: the table of numbers ('.._ren') and one theorem, a field a fact of the dump's own or the kernel's comparison; each contract: ONE APPLICATION.
-/
import Derived.Shelf.Small.Utf8
import Derived.Shelf.Strings.Fold
import Derived.Shelf.Unicode.Decode
import Derived.Shelf.Unicode.DecodeSlow
import Derived.Shelf.Unicode.DecodeAny
import Derived.Shelf.Unicode.CaseLookup
import Derived.Shelf.Unicode.CaseConvert
import Derived.Test.YtachkgmngahpoaaFmtProg
namespace Go.Proofs
open Go.Shelf
def Tryf.lays118_ren : Go.Shelf.Ren := ⟨fun | 118 => 25 | n => n, fun | 21 => 21 | 3 => 3 | 4 => 4 | n => n, fun | n => n⟩
theorem Tryf.lays118 : Go.Proofs.Lays.n118 Tryf.prog Tryf.lays118_ren := {
  mixed := by kernel_rfl
  f118 := Tryf.func25.trans (congrArg some (by kernel_rfl))
  t3 := Tryf.underlying3
  a3 := Tryf.isAgg3
  z3 := Tryf.sizeOf3
  v3 := Tryf.zeroValue3
  t4 := Tryf.underlying4
  a4 := Tryf.isAgg4
  z4 := Tryf.sizeOf4
  v4 := Tryf.zeroValue4
  t21 := Tryf.underlying21
  a21 := Tryf.isAgg21
  z21 := Tryf.sizeOf21
  v21 := Tryf.zeroValue21 }
/-- utf8.RuneLen: "RuneLen returns the number of bytes in the UTF-8 encoding of the rune. It returns -1 if the rune is not a valid value to encode in UTF-8.": IT RETURNS 'Lib.runeLen r'; the world is as it was. (LAID: no walk: one application.) -/
theorem Tryf.utf8_RuneLen (r : Int) (w : World) :
    Calls Tryf.prog 25 #[.int .i32 r] w fun e w' => e = .returned (.int .i64 (Lib.runeLen r)) ∧ w' = w := Any.utf8_RuneLen Tryf.lays118 r w
def Tryf.lays164_ren : Go.Shelf.Ren := ⟨fun | 164 => 19 | 197 => 17 | 239 => 22 | 260 => 21 | 274 => 26 | 275 => 27 | n => n, fun | 9 => 9 | 4 => 4 | 3 => 3 | 5 => 5 | 0 => 0 | 21 => 21 | 105 => 66 | 156 => 82 | 49 => 36 | 157 => 83 | 46 => 78 | 159 => 85 | 162 => 88 | 160 => 86 | 119 => 77 | 139 => 81 | 138 => 80 | 208 => 93 | 51 => 35 | 206 => 91 | n => n, fun | 11 => 2 | 12 => 3 | 13 => 4 | 3 => 0 | 4 => 1 | n => n⟩
theorem Tryf.lays164 : Go.Proofs.Lays.n164 Tryf.prog Tryf.lays164_ren := {
  mixed := by kernel_rfl
  f164 := Tryf.func19.trans (congrArg some (by kernel_rfl))
  f197 := Tryf.func17.trans (congrArg some (by kernel_rfl))
  f239 := Tryf.func22.trans (congrArg some (by kernel_rfl))
  f260 := Tryf.func21.trans (congrArg some (by kernel_rfl))
  f274 := Tryf.func26.trans (congrArg some (by kernel_rfl))
  f275 := Tryf.func27.trans (congrArg some (by kernel_rfl))
  t0 := Tryf.underlying0
  a0 := Tryf.isAgg0
  z0 := Tryf.sizeOf0
  v0 := Tryf.zeroValue0
  t3 := Tryf.underlying3
  a3 := Tryf.isAgg3
  z3 := Tryf.sizeOf3
  v3 := Tryf.zeroValue3
  t4 := Tryf.underlying4
  a4 := Tryf.isAgg4
  z4 := Tryf.sizeOf4
  v4 := Tryf.zeroValue4
  t5 := Tryf.underlying5
  a5 := Tryf.isAgg5
  z5 := Tryf.sizeOf5
  v5 := Tryf.zeroValue5
  t9 := Tryf.underlying9
  a9 := Tryf.isAgg9
  z9 := Tryf.sizeOf9
  v9 := Tryf.zeroValue9
  t21 := Tryf.underlying21
  a21 := Tryf.isAgg21
  z21 := Tryf.sizeOf21
  v21 := Tryf.zeroValue21
  t46 := Tryf.underlying78
  a46 := Tryf.isAgg78
  z46 := Tryf.sizeOf78
  v46 := Tryf.zeroValue78
  t49 := Tryf.underlying36
  a49 := Tryf.isAgg36
  z49 := Tryf.sizeOf36
  v49 := Tryf.zeroValue36
  t51 := Tryf.underlying35
  a51 := Tryf.isAgg35
  z51 := Tryf.sizeOf35
  v51 := Tryf.zeroValue35
  t105 := Tryf.underlying66
  a105 := Tryf.isAgg66
  z105 := Tryf.sizeOf66
  v105 := Tryf.zeroValue66
  t119 := Tryf.underlying77
  a119 := Tryf.isAgg77
  z119 := Tryf.sizeOf77
  t138 := Tryf.underlying80
  a138 := Tryf.isAgg80
  z138 := Tryf.sizeOf80
  v138 := Tryf.zeroValue80
  t139 := Tryf.underlying81
  a139 := Tryf.isAgg81
  z139 := Tryf.sizeOf81
  v139 := Tryf.zeroValue81
  t156 := Tryf.underlying82
  a156 := Tryf.isAgg82
  z156 := Tryf.sizeOf82
  t157 := Tryf.underlying83
  a157 := Tryf.isAgg83
  z157 := Tryf.sizeOf83
  v157 := Tryf.zeroValue83
  t159 := Tryf.underlying85
  a159 := Tryf.isAgg85
  z159 := Tryf.sizeOf85
  v159 := Tryf.zeroValue85
  t160 := Tryf.underlying86
  a160 := Tryf.isAgg86
  z160 := Tryf.sizeOf86
  v160 := Tryf.zeroValue86
  t162 := Tryf.underlying88
  a162 := Tryf.isAgg88
  z162 := Tryf.sizeOf88
  v162 := Tryf.zeroValue88
  t206 := Tryf.underlying91
  a206 := Tryf.isAgg91
  z206 := Tryf.sizeOf91
  v206 := Tryf.zeroValue91
  t208 := Tryf.underlying93
  a208 := Tryf.isAgg93
  z208 := Tryf.sizeOf93
  v208 := Tryf.zeroValue93
  g3 := by kernel_rfl
  g4 := by kernel_rfl
  g11 := by kernel_rfl
  g12 := by kernel_rfl
  g13 := by kernel_rfl }
open Go.RowKit Go.Lib in
theorem Tryf.strings_EqualFold (s t : ByteArray) (w : World) (hs : s.size < 4294967281) (has : ∀ (j : Nat) b, s.data.toList[j]? = some b → b.toNat < 128) (hat : ∀ (j : Nat) b, t.data.toList[j]? = some b → b.toNat < 128) :
    Calls Tryf.prog 19 #[.string s, .string t] w fun e w' => e = .returned (.bool (Lib.equalFold s.data.toList t.data.toList)) ∧ w' = w := Any.strings_EqualFold Tryf.lays164 s t w hs has hat
def Tryf.lays197_ren : Go.Shelf.Ren := ⟨fun | 197 => 17 | 260 => 21 | n => n, fun | 9 => 9 | 21 => 21 | 3 => 3 | 4 => 4 | 5 => 5 | 105 => 66 | 119 => 77 | 0 => 0 | 46 => 78 | 139 => 81 | 138 => 80 | n => n, fun | 3 => 0 | 4 => 1 | n => n⟩
theorem Tryf.lays197 : Go.Proofs.Lays.n197 Tryf.prog Tryf.lays197_ren := {
  mixed := by kernel_rfl
  f197 := Tryf.func17.trans (congrArg some (by kernel_rfl))
  f260 := Tryf.func21.trans (congrArg some (by kernel_rfl))
  t0 := Tryf.underlying0
  a0 := Tryf.isAgg0
  z0 := Tryf.sizeOf0
  v0 := Tryf.zeroValue0
  t3 := Tryf.underlying3
  a3 := Tryf.isAgg3
  z3 := Tryf.sizeOf3
  v3 := Tryf.zeroValue3
  t4 := Tryf.underlying4
  a4 := Tryf.isAgg4
  z4 := Tryf.sizeOf4
  v4 := Tryf.zeroValue4
  t5 := Tryf.underlying5
  a5 := Tryf.isAgg5
  z5 := Tryf.sizeOf5
  v5 := Tryf.zeroValue5
  t9 := Tryf.underlying9
  a9 := Tryf.isAgg9
  z9 := Tryf.sizeOf9
  v9 := Tryf.zeroValue9
  t21 := Tryf.underlying21
  a21 := Tryf.isAgg21
  z21 := Tryf.sizeOf21
  v21 := Tryf.zeroValue21
  t46 := Tryf.underlying78
  a46 := Tryf.isAgg78
  z46 := Tryf.sizeOf78
  v46 := Tryf.zeroValue78
  t105 := Tryf.underlying66
  a105 := Tryf.isAgg66
  z105 := Tryf.sizeOf66
  v105 := Tryf.zeroValue66
  t119 := Tryf.underlying77
  a119 := Tryf.isAgg77
  z119 := Tryf.sizeOf77
  t138 := Tryf.underlying80
  a138 := Tryf.isAgg80
  z138 := Tryf.sizeOf80
  v138 := Tryf.zeroValue80
  t139 := Tryf.underlying81
  a139 := Tryf.isAgg81
  z139 := Tryf.sizeOf81
  v139 := Tryf.zeroValue81
  g3 := by kernel_rfl
  g4 := by kernel_rfl }
open Go.RowKit Go.Lib in
/-- unicode/utf8.DecodeRuneInString: "DecodeRuneInString is like DecodeRune but its input is a string.": ("DecodeRune unpacks the first UTF-8 encoding in p and returns the rune and its width in bytes."): WHERE s BEGINS WITH AN ASCII BYTE x: (x, 1). (LAID: no walk: one application.) -/
theorem Tryf.utf8_DecodeRuneInString_ascii (s : ByteArray) (x : UInt8) (w : World) (h0 : s.data.toList[0]? = some x) (hx : x.toNat < 128) :
    Calls Tryf.prog 17 #[.string s] w fun e w' => e = .returned (.tuple #[.int .i32 x.toNat, .int .i64 1]) ∧ w' = w := Any.utf8_DecodeRuneInString_ascii Tryf.lays197 s x w h0 hx
def Tryf.lays260_ren : Go.Shelf.Ren := ⟨fun | 260 => 21 | n => n, fun | 9 => 9 | 21 => 21 | 3 => 3 | 4 => 4 | 5 => 5 | 119 => 77 | 0 => 0 | 46 => 78 | 139 => 81 | 138 => 80 | n => n, fun | 3 => 0 | 4 => 1 | n => n⟩
theorem Tryf.lays260 : Go.Proofs.Lays.n260 Tryf.prog Tryf.lays260_ren := {
  mixed := by kernel_rfl
  f260 := Tryf.func21.trans (congrArg some (by kernel_rfl))
  t0 := Tryf.underlying0
  a0 := Tryf.isAgg0
  z0 := Tryf.sizeOf0
  v0 := Tryf.zeroValue0
  t3 := Tryf.underlying3
  a3 := Tryf.isAgg3
  z3 := Tryf.sizeOf3
  v3 := Tryf.zeroValue3
  t4 := Tryf.underlying4
  a4 := Tryf.isAgg4
  z4 := Tryf.sizeOf4
  v4 := Tryf.zeroValue4
  t5 := Tryf.underlying5
  a5 := Tryf.isAgg5
  z5 := Tryf.sizeOf5
  v5 := Tryf.zeroValue5
  t9 := Tryf.underlying9
  a9 := Tryf.isAgg9
  z9 := Tryf.sizeOf9
  v9 := Tryf.zeroValue9
  t21 := Tryf.underlying21
  a21 := Tryf.isAgg21
  z21 := Tryf.sizeOf21
  v21 := Tryf.zeroValue21
  t46 := Tryf.underlying78
  a46 := Tryf.isAgg78
  z46 := Tryf.sizeOf78
  v46 := Tryf.zeroValue78
  t119 := Tryf.underlying77
  a119 := Tryf.isAgg77
  z119 := Tryf.sizeOf77
  t138 := Tryf.underlying80
  a138 := Tryf.isAgg80
  z138 := Tryf.sizeOf80
  v138 := Tryf.zeroValue80
  t139 := Tryf.underlying81
  a139 := Tryf.isAgg81
  z139 := Tryf.sizeOf81
  v139 := Tryf.zeroValue81
  g3 := by kernel_rfl
  g4 := by kernel_rfl }
open Go.RowKit Go.Lib in
theorem Tryf.utf8_decodeRuneInStringSlow (s : ByteArray) (w : World) (hT : Lib.Utf8Tabs 0 1 w) :
    Calls Tryf.prog 21 #[.string s] w fun e w' => e = .returned (.tuple #[.int .i32 (Lib.decodeGo s).1, .int .i64 (Lib.decodeGo s).2]) ∧ Below w.heap.size w w' := Any.utf8_decodeRuneInStringSlow Tryf.lays260 s w hT
open Go.RowKit Go.Lib in
/-- **unicode/utf8.DecodeRuneInString AT EVERY STRING.** (LAID: no walk: one application.) -/
theorem Tryf.utf8_DecodeRuneInString (s : ByteArray) (w : World) (hT : Lib.Utf8Tabs 0 1 w) :
    Calls Tryf.prog 17 #[.string s] w fun e w' => e = .returned (.tuple #[.int .i32 (Lib.decodeGo s).1, .int .i64 (Lib.decodeGo s).2]) ∧ Below w.heap.size w w' := Any.utf8_DecodeRuneInString Tryf.lays197 s w hT
def Tryf.lays274_ren : Go.Shelf.Ren := ⟨fun | 274 => 26 | n => n, fun | 21 => 21 | 162 => 88 | 160 => 86 | 3 => 3 | 4 => 4 | 46 => 78 | 0 => 0 | 208 => 93 | 51 => 35 | 206 => 91 | n => n, fun | n => n⟩
theorem Tryf.lays274 : Go.Proofs.Lays.n274 Tryf.prog Tryf.lays274_ren := {
  mixed := by kernel_rfl
  f274 := Tryf.func26.trans (congrArg some (by kernel_rfl))
  t0 := Tryf.underlying0
  a0 := Tryf.isAgg0
  z0 := Tryf.sizeOf0
  v0 := Tryf.zeroValue0
  t3 := Tryf.underlying3
  a3 := Tryf.isAgg3
  z3 := Tryf.sizeOf3
  v3 := Tryf.zeroValue3
  t4 := Tryf.underlying4
  a4 := Tryf.isAgg4
  z4 := Tryf.sizeOf4
  v4 := Tryf.zeroValue4
  t21 := Tryf.underlying21
  a21 := Tryf.isAgg21
  z21 := Tryf.sizeOf21
  v21 := Tryf.zeroValue21
  t46 := Tryf.underlying78
  a46 := Tryf.isAgg78
  z46 := Tryf.sizeOf78
  v46 := Tryf.zeroValue78
  t51 := Tryf.underlying35
  a51 := Tryf.isAgg35
  z51 := Tryf.sizeOf35
  v51 := Tryf.zeroValue35
  t160 := Tryf.underlying86
  a160 := Tryf.isAgg86
  z160 := Tryf.sizeOf86
  v160 := Tryf.zeroValue86
  t162 := Tryf.underlying88
  a162 := Tryf.isAgg88
  z162 := Tryf.sizeOf88
  v162 := Tryf.zeroValue88
  t208 := Tryf.underlying93
  a208 := Tryf.isAgg93
  z208 := Tryf.sizeOf93
  v208 := Tryf.zeroValue93 }
open Go.RowKit Go.Lib in
theorem Tryf.unicode_lookupCaseRange (T : Array CaseRow) (R oR cap : Nat) (r : Int) (w : World) (hT : CaseTab R oR T w) (hok : CaseOk T) (hn : T.size ≤ 1000000000) :
    Calls Tryf.prog 26 #[.int .i32 r, .slice (some ⟨R, oR, none⟩) T.size cap] w fun e w' =>
      e = .returned (match lookupIdx T r (T.size + 1) 0 T.size with | some i => .pointer (some ⟨R, oR + i * 5, none⟩) | none => .pointer none) ∧ w' = w := Any.unicode_lookupCaseRange Tryf.lays274 T R oR cap r w hT hok hn
def Tryf.lays275_ren : Go.Shelf.Ren := ⟨fun | 275 => 27 | n => n, fun | 3 => 3 | 21 => 21 | 160 => 86 | 0 => 0 | 208 => 93 | 206 => 91 | 4 => 4 | 51 => 35 | n => n, fun | n => n⟩
theorem Tryf.lays275 : Go.Proofs.Lays.n275 Tryf.prog Tryf.lays275_ren := {
  mixed := by kernel_rfl
  f275 := Tryf.func27.trans (congrArg some (by kernel_rfl))
  t0 := Tryf.underlying0
  a0 := Tryf.isAgg0
  z0 := Tryf.sizeOf0
  v0 := Tryf.zeroValue0
  t3 := Tryf.underlying3
  a3 := Tryf.isAgg3
  z3 := Tryf.sizeOf3
  v3 := Tryf.zeroValue3
  t4 := Tryf.underlying4
  a4 := Tryf.isAgg4
  z4 := Tryf.sizeOf4
  v4 := Tryf.zeroValue4
  t21 := Tryf.underlying21
  a21 := Tryf.isAgg21
  z21 := Tryf.sizeOf21
  v21 := Tryf.zeroValue21
  t51 := Tryf.underlying35
  a51 := Tryf.isAgg35
  z51 := Tryf.sizeOf35
  v51 := Tryf.zeroValue35
  t160 := Tryf.underlying86
  a160 := Tryf.isAgg86
  z160 := Tryf.sizeOf86
  v160 := Tryf.zeroValue86
  t206 := Tryf.underlying91
  a206 := Tryf.isAgg91
  z206 := Tryf.sizeOf91
  v206 := Tryf.zeroValue91
  t208 := Tryf.underlying93
  a208 := Tryf.isAgg93
  z208 := Tryf.sizeOf93
  v208 := Tryf.zeroValue93 }
open Go.RowKit Go.Lib in
theorem Tryf.unicode_convertCase (c : Nat) (hc : c < 3) (r : Int) (A o : Nat) (x : CaseRow) (w : World) (hlo : (x.1 : Int) ≤ r) (hhi : r ≤ (x.2.1 : Int)) (hH : x.2.1 < 2147483647) (c0 : w.cell? ⟨A, o, none⟩ = some (.int .u32 x.1)) (cD : w.cell? ⟨A, o + 2 + c, none⟩ = some (.int .i32 (x.delta c))) :
    Calls Tryf.prog 27 #[.int .i64 c, .int .i32 r, .pointer (some ⟨A, o, none⟩)] w fun e w' => e = .returned (.int .i32 (wrap32 (convertR c r x))) ∧ ∃ q, w' = w.drewN q := Any.unicode_convertCase Tryf.lays275 c hc r A o x w hlo hhi hH c0 cD
end Go.Proofs
