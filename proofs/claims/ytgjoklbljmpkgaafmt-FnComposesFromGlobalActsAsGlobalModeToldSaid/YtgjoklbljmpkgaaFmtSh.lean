/-
  DERIVED: THE SHELF's CONTRACTS AT THIS DUMP, IN PLAIN WORDS (tools/lay-plain.mjs out of 'TryfShelf.lean', which tools/lay-shelf.mjs wrote): THE SAME DECLARATIONS UNDER THE SAME NAMES: 'import', 'namespace', 'open', 'def', 'theorem' AND NOTHING ELSE: no command of the shelf's: FOR A HAND-IN. Each laying: the table of numbers ('.._ren') and one theorem, a field a fact of the dump's own or the kernel's comparison; each contract: ONE APPLICATION.
-/
import Derived.Shelf.Small.Utf8
import Derived.Shelf.Strings.Fold
import Derived.Shelf.Unicode.Decode
import Derived.Shelf.Unicode.DecodeSlow
import Derived.Shelf.Unicode.DecodeAny
import Derived.Shelf.Unicode.CaseLookup
import Derived.Shelf.Unicode.CaseConvert
import Derived.Test.YtgjoklbljmpkgaaFmtProg
namespace Go.Proofs
open Go.Shelf
def Tryf.lays120_ren : Go.Shelf.Ren := ⟨fun | 120 => 37 | n => n, fun | 5 => 5 | 4 => 4 | n => n, fun | n => n⟩
theorem Tryf.lays120 : Go.Proofs.Lays.n120 Tryf.prog Tryf.lays120_ren := {
  mixed := by kernel_rfl
  f120 := Tryf.func37.trans (congrArg some (by kernel_rfl))
  t4 := Tryf.underlying4
  a4 := Tryf.isAgg4
  z4 := Tryf.sizeOf4
  v4 := Tryf.zeroValue4
  t5 := Tryf.underlying5
  a5 := Tryf.isAgg5
  z5 := Tryf.sizeOf5
  v5 := Tryf.zeroValue5 }
/-- utf8.RuneStart: "RuneStart reports whether the byte could be the first byte of an encoded, possibly invalid rune. Second and subsequent bytes always have the top two bits set to 10.": IT RETURNS 'Lib.runeStart b'; the world is as it was. ('h0', 'h1': b is a byte: a caller has it of every byte that it was handed.) (LAID: no walk: one application.) -/
theorem Tryf.utf8_RuneStart (b : Int) (w : World) (h0 : 0 ≤ b) (h1 : b < 256) :
    Calls Tryf.prog 37 #[.int .u8 b] w fun e w' => e = .returned (.bool (Lib.runeStart b)) ∧ w' = w := Any.utf8_RuneStart Tryf.lays120 b w h0 h1
def Tryf.lays164_ren : Go.Shelf.Ren := ⟨fun | 164 => 14 | 197 => 21 | 239 => 22 | 260 => 29 | 274 => 30 | 275 => 31 | n => n, fun | 9 => 9 | 4 => 4 | 3 => 3 | 5 => 5 | 0 => 0 | 21 => 21 | 105 => 131 | 156 => 148 | 49 => 73 | 157 => 149 | 46 => 150 | 159 => 152 | 162 => 155 | 160 => 153 | 119 => 159 | 139 => 162 | 138 => 161 | 208 => 166 | 51 => 34 | 206 => 164 | n => n, fun | 11 => 2 | 12 => 3 | 13 => 4 | 3 => 5 | 4 => 6 | n => n⟩
theorem Tryf.lays164 : Go.Proofs.Lays.n164 Tryf.prog Tryf.lays164_ren := {
  mixed := by kernel_rfl
  f164 := Tryf.func14.trans (congrArg some (by kernel_rfl))
  f197 := Tryf.func21.trans (congrArg some (by kernel_rfl))
  f239 := Tryf.func22.trans (congrArg some (by kernel_rfl))
  f260 := Tryf.func29.trans (congrArg some (by kernel_rfl))
  f274 := Tryf.func30.trans (congrArg some (by kernel_rfl))
  f275 := Tryf.func31.trans (congrArg some (by kernel_rfl))
  t0 := Tryf.underlying0
  a0 := Tryf.isAgg0
  z0 := Tryf.sizeOf0
  v0 := Tryf.zeroValue0
  t3 := Tryf.underlying3
  a3 := Tryf.isAgg3
  z3 := Tryf.sizeOf3
  v3 := Tryf.zeroValue3
  t4 := Tryf.underlying4
  a4 := Tryf.isAgg4
  z4 := Tryf.sizeOf4
  v4 := Tryf.zeroValue4
  t5 := Tryf.underlying5
  a5 := Tryf.isAgg5
  z5 := Tryf.sizeOf5
  v5 := Tryf.zeroValue5
  t9 := Tryf.underlying9
  a9 := Tryf.isAgg9
  z9 := Tryf.sizeOf9
  v9 := Tryf.zeroValue9
  t21 := Tryf.underlying21
  a21 := Tryf.isAgg21
  z21 := Tryf.sizeOf21
  v21 := Tryf.zeroValue21
  t46 := Tryf.underlying150
  a46 := Tryf.isAgg150
  z46 := Tryf.sizeOf150
  v46 := Tryf.zeroValue150
  t49 := Tryf.underlying73
  a49 := Tryf.isAgg73
  z49 := Tryf.sizeOf73
  v49 := Tryf.zeroValue73
  t51 := Tryf.underlying34
  a51 := Tryf.isAgg34
  z51 := Tryf.sizeOf34
  v51 := Tryf.zeroValue34
  t105 := Tryf.underlying131
  a105 := Tryf.isAgg131
  z105 := Tryf.sizeOf131
  v105 := Tryf.zeroValue131
  t119 := Tryf.underlying159
  a119 := Tryf.isAgg159
  z119 := Tryf.sizeOf159
  t138 := Tryf.underlying161
  a138 := Tryf.isAgg161
  z138 := Tryf.sizeOf161
  v138 := Tryf.zeroValue161
  t139 := Tryf.underlying162
  a139 := Tryf.isAgg162
  z139 := Tryf.sizeOf162
  v139 := Tryf.zeroValue162
  t156 := Tryf.underlying148
  a156 := Tryf.isAgg148
  z156 := Tryf.sizeOf148
  t157 := Tryf.underlying149
  a157 := Tryf.isAgg149
  z157 := Tryf.sizeOf149
  v157 := Tryf.zeroValue149
  t159 := Tryf.underlying152
  a159 := Tryf.isAgg152
  z159 := Tryf.sizeOf152
  v159 := Tryf.zeroValue152
  t160 := Tryf.underlying153
  a160 := Tryf.isAgg153
  z160 := Tryf.sizeOf153
  v160 := Tryf.zeroValue153
  t162 := Tryf.underlying155
  a162 := Tryf.isAgg155
  z162 := Tryf.sizeOf155
  v162 := Tryf.zeroValue155
  t206 := Tryf.underlying164
  a206 := Tryf.isAgg164
  z206 := Tryf.sizeOf164
  v206 := Tryf.zeroValue164
  t208 := Tryf.underlying166
  a208 := Tryf.isAgg166
  z208 := Tryf.sizeOf166
  v208 := Tryf.zeroValue166
  g3 := by kernel_rfl
  g4 := by kernel_rfl
  g11 := by kernel_rfl
  g12 := by kernel_rfl
  g13 := by kernel_rfl }
open Go.RowKit Go.Lib in
theorem Tryf.strings_EqualFold (s t : ByteArray) (w : World) (hs : s.size < 4294967281) (has : ∀ (j : Nat) b, s.data.toList[j]? = some b → b.toNat < 128) (hat : ∀ (j : Nat) b, t.data.toList[j]? = some b → b.toNat < 128) :
    Calls Tryf.prog 14 #[.string s, .string t] w fun e w' => e = .returned (.bool (Lib.equalFold s.data.toList t.data.toList)) ∧ w' = w := Any.strings_EqualFold Tryf.lays164 s t w hs has hat
def Tryf.lays197_ren : Go.Shelf.Ren := ⟨fun | 197 => 21 | 260 => 29 | n => n, fun | 9 => 9 | 21 => 21 | 3 => 3 | 4 => 4 | 5 => 5 | 105 => 131 | 119 => 159 | 0 => 0 | 46 => 150 | 139 => 162 | 138 => 161 | n => n, fun | 3 => 5 | 4 => 6 | n => n⟩
theorem Tryf.lays197 : Go.Proofs.Lays.n197 Tryf.prog Tryf.lays197_ren := {
  mixed := by kernel_rfl
  f197 := Tryf.func21.trans (congrArg some (by kernel_rfl))
  f260 := Tryf.func29.trans (congrArg some (by kernel_rfl))
  t0 := Tryf.underlying0
  a0 := Tryf.isAgg0
  z0 := Tryf.sizeOf0
  v0 := Tryf.zeroValue0
  t3 := Tryf.underlying3
  a3 := Tryf.isAgg3
  z3 := Tryf.sizeOf3
  v3 := Tryf.zeroValue3
  t4 := Tryf.underlying4
  a4 := Tryf.isAgg4
  z4 := Tryf.sizeOf4
  v4 := Tryf.zeroValue4
  t5 := Tryf.underlying5
  a5 := Tryf.isAgg5
  z5 := Tryf.sizeOf5
  v5 := Tryf.zeroValue5
  t9 := Tryf.underlying9
  a9 := Tryf.isAgg9
  z9 := Tryf.sizeOf9
  v9 := Tryf.zeroValue9
  t21 := Tryf.underlying21
  a21 := Tryf.isAgg21
  z21 := Tryf.sizeOf21
  v21 := Tryf.zeroValue21
  t46 := Tryf.underlying150
  a46 := Tryf.isAgg150
  z46 := Tryf.sizeOf150
  v46 := Tryf.zeroValue150
  t105 := Tryf.underlying131
  a105 := Tryf.isAgg131
  z105 := Tryf.sizeOf131
  v105 := Tryf.zeroValue131
  t119 := Tryf.underlying159
  a119 := Tryf.isAgg159
  z119 := Tryf.sizeOf159
  t138 := Tryf.underlying161
  a138 := Tryf.isAgg161
  z138 := Tryf.sizeOf161
  v138 := Tryf.zeroValue161
  t139 := Tryf.underlying162
  a139 := Tryf.isAgg162
  z139 := Tryf.sizeOf162
  v139 := Tryf.zeroValue162
  g3 := by kernel_rfl
  g4 := by kernel_rfl }
open Go.RowKit Go.Lib in
/-- unicode/utf8.DecodeRuneInString: "DecodeRuneInString is like DecodeRune but its input is a string.": ("DecodeRune unpacks the first UTF-8 encoding in p and returns the rune and its width in bytes."): WHERE s BEGINS WITH AN ASCII BYTE x: (x, 1). (LAID: no walk: one application.) -/
theorem Tryf.utf8_DecodeRuneInString_ascii (s : ByteArray) (x : UInt8) (w : World) (h0 : s.data.toList[0]? = some x) (hx : x.toNat < 128) :
    Calls Tryf.prog 21 #[.string s] w fun e w' => e = .returned (.tuple #[.int .i32 x.toNat, .int .i64 1]) ∧ w' = w := Any.utf8_DecodeRuneInString_ascii Tryf.lays197 s x w h0 hx
def Tryf.lays260_ren : Go.Shelf.Ren := ⟨fun | 260 => 29 | n => n, fun | 9 => 9 | 21 => 21 | 3 => 3 | 4 => 4 | 5 => 5 | 119 => 159 | 0 => 0 | 46 => 150 | 139 => 162 | 138 => 161 | n => n, fun | 3 => 5 | 4 => 6 | n => n⟩
theorem Tryf.lays260 : Go.Proofs.Lays.n260 Tryf.prog Tryf.lays260_ren := {
  mixed := by kernel_rfl
  f260 := Tryf.func29.trans (congrArg some (by kernel_rfl))
  t0 := Tryf.underlying0
  a0 := Tryf.isAgg0
  z0 := Tryf.sizeOf0
  v0 := Tryf.zeroValue0
  t3 := Tryf.underlying3
  a3 := Tryf.isAgg3
  z3 := Tryf.sizeOf3
  v3 := Tryf.zeroValue3
  t4 := Tryf.underlying4
  a4 := Tryf.isAgg4
  z4 := Tryf.sizeOf4
  v4 := Tryf.zeroValue4
  t5 := Tryf.underlying5
  a5 := Tryf.isAgg5
  z5 := Tryf.sizeOf5
  v5 := Tryf.zeroValue5
  t9 := Tryf.underlying9
  a9 := Tryf.isAgg9
  z9 := Tryf.sizeOf9
  v9 := Tryf.zeroValue9
  t21 := Tryf.underlying21
  a21 := Tryf.isAgg21
  z21 := Tryf.sizeOf21
  v21 := Tryf.zeroValue21
  t46 := Tryf.underlying150
  a46 := Tryf.isAgg150
  z46 := Tryf.sizeOf150
  v46 := Tryf.zeroValue150
  t119 := Tryf.underlying159
  a119 := Tryf.isAgg159
  z119 := Tryf.sizeOf159
  t138 := Tryf.underlying161
  a138 := Tryf.isAgg161
  z138 := Tryf.sizeOf161
  v138 := Tryf.zeroValue161
  t139 := Tryf.underlying162
  a139 := Tryf.isAgg162
  z139 := Tryf.sizeOf162
  v139 := Tryf.zeroValue162
  g3 := by kernel_rfl
  g4 := by kernel_rfl }
open Go.RowKit Go.Lib in
theorem Tryf.utf8_decodeRuneInStringSlow (s : ByteArray) (w : World) (hT : Lib.Utf8Tabs 5 6 w) :
    Calls Tryf.prog 29 #[.string s] w fun e w' => e = .returned (.tuple #[.int .i32 (Lib.decodeGo s).1, .int .i64 (Lib.decodeGo s).2]) ∧ Below w.heap.size w w' := Any.utf8_decodeRuneInStringSlow Tryf.lays260 s w hT
open Go.RowKit Go.Lib in
/-- **unicode/utf8.DecodeRuneInString AT EVERY STRING.** (LAID: no walk: one application.) -/
theorem Tryf.utf8_DecodeRuneInString (s : ByteArray) (w : World) (hT : Lib.Utf8Tabs 5 6 w) :
    Calls Tryf.prog 21 #[.string s] w fun e w' => e = .returned (.tuple #[.int .i32 (Lib.decodeGo s).1, .int .i64 (Lib.decodeGo s).2]) ∧ Below w.heap.size w w' := Any.utf8_DecodeRuneInString Tryf.lays197 s w hT
def Tryf.lays274_ren : Go.Shelf.Ren := ⟨fun | 274 => 30 | n => n, fun | 21 => 21 | 162 => 155 | 160 => 153 | 3 => 3 | 4 => 4 | 46 => 150 | 0 => 0 | 208 => 166 | 51 => 34 | 206 => 164 | n => n, fun | n => n⟩
theorem Tryf.lays274 : Go.Proofs.Lays.n274 Tryf.prog Tryf.lays274_ren := {
  mixed := by kernel_rfl
  f274 := Tryf.func30.trans (congrArg some (by kernel_rfl))
  t0 := Tryf.underlying0
  a0 := Tryf.isAgg0
  z0 := Tryf.sizeOf0
  v0 := Tryf.zeroValue0
  t3 := Tryf.underlying3
  a3 := Tryf.isAgg3
  z3 := Tryf.sizeOf3
  v3 := Tryf.zeroValue3
  t4 := Tryf.underlying4
  a4 := Tryf.isAgg4
  z4 := Tryf.sizeOf4
  v4 := Tryf.zeroValue4
  t21 := Tryf.underlying21
  a21 := Tryf.isAgg21
  z21 := Tryf.sizeOf21
  v21 := Tryf.zeroValue21
  t46 := Tryf.underlying150
  a46 := Tryf.isAgg150
  z46 := Tryf.sizeOf150
  v46 := Tryf.zeroValue150
  t51 := Tryf.underlying34
  a51 := Tryf.isAgg34
  z51 := Tryf.sizeOf34
  v51 := Tryf.zeroValue34
  t160 := Tryf.underlying153
  a160 := Tryf.isAgg153
  z160 := Tryf.sizeOf153
  v160 := Tryf.zeroValue153
  t162 := Tryf.underlying155
  a162 := Tryf.isAgg155
  z162 := Tryf.sizeOf155
  v162 := Tryf.zeroValue155
  t208 := Tryf.underlying166
  a208 := Tryf.isAgg166
  z208 := Tryf.sizeOf166
  v208 := Tryf.zeroValue166 }
open Go.RowKit Go.Lib in
theorem Tryf.unicode_lookupCaseRange (T : Array CaseRow) (R oR cap : Nat) (r : Int) (w : World) (hT : CaseTab R oR T w) (hok : CaseOk T) (hn : T.size ≤ 1000000000) :
    Calls Tryf.prog 30 #[.int .i32 r, .slice (some ⟨R, oR, none⟩) T.size cap] w fun e w' =>
      e = .returned (match lookupIdx T r (T.size + 1) 0 T.size with | some i => .pointer (some ⟨R, oR + i * 5, none⟩) | none => .pointer none) ∧ w' = w := Any.unicode_lookupCaseRange Tryf.lays274 T R oR cap r w hT hok hn
def Tryf.lays275_ren : Go.Shelf.Ren := ⟨fun | 275 => 31 | n => n, fun | 3 => 3 | 21 => 21 | 160 => 153 | 0 => 0 | 208 => 166 | 206 => 164 | 4 => 4 | 51 => 34 | n => n, fun | n => n⟩
theorem Tryf.lays275 : Go.Proofs.Lays.n275 Tryf.prog Tryf.lays275_ren := {
  mixed := by kernel_rfl
  f275 := Tryf.func31.trans (congrArg some (by kernel_rfl))
  t0 := Tryf.underlying0
  a0 := Tryf.isAgg0
  z0 := Tryf.sizeOf0
  v0 := Tryf.zeroValue0
  t3 := Tryf.underlying3
  a3 := Tryf.isAgg3
  z3 := Tryf.sizeOf3
  v3 := Tryf.zeroValue3
  t4 := Tryf.underlying4
  a4 := Tryf.isAgg4
  z4 := Tryf.sizeOf4
  v4 := Tryf.zeroValue4
  t21 := Tryf.underlying21
  a21 := Tryf.isAgg21
  z21 := Tryf.sizeOf21
  v21 := Tryf.zeroValue21
  t51 := Tryf.underlying34
  a51 := Tryf.isAgg34
  z51 := Tryf.sizeOf34
  v51 := Tryf.zeroValue34
  t160 := Tryf.underlying153
  a160 := Tryf.isAgg153
  z160 := Tryf.sizeOf153
  v160 := Tryf.zeroValue153
  t206 := Tryf.underlying164
  a206 := Tryf.isAgg164
  z206 := Tryf.sizeOf164
  v206 := Tryf.zeroValue164
  t208 := Tryf.underlying166
  a208 := Tryf.isAgg166
  z208 := Tryf.sizeOf166
  v208 := Tryf.zeroValue166 }
open Go.RowKit Go.Lib in
theorem Tryf.unicode_convertCase (c : Nat) (hc : c < 3) (r : Int) (A o : Nat) (x : CaseRow) (w : World) (hlo : (x.1 : Int) ≤ r) (hhi : r ≤ (x.2.1 : Int)) (hH : x.2.1 < 2147483647) (c0 : w.cell? ⟨A, o, none⟩ = some (.int .u32 x.1)) (cD : w.cell? ⟨A, o + 2 + c, none⟩ = some (.int .i32 (x.delta c))) :
    Calls Tryf.prog 31 #[.int .i64 c, .int .i32 r, .pointer (some ⟨A, o, none⟩)] w fun e w' => e = .returned (.int .i32 (wrap32 (convertR c r x))) ∧ ∃ q, w' = w.drewN q := Any.unicode_convertCase Tryf.lays275 c hc r A o x w hlo hhi hH c0 cD
end Go.Proofs
