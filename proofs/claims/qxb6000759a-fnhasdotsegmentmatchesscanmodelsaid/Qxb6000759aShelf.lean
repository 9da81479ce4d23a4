/-
  DERIVED: THE SHELF's CONTRACTS AT THIS DUMP, IN PLAIN WORDS (tools/lay-plain.mjs out of 'TryShelf.lean', which tools/lay-shelf.mjs wrote): THE SAME DECLARATIONS UNDER THE SAME NAMES: 'import', 'namespace', 'open', 'def', 'theorem' AND NOTHING ELSE: no command of the shelf's: FOR A HAND-IN. Each laying: the table of numbers ('.._ren') and one theorem, a field a fact of the dump's own or the kernel's comparison; each contract: ONE APPLICATION.
-/
import Derived.Shelf.Small.Utf8
import Derived.Shelf.Small.Strs
import Derived.Shelf.Strings.Search1
import Derived.Shelf.Strings.Search2
import Derived.Shelf.Strings.Search3
import Derived.Shelf.Strings.Runes
import Derived.Shelf.Strings.IndexAny
import Derived.Shelf.Strings.AsciiSet
import Derived.Shelf.Strings.IndexAnyAll
import Derived.Test.Qxb6000759aProg
namespace Go.Proofs
open Go.Shelf
def Try.lays119_ren : Go.Shelf.Ren := ⟨fun | 119 => 47 | n => n, fun | 21 => 21 | 4 => 4 | n => n, fun | n => n⟩
theorem Try.lays119 : Go.Proofs.Lays.n119 Try.prog Try.lays119_ren := {
  mixed := by kernel_rfl
  f119 := Try.func47.trans (congrArg some (by kernel_rfl))
  t4 := Try.underlying4
  a4 := Try.isAgg4
  z4 := Try.sizeOf4
  v4 := Try.zeroValue4
  t21 := Try.underlying21
  a21 := Try.isAgg21
  z21 := Try.sizeOf21
  v21 := Try.zeroValue21 }
/-- utf8.ValidRune: "ValidRune reports whether r can be legally encoded as UTF-8. Code points that are out of range or a surrogate half are illegal.": IT RETURNS 'Lib.validRune r'; the world is as it was. (LAID: no walk: one application.) -/
theorem Try.utf8_ValidRune (r : Int) (w : World) :
    Calls Try.prog 47 #[.int .i32 r] w fun e w' => e = .returned (.bool (Lib.validRune r)) ∧ w' = w := Any.utf8_ValidRune Try.lays119 r w
def Try.lays137_ren : Go.Shelf.Ren := ⟨fun | 137 => 46 | 217 => 51 | 266 => 54 | n => n, fun | 9 => 9 | 5 => 5 | 3 => 3 | n => n, fun | n => n⟩
theorem Try.lays137 : Go.Proofs.Lays.n137 Try.prog Try.lays137_ren := {
  mixed := by kernel_rfl
  f137 := Try.func46.trans (congrArg some (by kernel_rfl))
  f217 := Try.func51.trans (congrArg some (by kernel_rfl))
  f266 := Try.func54.trans (congrArg some (by kernel_rfl))
  t3 := Try.underlying3
  a3 := Try.isAgg3
  z3 := Try.sizeOf3
  v3 := Try.zeroValue3
  t5 := Try.underlying5
  a5 := Try.isAgg5
  z5 := Try.sizeOf5
  v5 := Try.zeroValue5
  t9 := Try.underlying9
  a9 := Try.isAgg9
  z9 := Try.sizeOf9
  v9 := Try.zeroValue9 }
open Go.RowKit in
/-- strings.IndexByte: "IndexByte returns the index of the first instance of c in s, or -1 if c is not present in s.": IT RETURNS 'Lib.indexByte s c'; the world is as it was. (LAID: no walk: one application.) -/
theorem Try.strings_IndexByte (s : ByteArray) (c : Int) (w : World) :
    Calls Try.prog 46 #[.string s, .int .u8 c] w fun e w' => e = .returned (.int .i64 (Lib.indexByte s.data.toList c.toNat.toUInt8)) ∧ w' = w := Any.strings_IndexByte Try.lays137 s c w
def Try.lays219_ren : Go.Shelf.Ren := ⟨fun | 219 => 45 | 217 => 51 | 225 => 49 | 224 => 48 | 267 => 52 | 266 => 54 | 314 => 55 | n => n, fun | 9 => 9 | 3 => 3 | 4 => 4 | 5 => 5 | 46 => 57 | 146 => 64 | 51 => 63 | n => n, fun | 1 => 0 | n => n⟩
theorem Try.lays219 : Go.Proofs.Lays.n219 Try.prog Try.lays219_ren := {
  mixed := by kernel_rfl
  f217 := Try.func51.trans (congrArg some (by kernel_rfl))
  f219 := Try.func45.trans (congrArg some (by kernel_rfl))
  f224 := Try.func48.trans (congrArg some (by kernel_rfl))
  f225 := Try.func49.trans (congrArg some (by kernel_rfl))
  f266 := Try.func54.trans (congrArg some (by kernel_rfl))
  f267 := Try.func52.trans (congrArg some (by kernel_rfl))
  f314 := Try.func55.trans (congrArg some (by kernel_rfl))
  t3 := Try.underlying3
  a3 := Try.isAgg3
  z3 := Try.sizeOf3
  v3 := Try.zeroValue3
  t4 := Try.underlying4
  a4 := Try.isAgg4
  z4 := Try.sizeOf4
  v4 := Try.zeroValue4
  t5 := Try.underlying5
  a5 := Try.isAgg5
  z5 := Try.sizeOf5
  v5 := Try.zeroValue5
  t9 := Try.underlying9
  a9 := Try.isAgg9
  z9 := Try.sizeOf9
  v9 := Try.zeroValue9
  t46 := Try.underlying57
  a46 := Try.isAgg57
  z46 := Try.sizeOf57
  v46 := Try.zeroValue57
  t51 := Try.underlying63
  a51 := Try.isAgg63
  z51 := Try.sizeOf63
  v51 := Try.zeroValue63
  t146 := Try.underlying64
  a146 := Try.isAgg64
  z146 := Try.sizeOf64
  v146 := Try.zeroValue64
  g1 := by kernel_rfl }
open Go.RowKit Go.Lib in
/-- internal/stringslite.Index (what strings.Index calls) AT A substr OF ONE BYTE c: IT RETURNS 'Lib.indexByte s c'; the world is as it was. (LAID: no walk: one application.) -/
theorem Try.stringslite_Index_one (s : ByteArray) (c : UInt8) (w : World) :
    Calls Try.prog 45 #[.string s, .string ⟨#[c]⟩] w fun e w' => e = .returned (.int .i64 (Lib.indexByte s.data.toList c)) ∧ w' = w := Any.stringslite_Index_one Try.lays219 s c w
def Try.lays144_ren : Go.Shelf.Ren := ⟨fun | 144 => 27 | 143 => 36 | 219 => 45 | 217 => 51 | 225 => 49 | 224 => 48 | 267 => 52 | 266 => 54 | 314 => 55 | n => n, fun | 9 => 9 | 4 => 4 | 3 => 3 | 5 => 5 | 46 => 57 | 146 => 64 | 51 => 63 | n => n, fun | 1 => 0 | n => n⟩
theorem Try.lays144 : Go.Proofs.Lays.n144 Try.prog Try.lays144_ren := {
  mixed := by kernel_rfl
  f143 := Try.func36.trans (congrArg some (by kernel_rfl))
  f144 := Try.func27.trans (congrArg some (by kernel_rfl))
  f217 := Try.func51.trans (congrArg some (by kernel_rfl))
  f219 := Try.func45.trans (congrArg some (by kernel_rfl))
  f224 := Try.func48.trans (congrArg some (by kernel_rfl))
  f225 := Try.func49.trans (congrArg some (by kernel_rfl))
  f266 := Try.func54.trans (congrArg some (by kernel_rfl))
  f267 := Try.func52.trans (congrArg some (by kernel_rfl))
  f314 := Try.func55.trans (congrArg some (by kernel_rfl))
  t3 := Try.underlying3
  a3 := Try.isAgg3
  z3 := Try.sizeOf3
  v3 := Try.zeroValue3
  t4 := Try.underlying4
  a4 := Try.isAgg4
  z4 := Try.sizeOf4
  v4 := Try.zeroValue4
  t5 := Try.underlying5
  a5 := Try.isAgg5
  z5 := Try.sizeOf5
  v5 := Try.zeroValue5
  t9 := Try.underlying9
  a9 := Try.isAgg9
  z9 := Try.sizeOf9
  v9 := Try.zeroValue9
  t46 := Try.underlying57
  a46 := Try.isAgg57
  z46 := Try.sizeOf57
  v46 := Try.zeroValue57
  t51 := Try.underlying63
  a51 := Try.isAgg63
  z51 := Try.sizeOf63
  v51 := Try.zeroValue63
  t146 := Try.underlying64
  a146 := Try.isAgg64
  z146 := Try.sizeOf64
  v146 := Try.zeroValue64
  g1 := by kernel_rfl }
open Go.RowKit Go.Lib in
/-- strings.Contains: "Contains reports whether substr is within s.": AT A substr OF ONE BYTE c: IT RETURNS 'decide (0 ≤ Lib.indexByte s c)'; the world is as it was. (LAID: no walk: one application.) -/
theorem Try.strings_Contains_one (s : ByteArray) (c : UInt8) (w : World) :
    Calls Try.prog 27 #[.string s, .string ⟨#[c]⟩] w fun e w' => e = .returned (.bool (decide (0 ≤ Lib.indexByte s.data.toList c))) ∧ w' = w := Any.strings_Contains_one Try.lays144 s c w
def Try.lays152_ren : Go.Shelf.Ren := ⟨fun | 152 => 37 | 137 => 46 | 119 => 47 | 224 => 48 | 225 => 49 | 217 => 51 | 266 => 54 | n => n, fun | 9 => 9 | 21 => 21 | 3 => 3 | 4 => 4 | 5 => 5 | 0 => 0 | 46 => 57 | n => n, fun | n => n⟩
theorem Try.lays152 : Go.Proofs.Lays.n152 Try.prog Try.lays152_ren := {
  mixed := by kernel_rfl
  f119 := Try.func47.trans (congrArg some (by kernel_rfl))
  f137 := Try.func46.trans (congrArg some (by kernel_rfl))
  f152 := Try.func37.trans (congrArg some (by kernel_rfl))
  f217 := Try.func51.trans (congrArg some (by kernel_rfl))
  f224 := Try.func48.trans (congrArg some (by kernel_rfl))
  f225 := Try.func49.trans (congrArg some (by kernel_rfl))
  f266 := Try.func54.trans (congrArg some (by kernel_rfl))
  t0 := Try.underlying0
  a0 := Try.isAgg0
  z0 := Try.sizeOf0
  v0 := Try.zeroValue0
  t3 := Try.underlying3
  a3 := Try.isAgg3
  z3 := Try.sizeOf3
  v3 := Try.zeroValue3
  t4 := Try.underlying4
  a4 := Try.isAgg4
  z4 := Try.sizeOf4
  v4 := Try.zeroValue4
  t5 := Try.underlying5
  a5 := Try.isAgg5
  z5 := Try.sizeOf5
  v5 := Try.zeroValue5
  t9 := Try.underlying9
  a9 := Try.isAgg9
  z9 := Try.sizeOf9
  v9 := Try.zeroValue9
  t21 := Try.underlying21
  a21 := Try.isAgg21
  z21 := Try.sizeOf21
  v21 := Try.zeroValue21
  t46 := Try.underlying57
  a46 := Try.isAgg57
  z46 := Try.sizeOf57
  v46 := Try.zeroValue57 }
open Go.RowKit Go.Lib in
theorem Try.strings_IndexRune_ascii (s : ByteArray) (r : Int) (w : World) (h0 : 0 ≤ r) (h1 : r < 128) :
    Calls Try.prog 37 #[.string s, .int .i32 r] w fun e w' => e = .returned (.int .i64 (Lib.indexByte s.data.toList r.toNat.toUInt8)) ∧ w' = w := Any.strings_IndexRune_ascii Try.lays152 s r w h0 h1
def Try.lays153_ren : Go.Shelf.Ren := ⟨fun | 153 => 28 | 152 => 37 | 226 => 38 | 227 => 39 | 228 => 40 | 137 => 46 | 119 => 47 | 224 => 48 | 225 => 49 | 217 => 51 | 266 => 54 | n => n, fun | 9 => 9 | 3 => 3 | 4 => 4 | 5 => 5 | 21 => 21 | 117 => 55 | 116 => 54 | 0 => 0 | 46 => 57 | 124 => 61 | n => n, fun | n => n⟩
theorem Try.lays153 : Go.Proofs.Lays.n153 Try.prog Try.lays153_ren := {
  mixed := by kernel_rfl
  f119 := Try.func47.trans (congrArg some (by kernel_rfl))
  f137 := Try.func46.trans (congrArg some (by kernel_rfl))
  f152 := Try.func37.trans (congrArg some (by kernel_rfl))
  f153 := Try.func28.trans (congrArg some (by kernel_rfl))
  f217 := Try.func51.trans (congrArg some (by kernel_rfl))
  f224 := Try.func48.trans (congrArg some (by kernel_rfl))
  f225 := Try.func49.trans (congrArg some (by kernel_rfl))
  f226 := Try.func38.trans (congrArg some (by kernel_rfl))
  f227 := Try.func39.trans (congrArg some (by kernel_rfl))
  f228 := Try.func40.trans (congrArg some (by kernel_rfl))
  f266 := Try.func54.trans (congrArg some (by kernel_rfl))
  t0 := Try.underlying0
  a0 := Try.isAgg0
  z0 := Try.sizeOf0
  v0 := Try.zeroValue0
  t3 := Try.underlying3
  a3 := Try.isAgg3
  z3 := Try.sizeOf3
  v3 := Try.zeroValue3
  t4 := Try.underlying4
  a4 := Try.isAgg4
  z4 := Try.sizeOf4
  v4 := Try.zeroValue4
  t5 := Try.underlying5
  a5 := Try.isAgg5
  z5 := Try.sizeOf5
  v5 := Try.zeroValue5
  t9 := Try.underlying9
  a9 := Try.isAgg9
  z9 := Try.sizeOf9
  v9 := Try.zeroValue9
  t21 := Try.underlying21
  a21 := Try.isAgg21
  z21 := Try.sizeOf21
  v21 := Try.zeroValue21
  t46 := Try.underlying57
  a46 := Try.isAgg57
  z46 := Try.sizeOf57
  v46 := Try.zeroValue57
  t116 := Try.underlying54
  a116 := Try.isAgg54
  z116 := Try.sizeOf54
  t117 := Try.underlying55
  a117 := Try.isAgg55
  z117 := Try.sizeOf55
  v117 := Try.zeroValue55
  t124 := Try.underlying61
  a124 := Try.isAgg61
  z124 := Try.sizeOf61
  v124 := Try.zeroValue61 }
open Go.RowKit Go.Lib in
theorem Try.strings_IndexAny_long (hv116 : ∀ w, (zeroValue 54).run Try.prog w = .ok (.agg (Array.replicate 256 (.bool false))) w) (s chars : ByteArray) (w : World) (h2 : 2 ≤ chars.size) (h8 : 8 < s.size) (hs : s.size < 4294967281) (hcs : chars.size < 4294967281) (hascii : ∀ (j : Nat) b, chars.data.toList[j]? = some b → b.toNat < 128) :
    Calls Try.prog 28 #[.string s, .string chars] w fun e w' => e = .returned (.int .i64 (Lib.indexAny s.data.toList chars.data.toList)) ∧ w' = ((w.alloc (.cells (Lib.setCells chars.data.toList) 54)).alloc (.cells (Lib.setCells chars.data.toList) 54)) := Any.strings_IndexAny_long Try.lays153 hv116 (by kernel_rfl) s chars w h2 h8 hs hcs hascii
end Go.Proofs
